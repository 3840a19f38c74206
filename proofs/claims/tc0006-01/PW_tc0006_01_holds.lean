import PyProof.Rows.All
import Wide.All
import OpenK.AllK
import Wide.FinOn
import PyProof.ListRange
import PyProof.ListIndex
import PySem.Challenge.RW_tc0006_01
set_option Elab.async false
set_option maxRecDepth 100000
set_option rowWalk.seconds 0

section
open PySem PySem.W PyProof.Rows
set_option maxHeartbeats 8000000
namespace Mine
def viewP : Program := { PySem.Challenge.rw_tc0006_01.row.toRowW.prog with main := { PySem.Challenge.rw_tc0006_01.row.toRowW.prog.main with body := [0, 2, 3, 5, 6, 7, 9, 10, 11, 12, 13, 15, 16, 17, 18, 19].map fun i => PySem.Challenge.rw_tc0006_01.row.toRowW.prog.main.body.getD i (.Pass default) } }
section
local macro_rules | `(tactic| o_head ($_f $K $as $_e)) => do
  let hw := Lean.mkIdent `hw
  let hc := Lean.mkIdent `hc
  `(tactic| (refine holds_open (q := viewP) (loose := [PySem.Str.ofString "_Accumulator"]) (Xt := fun s => xlAt viewP [] s && recOk (RowW.records PySem.Challenge.rw_tc0006_01.row.toRowW) s) (XP := XL viewP []) (Yf := Hook.obs (kmHook $K $as (fun _ => by with_unfolding_all rfl) [70])) (Ya := Hook.val (kmHook $K $as (fun _ => by with_unfolding_all rfl) [70])) (YP := Hook.says (kmHook $K $as (fun _ => by with_unfolding_all rfl) [70])) (N := 1976) ?hl (Hook.of _) (Hook.keeps _) (fun s e => xl_of s (Bool.and_eq_true_iff.mp e).1) XL.keeps (by rfl) (by rfl) (by rfl) (fun s e => recFacts_of (Bool.and_eq_true_iff.mp e).2) (by rfl) (by first | assumption | decide +kernel) (by decide +kernel) ⟨rfl, rfl, rfl, rfl, rfl, by decide +kernel⟩ ?$hw ?$hc; (case hl => intro w; kernel_rfl)))
open_top hd for PySem.Challenge.rw_tc0006_01
end

theorem walk_plain : True := by
  w_top off
  trivial
end Mine
end

section
open PySem PySem.W PyProof.Rows PySem.Calls
open Sem (wp)
namespace Mine

section
variable {M : Model} {A : Around} {R : GenEnd} {Y : Protocol} {n : Nat} {s₀ : Shared} {c : Code} {fs : List Frame} {s : Shared} {env : Env}
  {K : Flow → Sem Fin} {H : Value → Sem Fin} {gd : Bool → Bool} {lv : List Value → List Value}

theorem seg_If {test : Expr} {body orelse : List Stmt} {pos : Pos}
    (h : wpAny M (A.over c fs) (isTrue test env (eval test env)) (fun b s' =>
        if b = true then Seg M A R Y n s₀ c ((execs body env).wrap K H gd lv) fs s'
        else Seg M A R Y n s₀ c ((execs orelse env).wrap K H gd lv) fs s')
      (fun x s' => Seg M A R Y n s₀ c (H x) fs s') s) :
    Seg M A R Y n s₀ c ((exec (.If test body orelse pos) env).wrap K H gd lv) fs s := by
  rw [exec_If]
  refine seg_bind_wrap (wpAny_standAt ?_)
  refine seg_bind_wrap (wpAny_mono h (fun b s' hb => ?_) fun _ _ x => x)
  cases b with
  | true => rw [if_pos rfl] at hb ⊢; exact hb
  | false => rw [if_neg Bool.false_ne_true] at hb ⊢; exact hb

theorem seg_exec {st : Stmt}
    (h : wpAny M (A.over c fs) (exec st env) (fun f s' => Seg M A R Y n s₀ c (K f) fs s') (fun x s' => Seg M A R Y n s₀ c (H x) fs s') s) :
    Seg M A R Y n s₀ c ((exec st env).wrap K H gd lv) fs s := seg_wrap h

theorem seg_For {target iter : Expr} {body orelse : List Stmt} {pos : Pos}
    (h : wpAny M (A.over c fs) (eval iter env) (fun x s₁ => wpAny M (A.over c fs) (pyIter x) (fun it s₂ =>
        ∀ p l, Seg M A R Y n s₀ (.forLoop target it body orelse env) (M.den (.forLoop target it body orelse env))
          (.ret (fun r => ((match r with | .ok f => (.pure f : Sem Flow) | .error e => .raise e).onRaise fun (x : Value) => do
            if (← field x 1) == Value.none then unsupported "frame.own-activation:exception-without-traceback"
            setFlight x env.frame).wrap K H gd lv) none (gd false) l c p [] :: fs) s₂)
        (fun x s' => Seg M A R Y n s₀ c (H x) fs s') s₁) (fun x s' => Seg M A R Y n s₀ c (H x) fs s') s)
    (hs : ∀ x, foldedSetIterable iter env x = pure x := by intro _; rfl) :
    Seg M A R Y n s₀ c ((exec (.For target iter body orelse pos) env).wrap K H gd lv) fs s := by
  rw [exec_For]
  refine seg_bind_wrap (wpAny_standAt ?_)
  refine seg_bind_wrap (wpAny_mono h (fun x s₁ h₁ => ?_) fun _ _ x => x)
  refine seg_bind_wrap (wpAny_of_eq (hs x) ?_)
  refine seg_bind_wrap (wpAny_standAt ?_)
  refine seg_bind_wrap (wpAny_holding (wpAny_mono h₁ (fun it s₂ h₂ => ?_) fun _ _ x => x))
  exact seg_call fun p => h₂ p _
end

section
variable {prog : Program} {w : World} {A : Around} {R : GenEnd} {Y : Protocol} {n : Nat} {s₀ : Shared} {fs : List Frame} {s : Shared} {env : Env}

abbrev forH (env : Env) (e : Value) : Sem Fin := (do noteFrame e env; theTreesLotGoes e : Sem Unit).wrap (fun _ => .raise e) .raise id id
abbrev forK (target : Expr) (it : Value) (body orelse : List Stmt) (env : Env) (f : Flow) : Sem Fin := match f with
  | .next | .cont => .pure (.again (.forLoop target it body orelse env))
  | .brk => .pure (.done .next)
  | .ret v => .pure (.done (.ret v))

theorem seg_forLoop {target : Expr} {it : Value} {body orelse : List Stmt}
    (h : wpAny (model prog w) (A.over (.forLoop target it body orelse env) fs) (pyNext it) (fun r s₁ => match r with
        | none => Seg (model prog w) A R Y n s₀ (.block orelse env) ((model prog w).den (.block orelse env)) fs s₁
        | some v => wpAny (model prog w) (A.over (.forLoop target it body orelse env) fs) (letOwnedTupleGo target it v) (fun _ s₂ =>
            wpAny (model prog w) (A.over (.forLoop target it body orelse env) fs) (assign target env v) (fun _ s₃ =>
              Seg (model prog w) A R Y n s₀ (.forLoop target it body orelse env) ((execs body env).wrap (forK target it body orelse env) (forH env) id id) fs s₃)
              (fun _ _ => False) s₂) (fun _ _ => False) s₁)
      (fun _ _ => False) s) :
    Seg (model prog w) A R Y n s₀ (.forLoop target it body orelse env) ((model prog w).den (.forLoop target it body orelse env)) fs s := by
  show Seg _ A R Y n s₀ _ ((forTurn target it body orelse env).onRaise (fun x => do noteFrame x env; theTreesLotGoes x)) fs s
  unfold forTurn
  rw [Sem.onRaise_eq_wrap]
  refine seg_bind_wrap (wpAny_standAt ?_)
  refine seg_bind_wrap (wpAny_onRaise (wpAny_mono h (fun r s₁ h₁ => ?_) fun _ _ x => x.elim))
  cases r with
  | none => exact seg_again rfl h₁
  | some v =>
    refine seg_bind_wrap (wpAny_mono h₁ (fun _ s₂ h₂ => ?_) fun _ _ x => x.elim)
    refine seg_bind_wrap (wpAny_mono h₂ (fun _ s₃ h₃ => ?_) fun _ _ x => x.elim)
    rw [Sem.bind_eq_wrap', Sem.wrap_wrap]
    rw [Sem.wrap_congr (execs body env) _ _ (K' := forK target it body orelse env) (H' := forH env)
      (fun f => by cases f <;> rfl)
      (fun e => by show (do noteFrame e env; theTreesLotGoes e : Sem Unit).bind (fun _ => .raise e) = _; rw [Sem.bind_eq_wrap])]
    exact h₃

theorem seg_block_nil {env : Env} {n' : Nat} (h : ∀ (k : Result → Sem Fin) hd g l c₁ p₁ kp fs', fs = .ret k hd g l c₁ p₁ kp :: fs' → Seg (model prog w) A R Y n' s₀ c₁ (k (.ok .next)) fs' s)
    (hf : ∃ k hd g l c₁ p₁ kp fs', fs = .ret k hd g l c₁ p₁ kp :: fs') :
    Seg (model prog w) A R Y n' s₀ (.block [] env) ((model prog w).den (.block [] env)) fs s := by
  obtain ⟨k, hd, g, l, c₁, p₁, kp, fs', rfl⟩ := hf
  exact seg_leaf (.ok .next) (h _ _ _ _ _ _ _ _ rfl)
end
end Mine
end

section
open PySem PySem.W PyProof.Rows PySem.Calls
open Sem (wp)
namespace Mine

def fnBody (i : Nat) : List Stmt := match PySem.Challenge.pw_tc0006_01.main.body[i]? with
  | some (.FunctionDef _ _ b _ _ _ _ _ _ _) => b
  | _ => []
def fnScope (i : Nat) : Scope := match PySem.Challenge.pw_tc0006_01.main.body[i]? with
  | some (.FunctionDef _ _ _ _ _ _ s _ _ _) => s
  | _ => default
def fnName (i : Nat) : Str := match PySem.Challenge.pw_tc0006_01.main.body[i]? with
  | some (.FunctionDef n _ _ _ _ _ _ _ _ _) => n
  | _ => default
def stmtAt (l : List Stmt) (i : Nat) : Stmt := l.getD i (.Pass default)
def forTarget : Stmt → Expr
  | .For t _ _ _ _ => t
  | _ => .Name default default
def forBody : Stmt → List Stmt
  | .For _ _ b _ _ => b
  | _ => []
abbrev escI : Nat := 5
def escFor : Stmt := stmtAt (fnBody escI) 2

/-- what the generator yields from place p on, the flag escape as told -/
def escF (esc : Bool) (p : Nat) : List Nat → List (Int × Str)
  | [] => if esc then [(((p - 1 : Nat) : Int), ⟨#[92]⟩)] else []
  | c :: r => if esc then ((p : Int), ⟨#[92, c]⟩) :: escF false (p + 1) r
    else if c = 92 then escF true (p + 1) r
    else ((p : Int), ⟨#[c]⟩) :: escF false (p + 1) r

theorem draws_str {prog : Program} {w : World} {A : Around} (hh : A.handled = none) (it : Addr) (x : Str) (t : Tok) :
    Draws prog w A it [it] x.cps.size (fun i v => ∃ c u, x.cps[i]? = some c ∧ v = .str ⟨#[c]⟩ u) (fun i h => h.IsStrIter it (strIterType x) x t i) := by
  unfold strIterType
  cases ha : x.cps.all (· < 128)
  · simpa [ha] using Draws.strWide hh it x t
  · simpa [ha] using Draws.strAscii hh it x t

abbrev escEnv (L a : Addr) (cd : Value) : Env := envOf (fnName escI) (fnScope escI) L a cd

/-- the generator's word: at each yield the next pair, and what it wrote -/
def escProto (L e it : Addr) (all : List (Int × Str)) : Protocol := fun m s₀ v s kap =>
  (∃ x, all[all.length - 1 - m]? = some x ∧ ∃ T t u, v = .ref T ∧ s.heap.IsTuple T #[.int x.1 t, .str x.2 u]) ∧ ((∃ o, s.heap.get? L = some o) ∧ ∃ o, s.heap.get? e = some o) ∧ GenSince L [e, it] s₀ s ∧
    ∀ s'' : Shared, (∀ b ∈ [L, e, it], ∀ o, s.heap.get? b = some o → s''.heap.get? b = some o) → kap (.send .none) s''

abbrev escR (L e it : Addr) : GenEnd := fun n s₀ r s₁ => r = .ok (.ret .none) ∧ (n = 0 ∧ GenSince L [e, it] s₀ s₁)

theorem getElem_pre {α : Type} {all pre : List α} {x : α} {rest : List α} (h : all = pre ++ x :: rest) : all[all.length - 1 - rest.length]? = some x := by
  subst h
  have : (pre ++ x :: rest).length - 1 - rest.length = pre.length := by simp
  rw [this, List.getElem?_append_right (Nat.le_refl _), Nat.sub_self]; rfl

structure EscM (x : Str) (tx : Tok) (i : Nat) (esc : Bool) (m : Str → Option Value) : Prop where
  addr : m "addr" = some (.str x tx)
  pos : ∃ t, m "pos" = some (.int ((i - 1 : Nat) : Int) t)
  escape : m "escape" = some (.bool esc)

section
variable {prog : Program} {w : World} {A : Around}

theorem isTrue_boolName {M : Model} {A : Around} {E : Value → Shared → Prop} {s : Shared} {y : Str} {py : Pos} {L a : Addr} {cd : Value} {m : Str → Option Value} {b : Bool} {Q : Bool → Shared → Prop} (hl : (escEnv L a cd).kindOf y = some .local) (hd : (y == ("__debug__" : Str)) = false) (hn : s.heap.Ns L m) (hv : m y = some (.bool b)) (h : Q b s) :
    wpAny M A (isTrue (.Name y py) (escEnv L a cd) (eval (.Name y py) (escEnv L a cd))) Q E s := by
  refine wpAny_isTrue_value (wpAny_Name (wpAny_loadName_local rfl hl hn hv ?_) hd)
  exact wpAny_pure h

theorem esc_loop (x : Str) (tx : Tok) (L a : Addr) (cd : Value) (e it : Addr) (hei : e ≠ it) (hLe : L ≠ e) (hLi : L ≠ it) (all : List (Int × Str))
    (kf : Result → Sem Fin) (lv : List Value) (c₁ : Code) (p₁ : Pos)
    (hmark : (A.over (.forLoop (forTarget escFor) (.ref e) (forBody escFor) [] (escEnv L a cd)) [.ret kf none false lv c₁ p₁ []]).handled = none)
    (hend : ∀ (n : Nat) (s₀ s : Shared) (m : Str → Option Value) (esc : Bool) (pre : List (Int × Str)), s.heap.Ns L m → EscM x tx x.cps.size esc m → all = pre ++ escF esc x.cps.size [] → n = (escF esc x.cps.size []).length →
      GenSince L [e, it] s₀ s → (∃ o, s.heap.get? e = some o) →
      Seg (model prog w) A (escR L e it) (escProto L e it all) n s₀ c₁ (kf (.ok .next)) [] s) :
    ∀ (k i : Nat) (n : Nat) (s₀ s : Shared) (m : Str → Option Value) (esc : Bool) (pre : List (Int × Str)), x.cps.size - i = k → i ≤ x.cps.size →
      s.heap.Ns L m → EscM x tx i esc m → all = pre ++ escF esc i (x.cps.toList.drop i) → n = (escF esc i (x.cps.toList.drop i)).length →
      GenSince L [e, it] s₀ s → ((∃ old, IsEnum s.heap e it (i : Int) old) ∧ s.heap.IsStrIter it (strIterType x) x tx i) →
      Seg (model prog w) A (escR L e it) (escProto L e it all) n s₀ (.forLoop (forTarget escFor) (.ref e) (forBody escFor) [] (escEnv L a cd))
        ((model prog w).den (.forLoop (forTarget escFor) (.ref e) (forBody escFor) [] (escEnv L a cd))) [.ret kf none false lv c₁ p₁ []] s := by
  have hei' : e ∉ [it] := by simpa using hei
  intro k
  induction k with
  | zero =>
    intro i n s₀ s m esc pre hk hi hn hM hall hlen hs hst
    have hin : i = x.cps.size := by omega
    subst hin
    refine seg_forLoop ?_
    obtain ⟨⟨old, he⟩, hs'⟩ := hst
    refine wpAny_pyNext_enum_endD (draws_str (prog := prog) (w := w) (A := (A.over (.forLoop (forTarget escFor) (.ref e) (forBody escFor) [] (escEnv L a cd)) [.ret kf none false lv c₁ p₁ []]).in1) hmark it x tx) he hs' fun h' hx => ?_
    have hd : x.cps.toList.drop x.cps.size = [] := by simp
    rw [hd] at hall hlen
    exact seg_leaf (.ok .next) (hend n s₀ { s with heap := h' } m esc pre (hn.at' fun o y => hx _ o hLi y) hM hall hlen (hs.step fun b o h1 h2 y => hx b o (fun q => h2 (by simp [q])) y) ⟨_, hx _ _ hei he⟩)
  | succ k ih =>
    intro i n s₀ s m esc pre hk hi hn hM hall hlen hs hst
    have hlt : i < x.cps.size := by omega
    have W := WalksT.enumerateD (draws_str (prog := prog) (w := w) (A := (A.over (.forLoop (forTarget escFor) (.ref e) (forBody escFor) [] (escEnv L a cd)) [.ret kf none false lv c₁ p₁ []]).in1) hmark it x tx) e hei hei' (by simp)
    refine seg_forLoop (W.item i s _ _ hlt hst fun T vals h₁ tk₁ hP hT htup hmid hk₁ => ?_)
    obtain ⟨t, v, ⟨c, u, hc, rfl⟩, rfl⟩ := hP
    have hcl : x.cps.toList.drop i = c :: x.cps.toList.drop (i + 1) := by
      have h2 : x.cps.toList[i]? = some c := by simpa using hc
      obtain ⟨h3, h4⟩ := List.getElem?_eq_some_iff.mp h2
      rw [List.drop_eq_getElem_cons h3, h4]
    rw [hcl] at hall hlen
    have hLw : L ∉ [e, it] := by simp [hLe, hLi]
    have hTw := W.apart i T h₁ hmid
    refine W.go _ _ _ i T _ _ _ hmid fun h₂ hst₂ hk₂ => ?_
    have htup₂ : h₂.IsTuple T #[.int i t, .str ⟨#[c]⟩ u] := htup.at fun o y => hk₂ T o hTw y
    refine wpAny_assign_Tuple hmark htup₂ rfl rfl fun h₃ hx₃ => ?_
    replace hx₃ : Heap.ExtBut h₂.objs.size h₂ h₃ := hx₃
    have ext₃ : ∀ b o, h₂.get? b = some o → h₃.get? b = some o := fun b o y => hx₃ b o (Nat.ne_of_lt (Heap.lt_size y)) y
    have hn₃ : h₃.Ns L m := ((hn.at' fun o y => hk₁ L o hLw y).at' fun o y => hk₂ L o hLw y).at' fun o y => ext₃ L o y
    show wpAny _ _ (do holding [.str ⟨#[c]⟩ u] (assign (.Name "pos" _) (escEnv L a cd) (.int i t)); do holding [] (assign (.Name "ch" _) (escEnv L a cd) (.str ⟨#[c]⟩ u)); pure ()) _ _ _
    refine wpAny_bind (wpAny_holding (wpAny_assign_Name (wpAny_storeName_local rfl hn₃ (fun h₄ hn₄ hs₄ => ?_) rfl)))
    replace hs₄ : Heap.SameBut L h₃ h₄ := hs₄
    refine wpAny_bind (wpAny_holding (wpAny_assign_Name (wpAny_storeName_local rfl hn₄ (fun h₅ hn₅ hs₅ => wpAny_pure ?_) rfl)))
    replace hs₅ : Heap.SameBut L h₄ h₅ := hs₅
    have up : ∀ b o, b ≠ L → h₂.get? b = some o → h₅.get? b = some o := fun b o hb y => hs₅.extBut b o hb (hs₄.extBut b o hb (ext₃ b o y))
    have upS : ∀ b o, b ≠ L → b ∉ [e, it] → s.heap.get? b = some o → h₅.get? b = some o := fun b o hb hw y => up b o hb (hk₂ b o hw (hk₁ b o hw y))
    have hst₅ : (∃ old, IsEnum h₅ e it (((i + 1 : Nat)) : Int) old) ∧ h₅.IsStrIter it (strIterType x) x tx (i + 1) := by
      obtain ⟨⟨old, q1⟩, oi, q2, q3, q4⟩ := hst₂
      exact ⟨⟨old, up e _ hLe.symm q1⟩, oi, up it _ hLi.symm q2, q3, q4⟩
    have hsince₅ : ∀ tk, GenSince L [e, it] s₀ { s with heap := h₅, toks := tk } := fun tk => hs.step fun b o h1 h2 y => upS b o h1 h2 y
    have haliveL : ∃ o, h₅.get? L = some o := let ⟨o, _, _, y, _⟩ := hn₅; ⟨o, y⟩
    have halivee : ∃ o, h₅.get? e = some o := let ⟨⟨_, y⟩, _⟩ := hst₅; ⟨_, y⟩
    clear hs₅ hs₄ hn₄ hn₃ ext₃ hx₃ htup₂ hk₂ hst₂ hTw hmid htup hk₁ up upS hst hn
    have e1 : (fun y => if y = ("ch" : Str) then some (Value.str ⟨#[c]⟩ u) else if y = ("pos" : Str) then some (Value.int i t) else m y) "escape" = some (.bool esc) := by
      show (if ("escape" : Str) = "ch" then _ else if ("escape" : Str) = "pos" then _ else m "escape") = _
      rw [if_neg (by decide), if_neg (by decide)]; exact hM.escape
    have e2 : (fun y => if y = ("ch" : Str) then some (Value.str ⟨#[c]⟩ u) else if y = ("pos" : Str) then some (Value.int i t) else m y) "pos" = some (.int i t) := by
      show (if ("pos" : Str) = "ch" then _ else if ("pos" : Str) = "pos" then _ else m "pos") = _
      rw [if_neg (by decide), if_pos rfl]
    have e3 : (fun y => if y = ("ch" : Str) then some (Value.str ⟨#[c]⟩ u) else if y = ("pos" : Str) then some (Value.int i t) else m y) "ch" = some (.str ⟨#[c]⟩ u) := if_pos rfl
    have e4 : (fun y => if y = ("ch" : Str) then some (Value.str ⟨#[c]⟩ u) else if y = ("pos" : Str) then some (Value.int i t) else m y) "addr" = some (.str x tx) := by
      show (if ("addr" : Str) = "ch" then _ else if ("addr" : Str) = "pos" then _ else m "addr") = _
      rw [if_neg (by decide), if_neg (by decide)]; exact hM.addr
    replace hn₅ : h₅.Ns L (fun y => if y = ("ch" : Str) then some (Value.str ⟨#[c]⟩ u) else if y = ("pos" : Str) then some (Value.int i t) else m y) := hn₅
    generalize (fun y => if y = ("ch" : Str) then some (Value.str ⟨#[c]⟩ u) else if y = ("pos" : Str) then some (Value.int i t) else m y) = m₅ at hn₅ e1 e2 e3 e4
    clear hM hs
    have hM₅ : ∀ (m' : Str → Option Value) esc', m' "addr" = m₅ "addr" → m' "pos" = m₅ "pos" → m' "escape" = some (.bool esc') → EscM x tx (i + 1) esc' m' := fun m' esc' h1 h2 h3 => ⟨h1.trans e4, ⟨t, h2.trans e2⟩, h3⟩
    refine seg_execs_cons (seg_If (isTrue_boolName rfl (by decide) hn₅ e1 ?_))
    cases esc with
    | true =>
      rw [if_pos rfl]
      simp only [escF, if_true] at hall hlen
      rw [List.length_cons] at hlen
      subst hlen
      refine seg_execs_cons (seg_Expr_Yield (gd := id) rfl rfl rfl ?_)
      refine wpAny_Tuple (spliced_cons (wpAny_Name (wpAny_loadName_local rfl rfl hn₅ e2 (spliced_cons (wpAny_BinOp (wpAny_Constant_str (wpAny_Name (wpAny_loadName_local rfl rfl hn₅ e3 (add_str ?_)))))))))
      refine fun t' tk' => spliced_nil ⟨(by decide : (2 : Nat) ≤ sizeLine), fun kap hkap => ⟨⟨_, getElem_pre hall, h₅.objs.size, t, t', rfl, ⟨_, Heap.get?_push_size _ rfl, rfl, _, rfl⟩⟩, ⟨let ⟨o, y⟩ := haliveL; ⟨o, Heap.get?_push_of_some _ y⟩, let ⟨o, y⟩ := halivee; ⟨o, Heap.get?_push_of_some _ y⟩⟩, ?_, ?_⟩⟩
      · exact (hsince₅ 0).step fun b o _ _ y => Heap.get?_push_of_some _ y
      · intro s'' hal
        refine hkap .none s'' ?_
        have hn₆ : s''.heap.Ns L m₅ := hn₅.at' fun o y => hal L (by simp) o (Heap.get?_push_of_some _ y)
        have hst₆ : (∃ old, IsEnum s''.heap e it (((i + 1 : Nat)) : Int) old) ∧ s''.heap.IsStrIter it (strIterType x) x tx (i + 1) := by
          obtain ⟨⟨old, q1⟩, oi, q2, q3, q4⟩ := hst₅
          exact ⟨⟨old, hal e (by simp) _ (Heap.get?_push_of_some _ q1)⟩, oi, hal it (by simp) _ (Heap.get?_push_of_some _ q2), q3, q4⟩
        refine seg_execs_cons (seg_exec (wpAny_Assign_Name (wpAny_Constant_bool (wpAny_storeName_local rfl hn₆ (fun h₇ hn₇ hs₇ => ?_) rfl))))
        replace hs₇ : Heap.SameBut L s''.heap h₇ := hs₇
        refine seg_again rfl (ih (i + 1) _ s'' _ _ false (pre ++ [_]) (by omega) hlt hn₇ (hM₅ _ false rfl rfl (if_pos rfl)) (by rw [List.append_assoc]; exact hall) rfl
          (⟨h₇, _, rfl, fun b o h1 _ y => hs₇.extBut b o h1 y⟩) ?_)
        obtain ⟨⟨old, q1⟩, oi, q2, q3, q4⟩ := hst₆
        exact ⟨⟨old, hs₇.extBut e _ hLe.symm q1⟩, oi, hs₇.extBut it _ hLi.symm q2, q3, q4⟩
    | false =>
      rw [if_neg Bool.false_ne_true]
      simp only [escF, Bool.false_eq_true, if_false] at hall hlen
      refine seg_execs_cons (seg_If (wpAny_isTrue_Compare1 (wpAny_Name (wpAny_loadName_local rfl rfl hn₅ e3 (wpAny_Constant_str (eq_str ?_))))))
      refine wpAny_pure ?_
      by_cases hc92 : c = 92
      · subst hc92
        rw [if_pos (by decide)]
        simp only [if_true] at hall hlen
        refine seg_execs_cons (seg_exec (wpAny_Assign_Name (wpAny_Constant_bool (wpAny_storeName_local rfl hn₅ (fun h₇ hn₇ hs₇ => ?_) rfl))))
        replace hs₇ : Heap.SameBut L h₅ h₇ := hs₇
        refine seg_again rfl (ih (i + 1) _ _ _ _ true pre (by omega) hlt hn₇ (hM₅ _ true rfl rfl (if_pos rfl)) hall hlen
          ((hsince₅ _).step fun b o h1 _ y => hs₇.extBut b o h1 y) ?_)
        obtain ⟨⟨old, q1⟩, oi, q2, q3, q4⟩ := hst₅
        exact ⟨⟨old, hs₇.extBut e _ hLe.symm q1⟩, oi, hs₇.extBut it _ hLi.symm q2, q3, q4⟩
      · rw [if_neg (by
          intro h
          have h' : [c] = (Str.ofString "\\").cps.toList := congrArg (fun z : Str => z.cps.toList) (eq_of_beq h)
          rw [show (Str.ofString "\\").cps.toList = [92] from by decide +kernel] at h'
          exact hc92 (List.head_eq_of_cons_eq h'))]
        simp only [if_neg hc92] at hall hlen
        rw [List.length_cons] at hlen
        subst hlen
        refine seg_execs_cons (seg_Expr_Yield (gd := id) rfl rfl rfl ?_)
        refine wpAny_Tuple (spliced_cons (wpAny_Name (wpAny_loadName_local rfl rfl hn₅ e2 (spliced_cons (wpAny_Name (wpAny_loadName_local rfl rfl hn₅ e3 (spliced_nil ⟨(by decide : (2 : Nat) ≤ sizeLine), fun kap hkap => ⟨⟨_, getElem_pre hall, h₅.objs.size, t, _, rfl, ⟨_, Heap.get?_push_size _ rfl, rfl, _, rfl⟩⟩, ⟨let ⟨o, y⟩ := haliveL; ⟨o, Heap.get?_push_of_some _ y⟩, let ⟨o, y⟩ := halivee; ⟨o, Heap.get?_push_of_some _ y⟩⟩, ?_, ?_⟩⟩)))))))
        · exact (hsince₅ 0).step fun b o _ _ y => Heap.get?_push_of_some _ y
        · intro s'' hal
          refine hkap .none s'' ?_
          have hn₆ : s''.heap.Ns L m₅ := hn₅.at' fun o y => hal L (by simp) o (Heap.get?_push_of_some _ y)
          have hst₆ : (∃ old, IsEnum s''.heap e it (((i + 1 : Nat)) : Int) old) ∧ s''.heap.IsStrIter it (strIterType x) x tx (i + 1) := by
            obtain ⟨⟨old, q1⟩, oi, q2, q3, q4⟩ := hst₅
            exact ⟨⟨old, hal e (by simp) _ (Heap.get?_push_of_some _ q1)⟩, oi, hal it (by simp) _ (Heap.get?_push_of_some _ q2), q3, q4⟩
          exact seg_again rfl (ih (i + 1) _ s'' _ _ false (pre ++ [_]) (by omega) hlt hn₆ (hM₅ _ false rfl rfl e1) (by rw [List.append_assoc]; exact hall) rfl (GenSince.refl _ _ _) hst₆)
end
end Mine
end

section
open PySem PySem.W PyProof.Rows PySem.Calls
open Sem (wp)
namespace Mine
section
variable {prog : Program} {w : World} {A : Around}

theorem over_ret_none {A : Around} (hh : A.handled = none) (c : Code) (kf : Result → Sem PySem.Fin) (g : Bool) (lv : List Value) (c₁ : Code) (p₁ : Pos) (kp : List Value) :
    (A.over c [.ret kf none g lv c₁ p₁ kp]).handled = none := by
  show (Frame.marks (.ret kf none g lv c₁ p₁ kp) (A.handled, A.handled)).1 = none
  rw [hh]; rfl

theorem over_nil {A : Around} (hh : A.handled = none) (c : Code) : (A.over c []).handled = none := hh

theorem esc_start (hh : A.handled = none) (x : Str) (tx : Tok) (L a : Addr) (cd : Value) (mg mb m₀ : Str → Option Value) (s : Shared)
    (hn : s.heap.Ns L m₀) (ha : m₀ "addr" = some (.str x tx)) (hg : s.heap.Ns mainGlobals mg) (hge : mg "enumerate" = none) (hb : s.heap.Ns builtinsNs mb) (hbe : mb "enumerate" = some (.type "enumerate"))
    (hLg : L ≠ mainGlobals) (hLb : L ≠ builtinsNs) :
    Seg (model prog w) A (escR L (s.heap.objs.size + 1) s.heap.objs.size) (escProto L (s.heap.objs.size + 1) s.heap.objs.size (escF false 0 x.cps.toList)) (escF false 0 x.cps.toList).length s
      (.func (fnBody escI) (escEnv L a cd)) ((model prog w).den (.func (fnBody escI) (escEnv L a cd))) [] s := by
  have hLs : L < s.heap.objs.size := hn.lt
  refine seg_func ?_
  refine seg_execs_cons (seg_exec (wpAny_Assign_Name (wpAny_Constant_int (wpAny_storeName_local rfl hn (fun h₁ hn₁ hs₁ => ?_) rfl))))
  replace hs₁ : Heap.SameBut L s.heap h₁ := hs₁
  refine seg_execs_cons (seg_exec (wpAny_Assign_Name (wpAny_Constant_bool (wpAny_storeName_local rfl hn₁ (fun h₂ hn₂ hs₂ => ?_) rfl))))
  replace hs₂ : Heap.SameBut L h₁ h₂ := hs₂
  have hz : h₂.objs.size = s.heap.objs.size := by rw [hs₂.1, hs₁.1]
  have up : ∀ b o, b ≠ L → s.heap.get? b = some o → h₂.get? b = some o := fun b o hb y => hs₂.extBut b o hb (hs₁.extBut b o hb y)
  refine seg_execs_cons (seg_For ?_)
  refine wpAny_Call_Name_kw (Name_function_global rfl rfl (loadGlobal_builtin (hg.at' fun o y => up _ o hLg.symm y) hge (hb.at' fun o y => up _ o hLb.symm y) hbe ?_) (by decide))
  have hva : (fun y => if y = ("escape" : Str) then some (Value.bool false) else if y = ("pos" : Str) then some (Value.int 0 s.toks) else m₀ y) "addr" = some (.str x tx) := by
    show (if ("addr" : Str) = "escape" then _ else if ("addr" : Str) = "pos" then _ else m₀ "addr") = _
    rw [if_neg (by decide), if_neg (by decide)]; exact ha
  refine callWith_type1 (wpAny_Name (wpAny_loadName_local rfl rfl hn₂ hva (call_enumerate_str fun h₃ he₃ hi₃ hz₃ hk₃ => ?_)))
  refine wpAny_pyIter_enum he₃ ?_
  intro p l
  replace he₃ : IsEnum h₃ (h₂.objs.size + 1) h₂.objs.size 0 .none := he₃
  replace hi₃ : h₃.IsStrIter h₂.objs.size (strIterType x) x tx 0 := hi₃
  replace hk₃ : ∀ b o, h₂.get? b = some o → h₃.get? b = some o := hk₃
  rw [hz] at he₃ hi₃
  show Seg _ _ _ _ _ _ (.forLoop (forTarget escFor) (.ref (h₂.objs.size + 1)) (forBody escFor) [] (escEnv L a cd)) _ _ _
  rw [hz]
  refine esc_loop x tx L a cd (s.heap.objs.size + 1) s.heap.objs.size (Nat.succ_ne_self _) (Nat.ne_of_lt (Nat.lt_succ_of_lt hLs)) (Nat.ne_of_lt hLs) (escF false 0 x.cps.toList) _ l _ p (over_ret_none hh ..)
    (fun n s₀ s₁ m esc pre hn' hM hall hlen hsince halv => ?_) x.cps.size 0 _ s _ _ false [] (Nat.sub_zero _) (Nat.zero_le _) (hn₂.at' fun o y => hk₃ _ o y) ⟨hva, ⟨s.toks, ?_⟩, ?_⟩ rfl rfl ⟨h₃, _, rfl, fun b o hb _ y => hk₃ b o (up b o hb y)⟩ ⟨⟨_, he₃⟩, hi₃⟩
  · show Seg _ _ _ _ _ _ _ ((execs [stmtAt (fnBody escI) 3] (escEnv L a cd)).wrap _ _ _ _) [] s₁
    refine seg_execs_cons (seg_If (isTrue_boolName rfl (by decide) hn' hM.escape ?_))
    cases esc with
    | false =>
      rw [if_neg Bool.false_ne_true]
      simp only [escF, Bool.false_eq_true, if_false, List.length_nil] at hlen
      exact seg_end (.ok (.ret .none)) ⟨rfl, hlen, hsince⟩
    | true =>
      rw [if_pos rfl]
      simp only [escF, if_true, List.length_cons, List.length_nil] at hall hlen
      subst hlen
      obtain ⟨t, ht⟩ := hM.pos
      refine seg_execs_cons (seg_Expr_Yield (gd := id) rfl rfl rfl ?_)
      refine wpAny_Tuple (spliced_cons (wpAny_Name (wpAny_loadName_local rfl rfl hn' ht ?_)))
      refine spliced_cons ?_
      refine wpAny_Constant_str (k := 0) (pos := default) ?_
      refine spliced_nil ⟨(by decide : (2 : Nat) ≤ sizeLine), fun kap hkap => ⟨⟨_, getElem_pre hall, s₁.heap.objs.size, t, _, rfl, ⟨_, Heap.get?_push_size _ rfl, rfl, _, rfl⟩⟩, ⟨let ⟨o, _, _, y, _⟩ := hn'; ⟨o, Heap.get?_push_of_some _ y⟩, let ⟨o, y⟩ := halv; ⟨o, Heap.get?_push_of_some _ y⟩⟩, ?_, ?_⟩⟩
      · exact hsince.step fun b o _ _ y => Heap.get?_push_of_some _ y
      · intro s'' hal
        refine hkap .none s'' ?_
        exact seg_end (.ok (.ret .none)) ⟨rfl, rfl, GenSince.refl _ _ _⟩
  · show (if ("pos" : Str) = "escape" then _ else if ("pos" : Str) = "pos" then _ else m₀ "pos") = _
    rw [if_neg (by decide), if_pos rfl]; rfl
  · exact if_pos rfl
end
end Mine
end

section
open PySem PySem.W PyProof.Rows PySem.Calls
open Sem (wp)
namespace Mine

/-- the generator stands behind its first j pairs; fr: it has not run yet -/
def EscAt (prog : Program) (w : World) (A : Around) (ga g L e it : Nat) (all : List (Int × Str)) (j : Nat) (fr : Bool) (s : Shared) : Prop :=
  s.heap.IsGen ga g ∧ ∃ gs, s.gens[g]? = some gs ∧ gs.bare = true ∧ ∀ s'' : Shared, (∀ b ∈ [L, e, it], ∀ o, s.heap.get? b = some o → s''.heap.get? b = some o) → (fr = true → s''.heap = s.heap) →
    gs.Goes (model prog w) A.in1 (escR L e it) (escProto L e it all) (all.length - j) (.send .none) s''

theorem EscAt.frame {prog : Program} {w : World} {A : Around} {ga g L e it : Nat} {all : List (Int × Str)} {j : Nat} {s s' : Shared}
    (h : EscAt prog w A ga g L e it all j false s) (hk : ∀ b ∈ [ga, L, e, it], ∀ o, s.heap.get? b = some o → s'.heap.get? b = some o) (hg : s'.gens[g]? = s.gens[g]?) :
    EscAt prog w A ga g L e it all j false s' := by
  obtain ⟨⟨o, nm, qn, ho, r⟩, gs, h1, h2, h3⟩ := h
  exact ⟨⟨o, nm, qn, hk ga (by simp) o ho, r⟩, gs, hg.trans h1, h2, fun s'' hal _ => h3 s'' (fun b hb o y => hal b hb o (hk b (List.mem_cons_of_mem _ hb) o y)) (fun z => nomatch z)⟩

section
variable {prog : Program} {w : World} {A : Around} {E : Value → Shared → Prop} {s : Shared}

theorem escNext {ga g L e it j : Nat} {all : List (Int × Str)} {fr : Bool} {Q : Option Value → Shared → Prop} (hh : A.handled = none) (hl : s.heap.NoLimit) (hroom : A.depth < recursionLimit)
    (hE : EscAt prog w A ga g L e it all j fr s) (hjl : j ≤ all.length) (hga : ga ≠ L ∧ ga ≠ e ∧ ga ≠ it)
    (hY : ∀ x T t u h' tk gs', all[j]? = some x → h'.IsTuple T #[.int x.1 t, .str x.2 u] → ((∃ o, h'.get? L = some o) ∧ ∃ o, h'.get? e = some o) → (∀ b o, b ≠ L → b ∉ [e, it] → s.heap.get? b = some o → h'.get? b = some o) → gs'.bare = true →
      EscAt prog w A ga g L e it all (j + 1) false { s with heap := h', toks := tk, gens := (s.gens.setIfInBounds g .running).setIfInBounds g gs' } →
      Q (some (.ref T)) { s with heap := h', toks := tk, gens := (s.gens.setIfInBounds g .running).setIfInBounds g gs' })
    (hP : ∀ h' tk, j = all.length → (∀ b o, b ≠ L → b ∉ [e, it] → s.heap.get? b = some o → h'.get? b = some o) →
      Q none { s with heap := h', toks := tk, gens := (s.gens.setIfInBounds g .running).setIfInBounds g .finished }) :
    wpAny (model prog w) A (pyNext (.ref ga)) Q E s := by
  obtain ⟨hg, gs, hgs, hbare, hgo0⟩ := hE
  have hgo := hgo0 (s.setGen g .running) (fun _ _ _ y => y) (fun _ => rfl)
  unfold pyNext
  refine wpAny_bind (wpAny_attempt (wpAny_callSpecial?_slot (name := Str.ofString "__next__") hg.typeIs slot_gen_next
    (wpAny_call_entry slot_gen_next hg.typeIs entry_gen_next ?_ (args_gen_next _))))
  show wpAny _ A.in1 (Builtin.Generator.genWake (.ref ga) (.send .none)) _ _ s
  unfold Builtin.Generator.genWake
  refine wpAny_bind (wpAny_holding (wpAny_genNumber hg (wpAny_bind (wpAny_genState hgs ?_))))
  have hgo2 := hgo
  cases gs with
  | running => exact hgo.elim
  | finished => exact hgo.elim
  | _ =>
    refine wpAny_bind (wpAny_roomToWake hl hroom ?_)
    show wpAny _ A.in1 (.resume g (.send .none) [] _) _ _ s
    refine wpAny_resumeQ hgs hgo (fun x s₁ hx => ?_) (fun v s₁ gs' hb hv => ?_)
    · obtain ⟨rfl, hn, h₁, tk₁, rfl, hk₁⟩ := hx
      show wpAny _ A.in1 (newExc (.type "StopIteration") [] >>= _) _ _ _
      refine wpAny_bind ?_
      simp only [newExc, newTuple]
      refine wpAny_bind (wpAny_newObj_type ?_ (by size_fits))
      refine wpAny_bind (m := firstArgMember _ _) (wpAny_of_eq (a := Value.none) (by first | rfl | (simp only [firstArgMember]; rfl)) ?_)
      refine wpAny_newObj_type ?_ (by size_fits)
      simp only [raiseNew]
      refine wpAny_bind (wpAny_bind (wpAny_handled ?_))
      first | rw [show A.in1.handled = none from hh] | rw [hh]
      refine wpAny_throw ?_
      refine wpAny_bind (wpAny_isInstance (T := "StopIteration") (b := true) ⟨_, Heap.get?_push_size _ rfl, rfl⟩ isSubtype_stop ?_)
      exact wpAny_pure (hP _ _ (by omega) fun b o h1 h2 y => Heap.get?_push_of_some _ (Heap.get?_push_of_some _ (hk₁ b o h1 h2 y)))
    · obtain ⟨⟨x, hx, T, t, u, rfl, hT⟩, halv, ⟨h₁, tk₁, rfl, hk₁⟩, hkap⟩ := hv
      cases hm : all.length - j with
      | zero => rw [hm] at hkap; exact (hkap { s.setGen g .running with heap := h₁, toks := tk₁ } fun _ _ _ y => y).elim
      | succ m =>
        rw [hm] at hx hkap
        have e1 : all.length - 1 - (m + 1 - 1) = j := by omega
        rw [e1] at hx
        refine wpAny_pure ⟨_, rfl, wpAny_pure (hY x T t u h₁ tk₁ gs' hx hT halv hk₁ hb ?_)⟩
        obtain ⟨o, nm, qn, ho, r⟩ := hg
        have hlt : g < s.gens.size := (Array.getElem?_eq_some_iff.mp hgs).1
        refine ⟨⟨o, nm, qn, hk₁ ga o hga.1 (by simp [hga.2.1, hga.2.2]) ho, r⟩, gs', by simp [hlt], hb, fun s'' hal _ => ?_⟩
        have e2 : all.length - (j + 1) = m := by omega
        rw [e2]
        exact hkap s'' hal

theorem call_esc {a : Addr} {o : Obj} {fd : FuncData} {x : Str} {tx : Tok} {mg mb : Str → Option Value} {Q : Value → Shared → Prop} (hh : A.handled = none)
    (hroom : A.depth < recursionLimit) (ho : s.heap.get? a = some o) (hd : o.data = .func fd) (hcd : s.heap.CodeRec fd.code fd.qualname) (hl : s.heap.NoLimit)
    (hfd : fd.scope = fnScope escI ∧ fd.body = .stmts (fnBody escI) ∧ fd.globals = mainGlobals ∧ fd.closure = [] ∧ fd.builtins = builtinsNs ∧ fd.qualname = fnName escI)
    (hbind : bindArgs fd ⟨[.str x tx], []⟩ = pure [(("addr" : Str), Value.str x tx)])
    (hg : s.heap.Ns mainGlobals mg) (hge : mg "enumerate" = none) (hb : s.heap.Ns builtinsNs mb) (hbe : mb "enumerate" = some (.type "enumerate"))
    (hQ : ∀ h' tk gs, (∀ b o, s.heap.get? b = some o → h'.get? b = some o) → gs.bare = true → h'.objs.size = s.heap.objs.size + 2 → (∃ oL, h'.get? s.heap.objs.size = some oL) →
      EscAt prog w A (s.heap.objs.size + 1) s.gens.size s.heap.objs.size (s.heap.objs.size + 3) (s.heap.objs.size + 2) (escF false 0 x.cps.toList) 0 true { s with heap := h', toks := tk, gens := s.gens.push gs } →
      Q (.ref (s.heap.objs.size + 1)) { s with heap := h', toks := tk, gens := s.gens.push gs }) :
    wpAny (model prog w) A (call (.ref a) [.str x tx]) Q E s := by
  obtain ⟨name, qual, params, body, scope, globals, closure, dV, kV, doc, pm, an, cd, ct, bi⟩ := fd
  obtain ⟨rfl, rfl, rfl, rfl, rfl, rfl⟩ := hfd
  refine wpAny_call (codeAny_call_generator (body := fnBody escI) hroom ho hd rfl rfl rfl hcd ?_)
  rw [hbind]
  refine wpAny_pure (wpAny_newFunctionEnv (show ∀ x ∈ (fnScope escI).names, x.2 ≠ .cell by decide) (fun y hy => by rw [List.mem_singleton.mp hy]; rfl) (fun h₁ hn₁ hs₁ => ?_) rfl)
  replace hs₁ : Heap.SameBut s.heap.objs.size (s.heap.push { cls := .type "frame", data := .dict #[] }) h₁ := hs₁
  have k₁ : ∀ b o, s.heap.get? b = some o → h₁.get? b = some o := fun b o y => hs₁.extBut b o (Nat.ne_of_lt (Heap.lt_size y)) (Heap.get?_push_of_some _ y)
  have hz₁ : h₁.objs.size = s.heap.objs.size + 1 := by rw [hs₁.1, Heap.size_push]
  refine ⟨hl.keeps k₁, ?_⟩
  show Q (.ref h₁.objs.size) _
  rw [hz₁]
  obtain ⟨oL, _, _, hoL, _⟩ := id hn₁
  refine hQ _ _ _ (fun b o y => Heap.get?_push_of_some _ (k₁ b o y)) rfl (by rw [Heap.size_push, hz₁]) ⟨oL, Heap.get?_push_of_some _ hoL⟩ ?_
  refine ⟨⟨_, _, _, by rw [← hz₁]; exact Heap.get?_push_size _ rfl, rfl, rfl, rfl⟩, _, Array.getElem?_push_size .., rfl, fun s'' hal hfr => ⟨rfl, ?_⟩⟩
  replace hfr := hfr rfl
  have hsz : s''.heap.objs.size = s.heap.objs.size + 2 := by rw [hfr]; show (h₁.push _).objs.size = _; rw [Heap.size_push, hz₁]
  have hk : ∀ b o, h₁.get? b = some o → s''.heap.get? b = some o := fun b o y => by rw [hfr]; exact Heap.get?_push_of_some _ y
  have := esc_start (prog := prog) (w := w) (A := A.in1) hh x tx s.heap.objs.size a cd mg mb _ s'' (hn₁.at' fun o y => hk _ o y) rfl (hg.at' fun o y => hk _ o (k₁ _ o y)) hge (hb.at' fun o y => hk _ o (k₁ _ o y)) hbe
    (Nat.ne_of_gt hg.lt) (Nat.ne_of_gt hb.lt)
  rw [hsz] at this
  exact this
end
end Mine
end

section
open PySem PySem.W PyProof.Rows PySem.Calls
open Sem (wp)
namespace Mine

def GUp (a b : Array GenState) : Prop := AllBare a → AllBare b
theorem GUp.refl (a : Array GenState) : GUp a a := id
theorem GUp.trans {a b c : Array GenState} (h : GUp a b) (k : GUp b c) : GUp a c := fun x => k (h x)
theorem GUp.push {a : Array GenState} {x : GenState} (h : x.bare = true) : GUp a (a.push x) := fun H => H.push h
theorem GUp.set {a : Array GenState} {g : Nat} {x : GenState} (h : x.bare = true) : GUp a (a.setIfInBounds g x) := fun H y hy => by
  obtain ⟨i, hi, rfl⟩ := Array.mem_iff_getElem.mp hy
  rw [Array.size_setIfInBounds] at hi
  rw [Array.getElem_setIfInBounds (by simpa using hi)]
  split
  · exact h
  · exact H _ (Array.getElem_mem _)

def aliveAt (h : Heap) (l : List Addr) : List (Addr × Obj) := l.filterMap fun b => (h.get? b).map (b, ·)
theorem mem_aliveAt {h : Heap} {l : List Addr} {b : Addr} {o : Obj} (hb : b ∈ l) (ho : h.get? b = some o) : (b, o) ∈ aliveAt h l :=
  List.mem_filterMap.mpr ⟨b, hb, by rw [ho]; rfl⟩
theorem aliveAt_mem {h : Heap} {l : List Addr} {p : Addr × Obj} (hp : p ∈ aliveAt h l) : p.1 ∈ l ∧ h.get? p.1 = some p.2 := by
  obtain ⟨b, hb, e⟩ := List.mem_filterMap.mp hp
  cases q : h.get? b with
  | none => rw [q] at e; cases e
  | some o => rw [q] at e; cases e; exact ⟨hb, q⟩

section
variable {prog : Program} {w : World} {A : Around} {s : Shared}

/-- the end of a turn: the frame, the ledger (its own part too), the invariant -/
def TurnEnd (h₀ : Heap) (L : Addr) (own : List (Addr × Obj)) (off : List Addr) (J : (Str → Option Value) → List (Addr × Obj) → Prop) (s₁ s₂ : Shared) : Prop :=
  ∃ h' tk m' news' nx, s₂ = { s₁ with heap := h', toks := tk } ∧ Fr h₀ L h' m' ∧ News h₀ L h' news' ∧ (∀ p ∈ nx, p ∈ news') ∧ (∀ p ∈ own, p ∈ news') ∧ (∀ p ∈ nx, p.1 ∉ off) ∧ J m' nx

theorem forLoop_esc {R : Result → Shared → Prop} {env : Env} {xi xv : Str} {pi pv pt : Pos} {k1 : Nat} {body : List Stmt} {ga g L e it : Nat} {all : List (Int × Str)} {fr : Bool}
    {h₀ : Heap} {m₀ : Str → Option Value} {news₀ : List (Addr × Obj)} (J : Nat → (Str → Option Value) → List (Addr × Obj) → Prop)
    (hh : A.handled = none) (hroom : A.depth < recursionLimit) (hlim : h₀.NoLimit) (hxi : env.kindOf xi = some .local) (hxv : env.kindOf xv = some .local)
    (hp : (env.scope.kind == .class || (env.scope.kind == .module && env.locals != env.globals)) = false)
    (F : Fr h₀ env.locals s.heap m₀) (N : News h₀ env.locals s.heap news₀) (hE : EscAt prog w A ga g L e it all 0 fr s) (hga : ga ≠ L ∧ ga ≠ e ∧ ga ≠ it) (hie : it < e)
    (hLn : env.locals ∉ [ga, L, e, it]) (hold : ∀ b ∈ [ga, L, e, it], h₀.get? b = none) (hoff : ∀ p ∈ news₀, p.1 ∉ [ga, L, e, it]) (hJ : J 0 m₀ news₀)
    (turn : ∀ j x t u m₁ news₁ own h tk gs, all[j]? = some x → J j m₁ news₁ → (∀ p ∈ news₁, p.1 ∉ [ga, L, e, it]) → (∀ p ∈ own, p.1 ∈ [ga, L, e, it]) → (∀ b ∈ [ga, L, e, it], ∃ q ∈ own, b ≤ q.1) →
      Fr h₀ env.locals h (fun y => if y = xv then some (.str x.2 u) else if y = xi then some (.int x.1 t) else m₁ y) → News h₀ env.locals h (news₁ ++ own) → GUp s.gens gs →
      wpAny (model prog w) A (execs body env) (fun f s₂ => match f with
        | .next | .cont => TurnEnd h₀ env.locals own [ga, L, e, it] (J (j + 1)) { s with heap := h, toks := tk, gens := gs } s₂
        | .brk => R (.ok .next) s₂
        | .ret v => R (.ok (.ret v)) s₂) (fun _ _ => False) { s with heap := h, toks := tk, gens := gs })
    (done : ∀ m₁ news₁ h tk gs, J all.length m₁ news₁ → Fr h₀ env.locals h m₁ → News h₀ env.locals h news₁ → GUp s.gens gs → R (.ok .next) { s with heap := h, toks := tk, gens := gs }) :
    codeAny (model prog w) A (.forLoop (.Tuple [.Name xi pi, .Name xv pv] k1 pt) (.ref ga) body [] env) R s := by
  refine codeAny_forLoop_any
    (fun k s' => ∃ h tk gs m₁ news₁ j fr', s' = { s with heap := h, toks := tk, gens := gs } ∧ j ≤ all.length ∧ k = all.length + 1 - j ∧ EscAt prog w A ga g L e it all j fr' s' ∧ J j m₁ news₁ ∧
      Fr h₀ env.locals h m₁ ∧ News h₀ env.locals h news₁ ∧ (∀ p ∈ news₁, p.1 ∉ [ga, L, e, it]) ∧ GUp s.gens gs) ?_ (all.length + 1)
    ⟨s.heap, s.toks, s.gens, m₀, news₀, 0, fr, rfl, Nat.zero_le _, rfl, hE, hJ, F, N, hoff, GUp.refl _⟩
  rintro k s' ⟨h, tk, gs, m₁, news₁, j, fr', rfl, hj, rfl, hE', hJ', F', N', hoff', hG⟩
  have hLL : env.locals ≠ L ∧ env.locals ≠ e ∧ env.locals ≠ it := by simp at hLn; exact ⟨hLn.2.1, hLn.2.2.1, hLn.2.2.2⟩
  have keepB : ∀ {h₁ : Heap}, (∀ b o, b ≠ L → b ∉ [e, it] → h.get? b = some o → h₁.get? b = some o) → Fr h₀ env.locals h₁ m₁ ∧ News h₀ env.locals h₁ news₁ := by
    intro h₁ hk
    refine ⟨⟨F'.ns.at' fun o y => hk _ o hLL.1 (by simp [hLL.2.1, hLL.2.2]) y, fun b o y => hk b o (fun q => ?_) (fun q => ?_) (F'.keep b o y), F'.above⟩, fun p hp => ⟨hk _ _ (fun q => ?_) (fun q => ?_) (N' p hp).1, (N' p hp).2⟩⟩
    · have := hold b (by simp [q]); rw [this] at y; cases y
    · have := hold b (by rcases List.mem_cons.mp q with q | q <;> simp_all); rw [this] at y; cases y
    · exact hoff' p hp (by simp [q])
    · exact hoff' p hp (by rcases List.mem_cons.mp q with q | q <;> simp_all)
  refine escNext hh (hlim.keeps F'.keep) hroom hE' hj hga (fun x T t u h₁ tk₁ gs' hx hT halv hk₁ hb hE₁ => ?_) fun h₁ tk₁ hjl hk₁ => ?_
  · obtain ⟨⟨og, nm, qn, hog, hc, hdat, hsl⟩, _⟩ := id hE₁
    obtain ⟨F₁, N₁⟩ := keepB hk₁
    have hgo : wpAny (model prog w) A (letOwnedTupleGo (.Tuple [.Name xi pi, .Name xv pv] k1 pt) (.ref ga) (.ref T)) (fun _ s₁' => s₁' = { s with heap := h₁, toks := tk₁, gens := (gs.setIfInBounds g .running).setIfInBounds g gs' })
        (notedBy (model prog w) A env fun e s' => R (.error e) s') { s with heap := h₁, toks := tk₁, gens := (gs.setIfInBounds g .running).setIfInBounds g gs' } := by
      unfold letOwnedTupleGo
      refine wpAny_bind (wpAny_load hog ?_)
      rw [hc, hdat]
      show wpAny _ A (if (["enumerate", "zip", "dict_itemiterator", "dict_reverseitemiterator", "odict_iterator", "itertools.zip_longest", "itertools.pairwise"].contains "generator" && _) = true then _ else _) _ _ _
      rw [if_neg (by
        rw [show (["enumerate", "zip", "dict_itemiterator", "dict_reverseitemiterator", "odict_iterator", "itertools.zip_longest", "itertools.pairwise"].contains "generator") = false from by decide, Bool.false_and]
        exact Bool.false_ne_true)]
      exact wpAny_pure rfl
    refine wpAny_mono hgo (fun _ s₁' e' => ?_) fun _ _ y => y
    subst e'
    refine wpAny_assign_Tuple hh hT rfl rfl fun h₂ hx₂ => ?_
    replace hx₂ : Heap.ExtBut h₁.objs.size h₁ h₂ := hx₂
    have ext₂ : ∀ b o, h₁.get? b = some o → h₂.get? b = some o := fun b o y => hx₂ b o (Nat.ne_of_lt (Heap.lt_size y)) y
    show wpAny _ A (do holding [.str x.2 u] (assign (.Name xi pi) env (.int x.1 t)); do holding [] (assign (.Name xv pv) env (.str x.2 u)); pure ()) _ _ _
    have hn₂ : h₂.Ns env.locals m₁ := F₁.ns.at' fun o y => ext₂ _ o y
    refine wpAny_bind (wpAny_holding (wpAny_assign_Name (wpAny_storeName_local hxi hn₂ (fun h₃ hn₃ hs₃ => ?_) hp)))
    replace hs₃ : Heap.SameBut env.locals h₂ h₃ := hs₃
    refine wpAny_bind (wpAny_holding (wpAny_assign_Name (wpAny_storeName_local hxv hn₃ (fun h₄ hn₄ hs₄ => wpAny_pure ?_) hp)))
    replace hs₄ : Heap.SameBut env.locals h₃ h₄ := hs₄
    have up : ∀ b o, b ≠ env.locals → h₁.get? b = some o → h₄.get? b = some o := fun b o hb y => hs₄.extBut b o hb (hs₃.extBut b o hb (ext₂ b o y))
    have nL : ∀ {b o}, h₀.get? b = some o → b ≠ env.locals := fun y q => by
      have := Nat.lt_of_lt_of_le (Heap.lt_size y) F'.above
      rw [q] at this; exact Nat.lt_irrefl _ this
    have F₄ : Fr h₀ env.locals h₄ (fun y => if y = xv then some (.str x.2 u) else if y = xi then some (.int x.1 t) else m₁ y) := ⟨hn₄, fun b o y => up b o (nL y) (F₁.keep b o y), F'.above⟩
    have N₄ : News h₀ env.locals h₄ (news₁ ++ aliveAt h₄ [ga, L, e, it]) := fun p hp => by
      rcases List.mem_append.mp hp with q | q
      · exact ⟨up _ _ (N₁ p q).2.1 (N₁ p q).1, (N₁ p q).2⟩
      · obtain ⟨q1, q2⟩ := aliveAt_mem q
        exact ⟨q2, fun z => hLn (z ▸ q1), hold _ q1⟩
    have hlt₄ : ∀ b ∈ [ga, L, e, it], ∃ q ∈ aliveAt h₄ [ga, L, e, it], b ≤ q.1 := by
      intro b hb'
      obtain ⟨⟨oL, yL⟩, oe, ye⟩ := halv
      have h1 := mem_aliveAt (l := [ga, L, e, it]) (by simp) (up _ _ (Ne.symm hLL.1) yL)
      have h2 := mem_aliveAt (l := [ga, L, e, it]) (by simp) (up _ _ (Ne.symm hLL.2.1) ye)
      have hga' : ga ≠ env.locals := fun q => hLn (by simp [q])
      have h3 := mem_aliveAt (l := [ga, L, e, it]) (by simp) (up _ _ hga' hog)
      simp only [List.mem_cons, List.not_mem_nil, or_false] at hb'
      rcases hb' with rfl | rfl | rfl | rfl
      · exact ⟨_, h3, Nat.le_refl _⟩
      · exact ⟨_, h1, Nat.le_refl _⟩
      · exact ⟨_, h2, Nat.le_refl _⟩
      · exact ⟨_, h2, Nat.le_of_lt hie⟩
    have hG₄ : GUp s.gens ((gs.setIfInBounds g .running).setIfInBounds g gs') := hG.trans ((GUp.set rfl).trans (GUp.set hb))
    refine wpAny_mono (turn j x t u m₁ news₁ _ h₄ _ _ hx hJ' hoff' (fun p hp => (aliveAt_mem hp).1) hlt₄ F₄ N₄ hG₄) (fun f s₂ hf => ?_) fun _ _ y => y.elim
    have fin : TurnEnd h₀ env.locals (aliveAt h₄ [ga, L, e, it]) [ga, L, e, it] (J (j + 1)) { s with heap := h₄, toks := tk₁ + 1 + 1, gens := (gs.setIfInBounds g .running).setIfInBounds g gs' } s₂ → ∃ n, n < all.length + 1 - j ∧ ∃ h tk gs m₁ news₁ j fr', s₂ = { s with heap := h, toks := tk, gens := gs } ∧ j ≤ all.length ∧ n = all.length + 1 - j ∧ EscAt prog w A ga g L e it all j fr' s₂ ∧ J j m₁ news₁ ∧
        Fr h₀ env.locals h m₁ ∧ News h₀ env.locals h news₁ ∧ (∀ p ∈ news₁, p.1 ∉ [ga, L, e, it]) ∧ GUp s.gens gs := by
      rintro ⟨h', tk', m', news', nx, rfl, F', N', hn, ho, hof, hJn⟩
      have hlt : j < all.length := (List.getElem?_eq_some_iff.mp hx).1
      refine ⟨_, (by omega : all.length + 1 - (j + 1) < _), h', tk', _, m', nx, j + 1, false, rfl, hlt, rfl, ?_, hJn, F', fun p hp => N' p (hn p hp), hof, hG₄⟩
      exact hE₁.frame (s' := { s with heap := h', toks := tk', gens := (gs.setIfInBounds g .running).setIfInBounds g gs' })
        (fun b hb' o y => (N' _ (ho _ (mem_aliveAt hb' (up b o (fun z => hLn (z ▸ hb')) y)))).1) rfl
    cases f with
    | next => exact fin hf
    | cont => exact fin hf
    | brk => exact hf
    | ret v => exact hf
  · obtain ⟨F₁, N₁⟩ := keepB hk₁
    exact wpAny_execs_nil (done m₁ news₁ h₁ tk₁ _ (hjl ▸ hJ') F₁ N₁ (hG.trans ((GUp.set rfl).trans (GUp.set rfl))))
end
end Mine
end

section
open PySem PySem.W PyProof.Rows PySem.Spec PySem.Calls
set_option maxHeartbeats 4000000
namespace Mine
abbrev KClaim (w : World) (p : Program) (loose : List Str) (mean : ExcName → Option Value) (mg mb : Str → Option Value) (f : Addr) (vs : List Value) (news : List (Addr × Obj)) (D U : Nat) (pre : Prop)
    (Ret : Heap → Addr → (Str → Option Value) → Shared → (Value → Shared → Prop) → Prop) : Prop :=
  ∀ (dp un : Nat) (gd : Option (List Code)) (cn : Str) (cs : Scope) (a : Addr) (ccd : Value) (cl : List (Str × Addr)) (outer : List Env) (A₀ : Around) (base h₀ : Heap) (L : Addr) (m : Str → Option Value) (s : Shared) (Q E : Value → Shared → Prop),
    Below A₀ base outer h₀ → Fr h₀ L s.heap m → (hd.heap_39 w.params).In h₀ → News h₀ L s.heap news → Top p loose mean mg mb h₀ → cs.kind = .function → pre → dp + D < recursionLimit → un + U < cLine → Ret h₀ L m s Q →
    wpAny (model PySem.Challenge.rw_tc0006_01.row.prog w) (ktrTop dp un gd cn cs L a ccd cl outer) (call (.ref f) vs) Q E s

theorem news_skip2 {h₀ h : Heap} {L : Addr} {a b : Addr × Obj} {r : List (Addr × Obj)} (N : News h₀ L h (a :: b :: r)) : News h₀ L h (a :: r) := fun p hp => N p (by
  rcases List.mem_cons.mp hp with rfl | hp
  · exact .head _
  · exact .tail _ (.tail _ hp))
theorem allLt_mem {d : Addr} {l : List (Addr × Obj)} (h : AllLt d l) : ∀ q ∈ l, q.1 < d := by
  induction l with
  | nil => intro q hq; cases hq
  | cons p r ih =>
    intro q hq
    rcases List.mem_cons.mp hq with e | hq
    · exact e ▸ h.1
    · exact ih h.2 q hq

end Mine
end

section
open PySem PySem.W PyProof.Rows PySem.Spec PySem.Calls
set_option maxHeartbeats 4000000
namespace Mine
def subCost (x y : Str) : Int := if x = y then 0 else if Txt.lower x = Txt.lower y then 1 else 2
theorem sub_spec {w : World} {p : Program} {loose : List Str} {mean : ExcName → Option Value} {mg mb : Str → Option Value} (x y : Str) (t1 t2 : Tok) (news : List (Addr × Obj)) (hx : x.length ≤ 100) (hy : y.length ≤ 100) :
   KClaim w p loose mean mg mb 133 [.str x t1, .str y t2] news 1 8 True (fun h₀ L m s Q => ∀ t h' tk', Fr h₀ L h' m → News h₀ L h' news → Q (.int (subCost x y) t) { s with heap := h', toks := tk' }) := by
  unfold KClaim; k_fill
  intro dp un gd cn cs a ccd cl outer A₀ base h₀ L m s Q E hB hF hX hN hT hk _ hdp hun hret
  refine wpAny_call ?_
  k_dflt cell_enter
  k_steps
  · rename_i kF kN _ _
    have e : subCost x y = 0 := if_pos (eq_of_beq (by assumption))
    rw [e] at hret
    exact hret _ _ _ kF kN
  · rename_i kF kN _ _
    have h1 : (x == y) = false := by assumption
    have h2 : (Txt.lower x == Txt.lower y) = true := by assumption
    have e : subCost x y = 1 := by
      unfold subCost
      rw [if_neg (fun q => by rw [q] at h1; simp at h1), if_pos (eq_of_beq h2)]
    rw [e] at hret
    exact hret _ _ _ kF kN
  · rename_i kF kN _ _
    have h1 : (x == y) = false := by assumption
    have h2 : (Txt.lower x == Txt.lower y) = false := by assumption
    have e : subCost x y = 2 := by
      unfold subCost
      rw [if_neg (fun q => by rw [q] at h1; simp at h1), if_neg (fun q => by rw [q] at h2; simp at h2)]
    rw [e] at hret
    exact hret _ _ _ kF kN
end Mine
end

section
open PySem PySem.W PyProof.Rows PySem.Calls
open Sem (wp)
namespace Mine

/-- the end of a turn; the generators may have grown -/
def TurnEndG (h₀ : Heap) (L : Addr) (own : List (Addr × Obj)) (off : List Addr) (J : (Str → Option Value) → List (Addr × Obj) → Prop) (s₁ s₂ : Shared) : Prop :=
  ∃ h' tk gs m' news' nx, s₂ = { s₁ with heap := h', toks := tk, gens := gs } ∧ GUp s₁.gens gs ∧ Fr h₀ L h' m' ∧ News h₀ L h' news' ∧ (∀ p ∈ nx, p ∈ news') ∧ (∀ p ∈ own, p ∈ news') ∧ (∀ p ∈ nx, p.1 ∉ off) ∧ J m' nx

section
variable {prog : Program} {w : World} {A : Around} {s : Shared} {E : Value → Shared → Prop}

theorem forLoop_walkG {R : Result → Shared → Prop} {env : Env} {x : Str} {px : Pos} {body : List Stmt} {I : Addr} {fp wr : List Addr} {n : Nat} {P : Nat → Value → Prop} {St : Nat → Heap → Prop}
    {h₀ : Heap} {m₀ : Str → Option Value} {news₀ : List (Addr × Obj)} (J : Nat → (Str → Option Value) → List (Addr × Obj) → Prop) (W : Walks prog w A I fp wr n P St)
    (hx : env.kindOf x = some .local)
    (hp : (env.scope.kind == .class || (env.scope.kind == .module && env.locals != env.globals)) = false)
    (F : Fr h₀ env.locals s.heap m₀) (N : News h₀ env.locals s.heap news₀) (hst : St 0 s.heap) (hLf : env.locals ∉ fp) (hf0 : ∀ b ∈ fp, h₀.get? b = none) (hoff : ∀ p ∈ news₀, p.1 ∉ fp) (hJ : J 0 m₀ news₀)
    (turn : ∀ i v m₁ news₁ own h tk gs, i < n → P i v → J i m₁ news₁ → (∀ p ∈ news₁, p.1 ∉ fp) → (∀ p ∈ own, p.1 ∈ fp) →
      Fr h₀ env.locals h (fun y => if y = x then some v else m₁ y) → News h₀ env.locals h (news₁ ++ own) → GUp s.gens gs → St (i + 1) h → (∀ b ∈ fp, ∀ o, h.get? b = some o → (b, o) ∈ own) →
      wpAny (model prog w) A (execs body env) (fun f s₂ => match f with
        | .next | .cont => TurnEndG h₀ env.locals own fp (J (i + 1)) { s with heap := h, toks := tk, gens := gs } s₂
        | .brk => R (.ok .next) s₂
        | .ret v => R (.ok (.ret v)) s₂) (fun _ _ => False) { s with heap := h, toks := tk, gens := gs })
    (done : ∀ m₁ news₁ h tk gs, J n m₁ news₁ → Fr h₀ env.locals h m₁ → News h₀ env.locals h news₁ → GUp s.gens gs → R (.ok .next) { s with heap := h, toks := tk, gens := gs }) :
    codeAny (model prog w) A (.forLoop (.Name x px) (.ref I) body [] env) R s := by
  refine codeAny_forLoop
    (fun k s' => ∃ h tk gs m₁ news₁ i, s' = { s with heap := h, toks := tk, gens := gs } ∧ i ≤ n ∧ k = n + 1 - i ∧ St i h ∧ J i m₁ news₁ ∧
      Fr h₀ env.locals h m₁ ∧ News h₀ env.locals h news₁ ∧ (∀ p ∈ news₁, p.1 ∉ fp) ∧ GUp s.gens gs) ?_ (n + 1)
    ⟨s.heap, s.toks, s.gens, m₀, news₀, 0, rfl, Nat.zero_le _, rfl, hst, hJ, F, N, hoff, GUp.refl _⟩
  rintro k s' ⟨h, tk, gs, m₁, news₁, i, rfl, hi, rfl, hst', hJ', F', N', hoff', hG⟩
  have hLw : env.locals ∉ wr := fun z => hLf (W.sub _ z)
  have keepB : ∀ {h₁ : Heap}, (∀ b o, b ∉ wr → h.get? b = some o → h₁.get? b = some o) → Fr h₀ env.locals h₁ m₁ ∧ News h₀ env.locals h₁ news₁ := by
    intro h₁ hk
    refine ⟨⟨F'.ns.at' fun o y => hk _ o hLw y, fun b o y => hk b o (fun q => ?_) (F'.keep b o y), F'.above⟩, fun p hp => ⟨hk _ _ (fun q => hoff' p hp (W.sub _ q)) (N' p hp).1, (N' p hp).2⟩⟩
    have := hf0 b (W.sub _ q); rw [this] at y; cases y
  by_cases hlt : i < n
  · refine W.item i _ _ _ hlt hst' fun v h₁ tk₁ hP hst₁ hk₁ => ?_
    obtain ⟨F₁, N₁⟩ := keepB hk₁
    refine wpAny_assign_Name (wpAny_storeName_local hx F₁.ns (fun h₂ hn₂ hs₂ => ?_) hp)
    replace hs₂ : Heap.SameBut env.locals h₁ h₂ := hs₂
    have up : ∀ b o, b ≠ env.locals → h₁.get? b = some o → h₂.get? b = some o := fun b o hb y => hs₂.extBut b o hb y
    have nL : ∀ {b o}, h₀.get? b = some o → b ≠ env.locals := fun y q => by
      have := Nat.lt_of_lt_of_le (Heap.lt_size y) F'.above
      rw [q] at this; exact Nat.lt_irrefl _ this
    have F₂ : Fr h₀ env.locals h₂ (fun y => if y = x then some v else m₁ y) := ⟨hn₂, fun b o y => up b o (nL y) (F₁.keep b o y), F'.above⟩
    have N₂ : News h₀ env.locals h₂ (news₁ ++ aliveAt h₂ fp) := fun p hp => by
      rcases List.mem_append.mp hp with q | q
      · exact ⟨up _ _ (N₁ p q).2.1 (N₁ p q).1, (N₁ p q).2⟩
      · obtain ⟨q1, q2⟩ := aliveAt_mem q
        exact ⟨q2, fun z => hLf (z ▸ q1), hf0 _ q1⟩
    have hst₂ : St (i + 1) h₂ := W.frame _ _ _ hst₁ fun b hb o y => up b o (fun z => hLf (z ▸ hb)) y
    refine wpAny_mono (turn i v m₁ news₁ _ h₂ _ gs hlt hP hJ' hoff' (fun p hp => (aliveAt_mem hp).1) F₂ N₂ hG hst₂ (fun b hb o y => mem_aliveAt hb y)) (fun f s₂ hf => ?_) fun _ _ y => y.elim
    have fin : TurnEndG h₀ env.locals (aliveAt h₂ fp) fp (J (i + 1)) { s with heap := h₂, toks := tk₁ + 1, gens := gs } s₂ → ∃ k', k' < n + 1 - i ∧ ∃ h tk gs m₁ news₁ i, s₂ = { s with heap := h, toks := tk, gens := gs } ∧ i ≤ n ∧ k' = n + 1 - i ∧ St i h ∧ J i m₁ news₁ ∧
        Fr h₀ env.locals h m₁ ∧ News h₀ env.locals h news₁ ∧ (∀ p ∈ news₁, p.1 ∉ fp) ∧ GUp s.gens gs := by
      rintro ⟨h', tk', gs', m', news', nx, rfl, hG', F', N', hn, ho, hof, hJn⟩
      refine ⟨_, (by omega : n + 1 - (i + 1) < _), h', tk', gs', m', nx, i + 1, rfl, hlt, rfl, ?_, hJn, F', fun p hp => N' p (hn p hp), hof, hG.trans hG'⟩
      exact W.frame _ _ _ hst₂ fun b hb o y => (N' _ (ho _ (mem_aliveAt hb y))).1
    cases f with
    | next => exact fin hf
    | cont => exact fin hf
    | brk => exact hf
    | ret v => exact hf
  · have hin : i = n := by omega
    subst hin
    refine W.done _ _ _ hst' fun h₁ tk₁ hk₁ => ?_
    obtain ⟨F₁, N₁⟩ := keepB hk₁
    exact wpAny_execs_nil (done m₁ news₁ h₁ tk₁ gs hJ' F₁ N₁ hG)

theorem for_listG {R : Result → Shared → Prop} {env : Env} {x : Str} {px : Pos} {body : List Stmt} {l : Addr} {items : Array Value}
    {h₀ : Heap} {m₀ : Str → Option Value} {news₀ : List (Addr × Obj)} (J : Nat → (Str → Option Value) → List (Addr × Obj) → Prop)
    (hh : A.handled = none) (hx : env.kindOf x = some .local)
    (hp : (env.scope.kind == .class || (env.scope.kind == .module && env.locals != env.globals)) = false)
    (F : Fr h₀ env.locals s.heap m₀) (N : News h₀ env.locals s.heap news₀) (hl : s.heap.IsList l items) (hlL : l ≠ env.locals) (hl0 : h₀.get? l = none) (hoff : ∀ p ∈ news₀, p.1 ≠ l) (hJ : J 0 m₀ news₀)
    (turn : ∀ i v m₁ news₁ own off h tk gs, items[i]? = some v → J i m₁ news₁ → (∀ p ∈ news₁, p.1 ∉ off) → (∀ p ∈ own, p.1 ∈ off) →
      Fr h₀ env.locals h (fun y => if y = x then some v else m₁ y) → News h₀ env.locals h (news₁ ++ own) → GUp s.gens gs →
      wpAny (model prog w) A (execs body env) (fun f s₂ => match f with
        | .next | .cont => TurnEndG h₀ env.locals own off (J (i + 1)) { s with heap := h, toks := tk, gens := gs } s₂
        | .brk => R (.ok .next) s₂
        | .ret v => R (.ok (.ret v)) s₂) (fun _ _ => False) { s with heap := h, toks := tk, gens := gs })
    (done : ∀ m₁ news₁ h tk gs, J items.size m₁ news₁ → Fr h₀ env.locals h m₁ → News h₀ env.locals h news₁ → GUp s.gens gs → R (.ok .next) { s with heap := h, toks := tk, gens := gs }) :
    wpAny (model prog w) A (pyIter (.ref l)) (fun it s₂ => codeAny (model prog w) A (.forLoop (.Name x px) it body [] env) R s₂) E s := by
  obtain ⟨ol, hol, hol'⟩ := id hl
  have hlz : l < s.heap.objs.size := Heap.lt_size hol
  have hLz : env.locals < s.heap.objs.size := F.ns.lt
  refine wpAny_pyIter_list hl ?_
  have hI0 : h₀.get? s.heap.objs.size = none := by
    cases q : h₀.get? s.heap.objs.size with
    | none => rfl
    | some o => exact absurd (Nat.lt_of_lt_of_le (Nat.lt_of_lt_of_le (Heap.lt_size q) F.above) (Nat.le_of_lt hLz)) (Nat.lt_irrefl _)
  have kp : ∀ b o, s.heap.get? b = some o → (s.heap.push { cls := .type "list_iterator", data := .fields #[.ref l, .int 0 0] }).get? b = some o := fun b o y => Heap.get?_push_of_some _ y
  refine forLoop_walkG (s := { s with heap := s.heap.push { cls := .type "list_iterator", data := .fields #[.ref l, .int 0 0] } }) J (Walks.list (prog := prog) (w := w) hh s.heap.objs.size l (Nat.ne_of_lt hlz) items) hx hp (F.keeps kp) (N.grown kp)
    ⟨⟨_, Heap.get?_push_size _ rfl, rfl, rfl⟩, hl.at fun o y => kp _ o y⟩ ?_ ?_ ?_ hJ (fun i v m₁ news₁ own h tk gs _ hP hJ a b F N hG _ _ => turn i v m₁ news₁ own _ h tk gs hP hJ a b F N hG) done
  · intro z
    rcases List.mem_cons.mp z with z | z
    · exact absurd (z ▸ hLz) (Nat.lt_irrefl _)
    · exact hlL (List.mem_singleton.mp z).symm
  · intro b hb
    rcases List.mem_cons.mp hb with rfl | z
    · exact hI0
    · rw [List.mem_singleton.mp z]; exact hl0
  · intro p hp z
    rcases List.mem_cons.mp z with z | z
    · exact absurd (z ▸ Heap.lt_size (N p hp).1) (Nat.lt_irrefl _)
    · exact hoff p hp (List.mem_singleton.mp z)
end
end Mine
end

section
open PySem PySem.W PyProof.Rows PySem.Spec PySem.Calls
set_option maxHeartbeats 4000000
namespace Mine

theorem esc_fn {w : World} {h : Heap} (X : (hd.heap_39 w.params).In h) (hr : model PySem.Challenge.rw_tc0006_01.row.prog w = model PySem.Challenge.rw_tc0006_01.row.prog w) : ∃ o fd, h.get? 112 = some o ∧ o.data = .func fd ∧ h.CodeRec fd.code fd.qualname ∧
    (fd.scope = fnScope escI ∧ fd.body = .stmts (fnBody escI) ∧ fd.globals = mainGlobals ∧ fd.closure = [] ∧ fd.builtins = builtinsNs ∧ fd.qualname = fnName escI) ∧
    ∀ v, bindArgs fd ⟨[v], []⟩ = pure [(("addr" : Str), v)] := by
  revert hr X; k_fill; intro X _
  refine ⟨_, _, X 112 _ (by k_is), rfl, codeRec_of X (by k_is), ⟨rfl, rfl, rfl, rfl, rfl, rfl⟩, fun v => rfl⟩

theorem esc_top {w : World} {h : Heap} {p : Program} {loose : List Str} {mean : ExcName → Option Value} {mg mb : Str → Option Value} (X : (hd.heap_39 w.params).In h) (T : Top p loose mean mg mb h)
    (hr : model PySem.Challenge.rw_tc0006_01.row.prog w = model PySem.Challenge.rw_tc0006_01.row.prog w) :
    mg "enumerate" = none ∧ mb "enumerate" = some (.type "enumerate") := by
  revert hr X; k_fill; intro X _
  exact ⟨mg_none_of X T.g (by k_is), (T.builtins _ (by decide)).trans boot_enumerate⟩
end Mine
namespace Mine
/-- a for over the generator, from its call on -/
theorem esc_for {w : World} {p : Program} {loose : List Str} {mean : ExcName → Option Value} {mg mb : Str → Option Value} {A : Around} {s : Shared} {E : Value → Shared → Prop} {x : Str} {tx : Tok}
    {R : Result → Shared → Prop} {env : Env} {xi xv : Str} {pi pv pt : Pos} {k1 : Nat} {body : List Stmt} {h₀ : Heap} {m₀ : Str → Option Value} {news₀ : List (Addr × Obj)}
    (J : Nat → (Str → Option Value) → List (Addr × Obj) → Prop)
    (hh : A.handled = none) (hroom : A.depth < recursionLimit) (hxi : env.kindOf xi = some .local) (hxv : env.kindOf xv = some .local)
    (hp : (env.scope.kind == .class || (env.scope.kind == .module && env.locals != env.globals)) = false)
    (F : Fr h₀ env.locals s.heap m₀) (N : News h₀ env.locals s.heap news₀) (X : (hd.heap_39 w.params).In h₀) (T : Top p loose mean mg mb h₀) (hJ : J 0 m₀ news₀)
    (turn : ∀ j x' t u m₁ news₁ own off h tk gs, (escF false 0 x.cps.toList)[j]? = some x' → J j m₁ news₁ → (∀ p ∈ news₁, p.1 ∉ off) → (∀ p ∈ own, p.1 ∈ off) → (∀ b ∈ off, ∃ q ∈ own, b ≤ q.1) →
      Fr h₀ env.locals h (fun y => if y = xv then some (.str x'.2 u) else if y = xi then some (.int x'.1 t) else m₁ y) → News h₀ env.locals h (news₁ ++ own) → GUp s.gens gs →
      wpAny (model PySem.Challenge.rw_tc0006_01.row.prog w) A (execs body env) (fun f s₂ => match f with
        | .next | .cont => TurnEnd h₀ env.locals own off (J (j + 1)) { s with heap := h, toks := tk, gens := gs } s₂
        | .brk => R (.ok .next) s₂
        | .ret v => R (.ok (.ret v)) s₂) (fun _ _ => False) { s with heap := h, toks := tk, gens := gs })
    (done : ∀ m₁ news₁ h tk gs, J (escF false 0 x.cps.toList).length m₁ news₁ → Fr h₀ env.locals h m₁ → News h₀ env.locals h news₁ → GUp s.gens gs → R (.ok .next) { s with heap := h, toks := tk, gens := gs }) :
    wpAny (model PySem.Challenge.rw_tc0006_01.row.prog w) A (call (.ref 112) [.str x tx]) (fun v s₁ => wpAny (model PySem.Challenge.rw_tc0006_01.row.prog w) A (pyIter v) (fun it s₂ =>
      codeAny (model PySem.Challenge.rw_tc0006_01.row.prog w) A (.forLoop (.Tuple [.Name xi pi, .Name xv pv] k1 pt) it body [] env) R s₂) E s₁) E s := by
  obtain ⟨o, fd, ho, hd', hcd, hfd, hbind⟩ := esc_fn (X.keeps F.keep) rfl
  obtain ⟨hge, hbe⟩ := esc_top X T rfl
  have hLs : env.locals < s.heap.objs.size := F.ns.lt
  refine call_esc hh hroom ho hd' hcd (T.nolimit.keeps F.keep) hfd (hbind _) (T.g.keeps F.keep) hge (T.b.keeps F.keep) hbe fun h' tk gs hk hbare hz hL hE => ?_
  refine wpAny_pyIter_gen hE.1 ?_
  have mem4 : ∀ b ∈ [s.heap.objs.size + 1, s.heap.objs.size, s.heap.objs.size + 3, s.heap.objs.size + 2], s.heap.objs.size ≤ b := by
    intro b hb
    simp only [List.mem_cons, List.not_mem_nil, or_false] at hb
    rcases hb with rfl | rfl | rfl | rfl <;> omega
  refine forLoop_esc (R := R) (s := { s with heap := h', toks := tk, gens := s.gens.push gs }) J hh hroom T.nolimit hxi hxv hp (F.keeps hk) (N.grown hk) hE
    ⟨by omega, by omega, by omega⟩ (by omega) (fun hm => absurd (Nat.lt_of_lt_of_le hLs (mem4 _ hm)) (Nat.lt_irrefl _)) (fun b hb => ?_) (fun p hp hm => ?_) hJ
    (fun j x' t u m₁ news₁ own h₁ tk₁ gs₁ hx' hJ' hoff hown hlt F₁ N₁ hG => ?_) fun m₁ news₁ h₁ tk₁ gs₁ hJ' F₁ N₁ hG => ?_
  · cases q : h₀.get? b with
    | none => rfl
    | some o => exact absurd (Nat.lt_of_lt_of_le (Nat.lt_of_lt_of_le (Heap.lt_size q) F.above) (Nat.le_of_lt (Nat.lt_of_lt_of_le hLs (mem4 _ hb)))) (Nat.lt_irrefl _)
  · exact absurd (Nat.lt_of_lt_of_le (Heap.lt_size (N p hp).1) (mem4 _ hm)) (Nat.lt_irrefl _)
  · exact turn j x' t u m₁ news₁ own _ h₁ tk₁ gs₁ hx' hJ' hoff hown hlt F₁ N₁ ((GUp.push hbare).trans hG)
  · exact done m₁ news₁ h₁ tk₁ gs₁ hJ' F₁ N₁ ((GUp.push hbare).trans hG)
end Mine
end

section
open PySem PySem.W PyProof.Rows PySem.Spec PySem.Calls
set_option maxHeartbeats 4000000
namespace Mine

local macro_rules | `(tactic| k_all) => `(tactic| assumption)

structure StS where
  start : Int
  op : Option Int
  res : List Str

def stStep (x : Str) (st : StS) (p : Int × Str) : StS :=
  if p.2 = ⟨#[34]⟩ then match st.op with
    | none => { st with op := some p.1 }
    | some o => { start := p.1 + 1, op := none, res := if st.start = o then st.res else st.res ++ [Txt.slice x (some st.start) (some o)] }
  else st
def stRun (x : Str) : StS := (escF false 0 x.cps.toList).foldl (stStep x) ⟨0, none, []⟩
def stripF (x : Str) : Str := if 34 ∈ x.cps.toList then
    Str.join ⟨#[]⟩ (if (stRun x).start < (x.length : Int) then (stRun x).res ++ [Txt.slice x (some (stRun x).start) none] else (stRun x).res)
  else x

theorem kstB_self {m : Str → Option Value} {ps : List (Str × Value)} (h : ∀ p ∈ ps, m p.1 = some p.2) : m = kstB m ps := by
  funext z
  exact (kstB_eq h fun _ => rfl).symm

theorem escF_length : ∀ (l : List Nat) (e : Bool) (p : Nat), (escF e p l).length ≤ l.length + (if e then 1 else 0)
  | [], e, p => by cases e <;> simp [escF]
  | c :: r, e, p => by
    unfold escF
    cases e with
    | true => have := escF_length r false (p + 1); simp at this ⊢; omega
    | false =>
      by_cases h : c = 92
      · have := escF_length r true (p + 1); simp [h] at this ⊢; omega
      · have := escF_length r false (p + 1); simp [h] at this ⊢; omega

def opV : Option Int → Tok → Value
  | none, _ => .none
  | some o, t => .int o t

def stripJ (x : Str) (tx : Tok) (r : Addr) (news : List (Addr × Obj)) (j : Nat) (m₁ : Str → Option Value) (news₁ : List (Addr × Obj)) : Prop :=
  ∃ ts to vs nn, (∀ p ∈ [(("addr" : Str), Value.str x tx), ("start", .int (((escF false 0 x.cps.toList).take j).foldl (stStep x) ⟨0, none, []⟩).start ts),
      ("open_pos", opV (((escF false 0 x.cps.toList).take j).foldl (stStep x) ⟨0, none, []⟩).op to), ("result", .ref r)], m₁ p.1 = some p.2) ∧
    news₁ = (r, listOf vs.toArray nn) :: news ∧ StrsAre vs (((escF false 0 x.cps.toList).take j).foldl (stStep x) ⟨0, none, []⟩).res ∧ vs.length ≤ j ∧
    ∀ y ∈ (((escF false 0 x.cps.toList).take j).foldl (stStep x) ⟨0, none, []⟩).res, y.length ≤ x.length

theorem turnEnd_of {h₀ : Heap} {L : Addr} {own nx : List (Addr × Obj)} {off : List Addr} {J : (Str → Option Value) → List (Addr × Obj) → Prop} {s₁ : Shared} {h' : Heap} {tk : Nat} {m' : Str → Option Value}
    (F : Fr h₀ L h' m') (N : News h₀ L h' (nx ++ own)) (hoff : ∀ p ∈ nx, p.1 ∉ off) (hJ : J m' nx) : TurnEnd h₀ L own off J s₁ { s₁ with heap := h', toks := tk } :=
  ⟨h', tk, m', nx ++ own, nx, rfl, F, N, fun p hp => List.mem_append_left _ hp, fun p hp => List.mem_append_right _ hp, hoff, hJ⟩
theorem off_head {r : Addr} {o o' : Obj} {news : List (Addr × Obj)} {off : List Addr} (h : ∀ p ∈ (r, o) :: news, p.1 ∉ off) : ∀ p ∈ (r, o') :: news, p.1 ∉ off := fun p hp => by
  rcases List.mem_cons.mp hp with rfl | hp
  · exact h (r, o) (.head _)
  · exact h p (.tail _ hp)
theorem quote_eq {c : Str} (h : (c == Str.ofString "\"") = true) : c = ⟨#[34]⟩ := (eq_of_beq h).trans (by decide +kernel)
theorem quote_ne {c : Str} (h : (c == Str.ofString "\"") = false) : c ≠ ⟨#[34]⟩ := fun e => by
  rw [e] at h; exact absurd h (by decide +kernel)

theorem strsAre_snoc {vs : List Value} {ys : List Str} {y : Str} {t : Tok} (h : StrsAre vs ys) : StrsAre (vs ++ [.str y t]) (ys ++ [y]) := by
  induction h with
  | nil => exact .cons y t .nil
  | cons a b _ ih => exact .cons a b ih
theorem listOf_push (vs : List Value) (v : Value) (n : Nat) : listOf (vs.toArray.push v) n = listOf (vs ++ [v]).toArray n := by rw [List.push_toArray]

theorem sum_len_le {l : List Str} {n : Nat} (h : ∀ y ∈ l, y.length ≤ n) : (l.map (·.length)).sum ≤ l.length * n := by
  induction l with
  | nil => simp
  | cons a r ih =>
    have h1 := h a (List.mem_cons_self ..)
    have h2 := ih fun y hy => h y (List.mem_cons_of_mem _ hy)
    simp only [List.map_cons, List.sum_cons, List.length_cons, Nat.succ_mul]
    omega
theorem strsAre_len {vs : List Value} {ys : List Str} (h : StrsAre vs ys) : ys.length = vs.length := by
  induction h with
  | nil => rfl
  | cons a b _ ih => simp [ih]
theorem quote_mem {x : Str} {b : Bool} (h : (Builtin.Str.occurrences x (Str.ofString "\"") 0 x.length 1).isEmpty = b) : decide (34 ∈ x.cps.toList) = !b := by
  have := StrLaws.found_one x 34
  rw [show (Str.ofString "\"") = ⟨#[34]⟩ from by decide +kernel] at h
  rw [h] at this
  exact this.symm

abbrev mapOf {h₀ h : Heap} {L : Addr} {m : Str → Option Value} (_ : Fr h₀ L h m) : Str → Option Value := m

theorem all_nil {α : Type} {P : α → Prop} : ∀ p ∈ ([] : List α), P p := fun _ h => nomatch h
theorem all_cons {α : Type} {P : α → Prop} {a : α} {l : List α} (h : P a) (r : ∀ p ∈ l, P p) : ∀ p ∈ a :: l, P p := fun p hp => by
  rcases List.mem_cons.mp hp with rfl | hp
  · exact h
  · exact r p hp

theorem strip_spec {w : World} {p : Program} {loose : List Str} {mean : ExcName → Option Value} {mg mb : Str → Option Value}
   (x : Str) (tx : Tok) (news : List (Addr × Obj)) (hx : x.length ≤ 1000) :
   KClaim w p loose mean mg mb 119 [.str x tx] news 3 16 True (fun h₀ L m s Q => ∀ t h' tk' gs, Fr h₀ L h' m → News h₀ L h' news → GUp s.gens gs → Q (.str (stripF x) t) { s with heap := h', toks := tk', gens := gs }) := by
  unfold KClaim; k_fill
  intro dp un gd cn cs a ccd cl outer A₀ base h₀ L m s Q E hB hF hX hN hT hk _ hdp hun hret
  refine wpAny_call ?_
  k_dflt cell_enter
  repeat' (first | (k_unfold; (try dsimp only)) | ((fail_if_success (with_reducible show wpAny _ _ (exec (Stmt.For _ _ _ _ _) _) _ _ _)); walk1) | (leave1; walk_say "STEP leave1"; try dsimp only))
  · rename_i kF kN _ _
    have hq' := quote_mem (x := x) (by assumption)
    have e : stripF x = x := by
      unfold stripF
      rw [if_neg (of_decide_eq_false hq')]
    rw [e] at hret
    exact hret tx _ _ _ kF kN (GUp.refl _)
  rename_i r _ hlt hp F1 N1
  refine wpAny_For ?_
  repeat' (first | (k_unfold; (try dsimp only)) | ((fail_if_success (with_reducible show wpAny _ _ (call _ _ _) _ _ _)); walk1))
  refine esc_for (stripJ x tx r news) rfl (show dp + 1 < recursionLimit by omega) rfl rfl rfl F1 N1 (by assumption) (by assumption) ?_ ?_ ?_
  · exact ⟨_, 0, [], 0, all_cons (by with_unfolding_all rfl) (all_cons (by with_unfolding_all rfl) (all_cons (by with_unfolding_all rfl) (all_cons (by with_unfolding_all rfl) all_nil))), rfl, .nil, Nat.le_refl _, by simp⟩
  · rintro j x' t u m₁ news₁ own off h tk₁ gs hx' ⟨ts, to, vs, nn, hm, rfl, hS, hvj, hy⟩ hoff hown hlim F2 N2 hG
    have hj : j < x.length := by
      have h1 := (List.getElem?_eq_some_iff.mp hx').1
      have h2 := escF_length x.cps.toList false 0
      have h3 : x.cps.toList.length = x.length := by simp [Str.length]
      simp only [Bool.false_eq_true, if_false] at h2
      omega
    have hvl : vs.length ≤ 1000 := by omega
    have hne : ∀ p ∈ news ++ own, p.1 ≠ r := by
      intro p hp e
      rcases List.mem_append.mp hp with q | q
      · exact absurd (hlt p q) (e ▸ Nat.lt_irrefl _)
      · exact hoff (r, listOf vs.toArray nn) (.head _) (e ▸ hown p q)
    rw [kstB_self hm] at F2
    dsimp only [kstB] at F2
    generalize hst : ((escF false 0 x.cps.toList).take j).foldl (stStep x) ⟨0, none, []⟩ = st at F2 hm hS hy
    obtain ⟨start, op, res⟩ := st
    have hsnoc : ((escF false 0 x.cps.toList).take (j + 1)).foldl (stStep x) ⟨0, none, []⟩ = stStep x ⟨start, op, res⟩ x' := by
      rw [List.take_add_one, hx', List.foldl_append, hst]; rfl
    obtain ⟨xp, xc⟩ := x'
    cases op with
    | none =>
      dsimp only [opV] at F2
      k_steps
      · rename_i hc _ F3 N3
        refine turnEnd_of F3 N3 (off_head hoff) ?_
        refine ⟨ts, t, vs, nn, ?_, rfl, ?_, Nat.le_succ_of_le hvj, ?_⟩ <;> rw [hsnoc] <;> simp only [stStep, quote_eq hc, if_true]
        · exact all_cons (by with_unfolding_all rfl) (all_cons (by with_unfolding_all rfl) (all_cons (by with_unfolding_all rfl) (all_cons (by with_unfolding_all rfl) all_nil)))
        · exact hS
        · exact hy
      · rename_i hc
        refine turnEnd_of F2 N2 (off_head hoff) ?_
        refine ⟨ts, t, vs, nn, ?_, rfl, ?_, Nat.le_succ_of_le hvj, ?_⟩ <;> rw [hsnoc] <;> simp only [stStep, quote_ne hc, if_false]
        · exact all_cons (by with_unfolding_all rfl) (all_cons (by with_unfolding_all rfl) (all_cons (by with_unfolding_all rfl) (all_cons (by with_unfolding_all rfl) all_nil)))
        · exact hS
        · exact hy
    | some o =>
      dsimp only [opV] at F2
      k_steps
      · rename_i F3 N3
        have hc : xc = ⟨#[34]⟩ := quote_eq (by assumption)
        have hso : ¬ start = o := by assumption
        rw [listOf_push] at N3
        refine turnEnd_of (nx := (r, _) :: news) F3 N3 (off_head hoff) ?_
        obtain ⟨ts', hts'⟩ : ∃ t, mapOf F3 "start" = some (Value.int (xp + 1) t) := ⟨_, by with_unfolding_all rfl⟩
        refine ⟨ts', 0, _, _, ?_, rfl, ?_, ?_, ?_⟩ <;> (try rw [hsnoc]) <;> (try simp only [stStep, hc, if_true, if_neg hso])
        · exact all_cons (by with_unfolding_all rfl) (all_cons hts' (all_cons (by with_unfolding_all rfl) (all_cons (by with_unfolding_all rfl) all_nil)))
        · exact strsAre_snoc hS
        · rw [List.length_append]; exact Nat.succ_le_succ hvj
        · intro y hy'
          rcases List.mem_append.mp hy' with q | q
          · exact hy y q
          · rw [List.mem_singleton.mp q]; exact PyProof.Txt.length_slice_le x _ _
      · rename_i F3 N3
        have hc : xc = ⟨#[34]⟩ := quote_eq (by assumption)
        have hso : start = o := by assumption
        refine turnEnd_of F3 N3 (off_head hoff) ?_
        obtain ⟨ts', hts'⟩ : ∃ t, mapOf F3 "start" = some (Value.int (xp + 1) t) := ⟨_, by with_unfolding_all rfl⟩
        refine ⟨ts', 0, vs, nn, ?_, rfl, ?_, ?_, ?_⟩ <;> (try rw [hsnoc]) <;> (try simp only [stStep, hc, if_true, if_pos hso])
        · exact all_cons (by with_unfolding_all rfl) (all_cons hts' (all_cons (by with_unfolding_all rfl) (all_cons (by with_unfolding_all rfl) all_nil)))
        · exact hS
        · exact Nat.le_succ_of_le hvj
        · exact hy
      · rename_i hc
        refine turnEnd_of F2 N2 (off_head hoff) ?_
        refine ⟨ts, to, vs, nn, ?_, rfl, ?_, Nat.le_succ_of_le hvj, ?_⟩ <;> rw [hsnoc] <;> simp only [stStep, quote_ne hc, if_false]
        · exact all_cons (by with_unfolding_all rfl) (all_cons (by with_unfolding_all rfl) (all_cons (by with_unfolding_all rfl) (all_cons (by with_unfolding_all rfl) all_nil)))
        · exact hS
        · exact hy
  · rintro m₁ news₁ h tk₁ gs ⟨ts, to, vs, nn, hm, rfl, hS, hvj, hy⟩ F2 N2 hG
    have hvl : vs.length ≤ 1000 := by
      have h2 := escF_length x.cps.toList false 0
      have h3 : x.cps.toList.length = x.length := by simp [Str.length]
      simp only [Bool.false_eq_true, if_false] at h2
      omega
    rw [List.take_length] at hm hS hy
    rw [kstB_self hm] at F2
    dsimp only [kstB] at F2
    have hne : ∀ p ∈ news, p.1 ≠ r := fun p hp e => absurd (hlt p hp) (e ▸ Nat.lt_irrefl _)
    generalize hst : (escF false 0 x.cps.toList).foldl (stStep x) ⟨0, none, []⟩ = st at F2 hm hS hy
    obtain ⟨start, op, res⟩ := st
    dsimp only
    have e0 : (Str.ofString "").length = 0 := by decide +kernel
    have eE : Str.ofString "" = ⟨#[]⟩ := by decide +kernel
    have hq' : 34 ∈ x.cps.toList := of_decide_eq_true (quote_mem (by assumption))
    have hun : stRun x = ⟨start, op, res⟩ := hst
    k_steps
    · rename_i hlen _ _ _ _ _ _ F3 N3
      rw [listOf_push] at N3
      refine join_list (D := r) ⟨_, (N3 _ (.head _)).1, rfl, _, rfl⟩ (strsAre_snoc hS) ?_ fun t' k => ?_
      · have h1 := sum_len_le (l := res ++ [Txt.slice x (some start) none]) (n := 1000) (fun y hy' => by
          rcases List.mem_append.mp hy' with q | q
          · exact Nat.le_trans (hy y q) hx
          · rw [List.mem_singleton.mp q]; exact Nat.le_trans (PyProof.Txt.length_slice_le x _ _) hx)
        have h2 := strsAre_len hS
        dsimp only at h2 ⊢
        rw [e0, Nat.mul_zero, Nat.add_zero]
        rw [List.length_append, List.length_singleton] at h1
        omega
      · k_unfold
        dsimp only
        have e : stripF x = Str.join ⟨#[]⟩ (res ++ [Txt.slice x (some start) none]) := by
          unfold stripF
          rw [if_pos hq', hun]
          dsimp only
          rw [if_pos hlen]
        rw [show Txt.join (Str.ofString "") (res ++ [Txt.slice x (some start) none]) = stripF x from by rw [e, eE]; exact StrLaws.glued_eq_join _ _]
        exact leaveK_ F3 N3 fun kF kN => hret t' _ _ _ kF (fun p hp => kN p (.tail _ hp)) hG
    · rename_i hlen
      refine join_list (D := r) ⟨_, (N2 _ (.head _)).1, rfl, _, rfl⟩ hS ?_ fun t' k => ?_
      · have h1 := sum_len_le (l := res) (n := 1000) (fun y hy' => Nat.le_trans (hy y hy') hx)
        have h2 := strsAre_len hS
        dsimp only at h2 ⊢
        rw [e0, Nat.mul_zero, Nat.add_zero]
        omega
      · k_unfold
        dsimp only
        have e : stripF x = Str.join ⟨#[]⟩ res := by
          unfold stripF
          rw [if_pos hq', hun]
          dsimp only
          rw [if_neg hlen]
        rw [show Txt.join (Str.ofString "") res = stripF x from by rw [e, eE]; exact StrLaws.glued_eq_join _ _]
        exact leaveK_ F2 N2 fun kF kN => hret t' _ _ _ kF (fun p hp => kN p (.tail _ hp)) hG
end Mine
end

section
open PySem PySem.W PyProof.Rows PySem.Spec PySem.Calls
set_option maxHeartbeats 4000000
namespace Mine
/-- a mark for the walk: the end of a cut is None here -/
inductive NNMark : Prop
  | mk : NNMark
def preN (x y : Str) : Nat → Nat → Nat
  | 0, j => j
  | n + 1, j => if (Txt.slice x (some (j : Int)) none).length ≠ 0 ∧ (Txt.slice y (some (j : Int)) none).length ≠ 0 ∧ Txt.item x (j : Int) = Txt.item y (j : Int) then preN x y n (j + 1) else j
def cutE (x : Str) (j : Nat) : Str := if j = 0 then Txt.slice x none none else Txt.slice x none (some (-(j : Int)))
def sufN (x y : Str) : Nat → Nat → Nat
  | 0, j => j
  | n + 1, j => if (cutE x j).length ≠ 0 ∧ (cutE y j).length ≠ 0 ∧ Txt.item x (-(j : Int) - 1) = Txt.item y (-(j : Int) - 1) then sufN x y n (j + 1) else j
structure LevS where
  dist : Int
  res : Int
  min : Int
  row : List Int
def minP (p q : Int) : Int := if q < p then q else p
def innerS (bc a : Str) (st : LevS) (i : Nat) : LevS :=
  let sub := st.dist + subCost bc (Txt.item a (i : Int))
  let d := st.row.getD i 0
  let r := minP (minP st.res d + 2) sub
  ⟨d, r, if r < st.min then r else st.min, st.row.set i r⟩
def outerS (a b : Str) (k : Int) (st : Option Int × Int × List Int) (bi : Nat) : Option Int × Int × List Int := match st with
  | (some r, q, row) => (some r, q, row)
  | (none, _, row) =>
    let t := (List.range a.length).foldl (innerS (Txt.item b (bi : Int)) a) ⟨(bi : Int) * 2, (bi : Int) * 2, 9223372036854775807, row⟩
    if k < t.min then (some (k + 1), t.res, t.row) else (none, t.res, t.row)
def levRows (a b : Str) (k : Int) : Int :=
  match (List.range b.length).foldl (outerS a b k) (none, 0, (List.range a.length).map fun (i : Nat) => 2 * ((i : Int) + 1)) with
  | (some r, _, _) => r
  | (none, r, _) => r
def levTail (a b : Str) (k : Int) : Int :=
  if a.length = 0 ∨ b.length = 0 then 2 * ((a.length : Int) + (b.length : Int))
  else
    let p := if b.length < a.length then (b, a) else (a, b)
    if k < ((p.2.length : Int) - (p.1.length : Int)) * 2 then k + 1 else levRows p.1 p.2 k
def levF (x y : Str) (k : Int) : Int :=
  if x = y then 0 else
  let p := preN x y (x.length + 1) 0
  let a := Txt.slice x (some (p : Int)) none
  let b := Txt.slice y (some (p : Int)) none
  let q := sufN a b (a.length + 1) 0
  levTail (cutE a q) (cutE b q) k

def WhileOut (h₀ : Heap) (L : Addr) (s : Shared) (P : (Str → Option Value) → List (Addr × Obj) → Prop) (s₂ : Shared) : Prop :=
  ∃ h' tk m₂ news₂, s₂ = { s with heap := h', toks := tk } ∧ Fr h₀ L h' m₂ ∧ News h₀ L h' news₂ ∧ P m₂ news₂
theorem WhileOut.intro {h₀ h' : Heap} {L : Addr} {s : Shared} {P : (Str → Option Value) → List (Addr × Obj) → Prop} {tk : Nat} {m₂ : Str → Option Value} {news₂ : List (Addr × Obj)}
    (F : Fr h₀ L h' m₂) (N : News h₀ L h' news₂) (hP : P m₂ news₂) : WhileOut h₀ L s P { s with heap := h', toks := tk } := ⟨h', tk, m₂, news₂, rfl, F, N, hP⟩
section
variable {prog : Program} {w : World} {A : Around} {E : Value → Shared → Prop} {Q : Flow → Shared → Prop} {s : Shared} {env : Env} {h₀ : Heap} {L : Addr}
theorem While_to {test : Expr} {body : List Stmt} {pos : Pos} {m : Str → Option Value} {news : List (Addr × Obj)} (J : Nat → (Str → Option Value) → List (Addr × Obj) → Prop) (P : (Str → Option Value) → List (Addr × Obj) → Prop) {n₀ : Nat}
    (F : Fr h₀ L s.heap m) (N : News h₀ L s.heap news) (hJ : J n₀ m news)
    (turn : ∀ n m₁ news₁ h₁ tk₁, Fr h₀ L h₁ m₁ → News h₀ L h₁ news₁ → J n m₁ news₁ →
      wpAny (model prog w) A (isTrue test env (eval test env)) (fun b s₂ =>
        if b = true then wpAny (model prog w) A (execs body env) (WhileStep h₀ L s J n) E s₂ else WhileOut h₀ L s P s₂) E { s with heap := h₁, toks := tk₁ })
    (hE : PassesOwn (model prog w) A env E)
    (cont : ∀ m₁ news₁ h₁ tk₁, Fr h₀ L h₁ m₁ → News h₀ L h₁ news₁ → P m₁ news₁ → Q .next { s with heap := h₁, toks := tk₁ }) :
    wpAny (model prog w) A (exec (.While test body [] pos) env) Q E s := by
  refine While_inv J F N hJ (fun n m₁ news₁ h₁ tk₁ F₁ N₁ J₁ => wpAny_mono (turn n m₁ news₁ h₁ tk₁ F₁ N₁ J₁) (fun b s₂ h => ?_) fun _ _ z => z) hE
  cases b with
  | true => exact h
  | false =>
    simp only [Bool.false_eq_true, if_false] at h ⊢
    obtain ⟨h', tk, m₂, news₂, rfl, F₂, N₂, hP⟩ := h
    exact cont m₂ news₂ h' tk F₂ N₂ hP
end

theorem slice_neg_len (x : Str) (j : Nat) (h0 : 0 < j) (h1 : j ≤ x.length) : (Txt.slice x none (some (-(j : Int)))).length = x.length - j := by
  have e : Txt.slice x none (some (-(j : Int))) = StrLaws.sliceText x none (some (-(j : Int))) := rfl
  rw [e, StrLaws.sliceText_to_neg (by omega) (by omega)]
  have hl : x.cps.toList.length = x.length := by simp [Str.length]
  show (((x.cps.toList.drop 0).take _).toArray).size = _
  rw [List.size_toArray, List.length_take, List.drop_zero, hl]
  omega
end Mine
end

section
open PySem PySem.W PyProof.Rows PySem.Spec PySem.Calls
set_option maxHeartbeats 8000000
namespace Mine
abbrev levEnv (L a : Addr) (cd : Value) : Env := envOf (fnName 13) (fnScope 13) L a cd
def stmtIx : Nat → Stmt := stmtAt (fnBody 13)

local macro_rules | `(tactic| walk_at "subscriptTail Name Slice str ref") => `(tactic| ((with_reducible rename NNMark => nnm); (with_reducible show wpAny _ _ (subscriptTail _ (Expr.Slice none (some (Expr.BoolOp _ _ _)) none _) _ _) _ _ _); ((with_reducible rename Fr _ _ _ _ => F'); (with_reducible rename News _ _ _ _ => N'); (refine slice_strN_nn_len (s := ⟨_, _, _, _, _⟩) F' N' ?_); intro _ _ _ _ _ _)))

theorem suf_turn0 {prog : Program} {w : World} {A : Around} {Q : Bool → Shared → Prop} {E : Value → Shared → Prop} {s : Shared} {h₀ : Heap} {L a : Addr} {cd : Value} {m₁ : Str → Option Value} {news : List (Addr × Obj)} {a1 b1 : Str} {ta tb tj : Tok}
    (ha1 : a1.length ≤ 40) (hb1 : b1.length ≤ 40) (F : Fr h₀ L s.heap m₁) (N : News h₀ L s.heap news)
    (hm : ∀ q ∈ [(("a" : Str), Value.str a1 ta), ("b", .str b1 tb), ("post", .int 0 tj)], m₁ q.1 = some q.2)
    (hQ : ∀ b h' tk, Fr h₀ L h' m₁ → News h₀ L h' news → (b = true ↔ (Txt.slice a1 none none).length ≠ 0 ∧ (Txt.slice b1 none none).length ≠ 0 ∧ Txt.item a1 (-1) = Txt.item b1 (-1)) → Q b { s with heap := h', toks := tk }) :
    wpAny (model prog w) A (isTrue (match stmtIx 6 with | .While t _ _ _ => t | _ => default) (levEnv L a cd) (eval (match stmtIx 6 with | .While t _ _ _ => t | _ => default) (levEnv L a cd))) Q E s := by
  rw [kstB_self hm] at F
  dsimp only [kstB] at F
  obtain ⟨h, g, d, tk, os⟩ := s
  dsimp only at F N
  have nn0 := NNMark.mk
  show wpAny _ _ (isTrue (.BoolOp .And [_, _, _] _) _ (eval (.BoolOp .And [_, _, _] _) _)) _ _ _
  repeat' (first | (k_unfold; (try dsimp only)) | walk1)
  · have hi := eq_of_beq (show (Txt.item a1 (-1) == Txt.item b1 (-1)) = true by assumption)
    refine hQ true _ _ (by rw [kstB_self hm]; assumption) (by assumption) ⟨fun _ => ⟨by omega, by omega, hi⟩, fun _ => rfl⟩
  · have hi : ¬ Txt.item a1 (-1) = Txt.item b1 (-1) := fun e => by
      have h1 : (Txt.item a1 (-1) == Txt.item b1 (-1)) = false := by assumption
      rw [e] at h1; simp at h1
    refine hQ false _ _ (by rw [kstB_self hm]; assumption) (by assumption) ⟨(fun h => by cases h), fun h => absurd h.2.2 hi⟩
  · refine hQ false _ _ (by rw [kstB_self hm]; assumption) (by assumption) ⟨(fun h => by cases h), fun h => by omega⟩
  · refine hQ false _ _ (by rw [kstB_self hm]; assumption) (by assumption) ⟨(fun h => by cases h), fun h => by omega⟩

theorem suf_turnJ {prog : Program} {w : World} {A : Around} {Q : Bool → Shared → Prop} {E : Value → Shared → Prop} {s : Shared} {h₀ : Heap} {L a : Addr} {cd : Value} {m₁ : Str → Option Value} {news : List (Addr × Obj)} {a1 b1 : Str} {ta tb tj : Tok} {j : Nat}
    (ha1 : a1.length ≤ 40) (hb1 : b1.length ≤ 40) (hj0 : 0 < j) (hj1 : j ≤ a1.length) (hj2 : j ≤ b1.length) (F : Fr h₀ L s.heap m₁) (N : News h₀ L s.heap news)
    (hm : ∀ q ∈ [(("a" : Str), Value.str a1 ta), ("b", .str b1 tb), ("post", .int (-(j : Int)) tj)], m₁ q.1 = some q.2)
    (hQ : ∀ b h' tk, Fr h₀ L h' m₁ → News h₀ L h' news → (b = true ↔ (Txt.slice a1 none (some (-(j : Int)))).length ≠ 0 ∧ (Txt.slice b1 none (some (-(j : Int)))).length ≠ 0 ∧ Txt.item a1 (-(j : Int) - 1) = Txt.item b1 (-(j : Int) - 1)) → Q b { s with heap := h', toks := tk }) :
    wpAny (model prog w) A (isTrue (match stmtIx 6 with | .While t _ _ _ => t | _ => default) (levEnv L a cd) (eval (match stmtIx 6 with | .While t _ _ _ => t | _ => default) (levEnv L a cd))) Q E s := by
  rw [kstB_self hm] at F
  dsimp only [kstB] at F
  obtain ⟨h, g, d, tk, os⟩ := s
  dsimp only at F N
  have hla := slice_neg_len a1 j hj0 hj1
  have hlb := slice_neg_len b1 j hj0 hj2
  show wpAny _ _ (isTrue (.BoolOp .And [_, _, _] _) _ (eval (.BoolOp .And [_, _, _] _) _)) _ _ _
  repeat' (first | (exfalso; omega) | (k_unfold; (try dsimp only)) | walk1)
  · have hi := eq_of_beq (show (Txt.item a1 (-(j : Int) - 1) == Txt.item b1 (-(j : Int) - 1)) = true by assumption)
    refine hQ true _ _ (by rw [kstB_self hm]; assumption) (by assumption) ⟨fun _ => ⟨by omega, by omega, hi⟩, fun _ => rfl⟩
  · have hi : ¬ Txt.item a1 (-(j : Int) - 1) = Txt.item b1 (-(j : Int) - 1) := fun e => by
      have h1 : (Txt.item a1 (-(j : Int) - 1) == Txt.item b1 (-(j : Int) - 1)) = false := by assumption
      rw [e] at h1; simp at h1
    refine hQ false _ _ (by rw [kstB_self hm]; assumption) (by assumption) ⟨(fun h => by cases h), fun h => absurd h.2.2 hi⟩
  · refine hQ false _ _ (by rw [kstB_self hm]; assumption) (by assumption) ⟨(fun h => by cases h), fun h => by omega⟩
  · refine hQ false _ _ (by rw [kstB_self hm]; assumption) (by assumption) ⟨(fun h => by cases h), fun h => by omega⟩

theorem while2 {prog : Program} {w : World} {A : Around} {Q : Flow → Shared → Prop} {E : Value → Shared → Prop} {s : Shared} {h₀ : Heap} {L a : Addr} {cd : Value} {m : Str → Option Value} {news : List (Addr × Obj)} {a1 b1 : Str} {ta tb t3 tpo : Tok} {k : Int} {S : Nat}
    (ha1 : a1.length ≤ 40) (hb1 : b1.length ≤ 40) (hS : sufN a1 b1 (a1.length + 1) 0 = S) (F : Fr h₀ L s.heap m) (N : News h₀ L s.heap news)
    (hm : ∀ q ∈ [(("a" : Str), Value.str a1 ta), ("b", .str b1 tb), ("max_cost", .int k t3), ("post", .int 0 tpo)], m q.1 = some q.2) (hE : PassesOwn (model prog w) A (levEnv L a cd) E)
    (cont : ∀ m₁ h₁ tk₁ tj, Fr h₀ L h₁ m₁ → News h₀ L h₁ news → (∀ q ∈ [(("a" : Str), Value.str a1 ta), ("b", .str b1 tb), ("max_cost", .int k t3), ("post", .int (-(S : Int)) tj)], m₁ q.1 = some q.2) → S ≤ a1.length → S ≤ b1.length → Q .next { s with heap := h₁, toks := tk₁ }) :
    wpAny (model prog w) A (exec (stmtIx 6) (levEnv L a cd)) Q E s := by
  show wpAny _ _ (exec (.While (match stmtIx 6 with | .While t _ _ _ => t | _ => default) (match stmtIx 6 with | .While _ b _ _ => b | _ => default) [] _) _) _ _ _
  refine While_to (fun n m₁ news₂ => ∃ (j : Nat) (tj : Tok), (∀ q ∈ [(("a" : Str), Value.str a1 ta), ("b", .str b1 tb), ("max_cost", .int k t3), ("post", .int (-(j : Int)) tj)], m₁ q.1 = some q.2) ∧ news₂ = news ∧ j ≤ a1.length ∧ j ≤ b1.length ∧ n + j = a1.length + 1 ∧ sufN a1 b1 n j = S)
      (fun m₁ news₂ => ∃ tj, (∀ q ∈ [(("a" : Str), Value.str a1 ta), ("b", .str b1 tb), ("max_cost", .int k t3), ("post", .int (-(S : Int)) tj)], m₁ q.1 = some q.2) ∧ news₂ = news ∧ S ≤ a1.length ∧ S ≤ b1.length) (n₀ := a1.length + 1)
      F N ⟨0, tpo, hm, rfl, Nat.zero_le _, Nat.zero_le _, rfl, hS⟩ ?_ hE ?_
  · rintro n m₁ news₂ h4 tk4 F4 N4 ⟨j, tj, hm4, hnw, hj1, hj2, hnj, hsuf⟩
    subst hnw
    obtain ⟨n, rfl⟩ : ∃ n', n = n' + 1 := ⟨n - 1, by omega⟩
    rw [sufN] at hsuf
    have ma := hm4 _ (.head _)
    have mb := hm4 _ (.tail _ (.head _))
    have mk := hm4 _ (.tail _ (.tail _ (.head _)))
    have mp := hm4 _ (.tail _ (.tail _ (.tail _ (.head _))))
    have fin : ∀ (b : Bool) (h' : Heap) (tk : Nat), Fr h₀ L h' m₁ → News h₀ L h' news₂ → (b = true ↔ (cutE a1 j).length ≠ 0 ∧ (cutE b1 j).length ≠ 0 ∧ Txt.item a1 (-(j : Int) - 1) = Txt.item b1 (-(j : Int) - 1)) →
        ((cutE a1 j).length ≠ 0 → (cutE b1 j).length ≠ 0 → j + 1 ≤ a1.length ∧ j + 1 ≤ b1.length) →
        (if b = true then wpAny (model prog w) A (execs (match stmtIx 6 with | .While _ b _ _ => b | _ => default) (levEnv L a cd)) (WhileStep h₀ L s (fun n m₁ news₃ => ∃ (j : Nat) (tj : Tok), (∀ q ∈ [(("a" : Str), Value.str a1 ta), ("b", .str b1 tb), ("max_cost", .int k t3), ("post", .int (-(j : Int)) tj)], m₁ q.1 = some q.2) ∧ news₃ = news₂ ∧ j ≤ a1.length ∧ j ≤ b1.length ∧ n + j = a1.length + 1 ∧ sufN a1 b1 n j = S) (n + 1)) E { s with heap := h', toks := tk }
          else WhileOut h₀ L s (fun m₁ news₃ => ∃ tj, (∀ q ∈ [(("a" : Str), Value.str a1 ta), ("b", .str b1 tb), ("max_cost", .int k t3), ("post", .int (-(S : Int)) tj)], m₁ q.1 = some q.2) ∧ news₃ = news₂ ∧ S ≤ a1.length ∧ S ≤ b1.length) { s with heap := h', toks := tk }) := by
      intro b h' tk F' N' hb hlt
      cases b with
      | true =>
        rw [if_pos rfl]
        have hc := hb.mp rfl
        obtain ⟨hl1, hl2⟩ := hlt hc.1 hc.2.1
        rw [if_pos hc] at hsuf
        rw [kstB_self hm4] at F'
        dsimp only [kstB] at F'
        show wpAny _ _ (execs [.AugAssign _ _ _ _] _) _ _ _
        repeat' (first | (k_unfold; (try dsimp only)) | walk1)
        rename Fr _ _ _ _ => F5
        obtain ⟨tq, htq⟩ : ∃ t, mapOf F5 "post" = some (.int (-(j : Int) - 1) t) := ⟨_, by with_unfolding_all rfl⟩
        have hpn : (-(j : Int) - 1) = -((j + 1 : Nat) : Int) := by omega
        have htq := htq.trans (congrArg (fun z => some (Value.int z tq)) hpn)
        exact WhileStep.intro F5 (by assumption) (Nat.lt_succ_self n) ⟨j + 1, tq, all_cons (by with_unfolding_all rfl) (all_cons (by with_unfolding_all rfl) (all_cons (by with_unfolding_all rfl) (all_cons htq all_nil))), rfl, hl1, hl2, by omega, hsuf⟩
      | false =>
        rw [if_neg Bool.false_ne_true]
        have hc : ¬ ((cutE a1 j).length ≠ 0 ∧ (cutE b1 j).length ≠ 0 ∧ Txt.item a1 (-(j : Int) - 1) = Txt.item b1 (-(j : Int) - 1)) := fun h => by
          have := hb.mpr h
          cases this
        rw [if_neg hc] at hsuf
        subst hsuf
        exact WhileOut.intro F' N' ⟨tj, hm4, rfl, hj1, hj2⟩
    by_cases hj0 : j = 0
    · subst hj0
      refine suf_turn0 ha1 hb1 F4 N4 (all_cons ma (all_cons mb (all_cons mp all_nil))) fun b h' tk F' N' hb => fin b h' tk F' N' ?_ ?_
      · simp only [cutE, if_true]; exact hb
      · intro h1 h2
        have g1 := PyProof.Txt.length_slice_le a1 none none
        have g2 := PyProof.Txt.length_slice_le b1 none none
        simp only [cutE, if_true] at h1 h2
        omega
    · refine suf_turnJ ha1 hb1 (by omega) hj1 hj2 F4 N4 (all_cons ma (all_cons mb (all_cons mp all_nil))) fun b h' tk F' N' hb => fin b h' tk F' N' ?_ ?_
      · simpa only [cutE, if_neg hj0] using hb
      · intro h1 h2
        have g1 := slice_neg_len a1 j (by omega) hj1
        have g2 := slice_neg_len b1 j (by omega) hj2
        simp only [cutE, if_neg hj0] at h1 h2
        omega
  · rintro m₁ news₂ h4 tk4 F4 N4 ⟨tj, hm4, rfl, h1, h2⟩
    exact cont m₁ h4 tk4 tj F4 N4 hm4 h1 h2
end Mine
end

section
open PySem PySem.W PyProof.Rows PySem.Spec PySem.Calls
set_option maxHeartbeats 4000000
namespace Mine
/-- height and least height of a row -/
def lkS (p : Int × Int) (u : Int) : Int × Int := 
  let h := if u < 4 then p.1 + (1 - 2 * Int.fmod u 2) else p.1
  (h, if h < p.2 then h else p.2)
def lk (us : List Int) : Int × Int := us.foldl lkS (0, 0)
theorem lk_snoc (us : List Int) (u : Int) : lk (us ++ [u]) = lkS (lk us) u := by simp [lk]

theorem lacks_spec {w : World} {p : Program} {loose : List Str} {mean : ExcName → Option Value} {mg mb : Str → Option Value}
   (l : Addr) (vs : List Value) (ns : List Int) (nn : Nat) (news : List (Addr × Obj))
   (dp un : Nat) (gd : Option (List Code)) (cn : Str) (cs : Scope) (a : Addr) (ccd : Value) (cl : List (Str × Addr)) (outer : List Env) (A₀ : Around) (base h₀ : Heap) (L : Addr) (m : Str → Option Value) (s : Shared) (Q E : Value → Shared → Prop)
   (hB : Below A₀ base outer h₀) (hF : Fr h₀ L s.heap m) (hX : (hd.heap_39 w.params).In h₀) (hN : News h₀ L s.heap ((l, listOf vs.toArray nn) :: news)) (hT : Top p loose mean mg mb h₀) (hk : cs.kind = .function)
   (hi : IntsAre vs ns) (hlen : ns.length < 100) (hdp : dp + 1 < recursionLimit) (hun : un + 8 < cLine)
   (hret : ∀ T t1 t2 (h' : Heap) (tk' : Nat), Fr h₀ L h' m → News h₀ L h' ((T, { cls := .type "tuple", data := .seq #[.int (-(lk ns).2) t1, .int ((lk ns).1 - (lk ns).2) t2] }) :: (l, listOf vs.toArray nn) :: news) → (∀ q ∈ (l, listOf vs.toArray nn) :: news, q.1 < T) → Q (.ref T) { s with heap := h', toks := tk' }) :
   wpAny (model PySem.Challenge.rw_tc0006_01.row.prog w) (ktrTop dp un gd cn cs L a ccd cl outer) (call (.ref 159) [.ref l]) Q E s := by
  revert hX; k_fill; intro hX
  refine wpAny_call ?_
  k_dflt cell_enter
  k_with "pyIter ref" => k_state (fun pre h l => (h, l) = lk pre) "height" "least"
  k_with "state" => (first | rfl | (rw [lk_snoc, ← kInv]; simp only [lkS]; first | (rw [if_pos (by assumption)]; done) | (rw [if_neg (by assumption)]; done) | (simp [*]; done)))
  k_steps
  rename_i l1 kF kN Tc kX
  have e1 := congrArg Prod.fst kInv
  have e2 := congrArg Prod.snd kInv
  dsimp only at e1 e2
  rw [← e1, ← e2] at hret
  refine hret _ _ _ _ _ kF (news_skip2 kN) ?_
  intro q hq
  rcases List.mem_cons.mp hq with rfl | hq
  · exact l1.2.1
  · exact allLt_mem l1.2.2 q hq
end Mine
end

section
open PySem PySem.W PyProof.Rows PySem.Spec PySem.Calls
set_option maxHeartbeats 4000000
namespace Mine
def unitCodes (u : Int) : List Nat := if u = 0 ∨ u = 2 then [40] else if u = 1 ∨ u = 3 then [41] else if u = 4 then [34, 40, 34] else [92, 41]
def unitTxt (u : Int) : Str := ⟨(unitCodes u).toArray⟩
def rowTxt (us : List Int) : Str := ⟨(us.flatMap unitCodes).toArray⟩

theorem six_cases {u : Int} (h : 0 ≤ u ∧ u < 6) : u = 0 ∨ u = 1 ∨ u = 2 ∨ u = 3 ∨ u = 4 ∨ u = 5 := by omega
theorem filter_true {α : Type} (l : List α) : l.filter (fun _ => true) = l := by induction l <;> simp_all
theorem ints_mem {vs : List Value} {ns : List Int} (h : IntsAre vs ns) {v : Value} (hv : v ∈ vs) : ∃ u t, v = .int u t ∧ u ∈ ns := by
  obtain ⟨i, hi⟩ := List.mem_iff_getElem?.mp hv
  have hlt : i < ns.length := by rw [← h.length]; exact (List.getElem?_eq_some_iff.mp hi).1
  obtain ⟨t, ht⟩ := h.get i ns[i] (by simp [hlt])
  exact ⟨ns[i], t, Option.some.inj (hi.symm.trans ht), List.getElem_mem hlt⟩

theorem strs_of : ∀ {vs : List Value} {ns : List Int} {ys : List Value}, IntsAre vs ns → Paired (fun v y => ∀ u t, v = Value.int u t → ∃ t', y = Value.str (unitTxt u) t') vs ys → StrsAre ys (ns.map unitTxt) := by
  intro vs ns ys h
  induction h generalizing ys with
  | nil => intro p; cases p; exact .nil
  | cons n t _ ih =>
    intro p
    cases p with
    | cons a b =>
      obtain ⟨t', rfl⟩ := a n t rfl
      exact .cons _ _ (ih b)
theorem units_len (ns : List Int) (hb : ∀ u ∈ ns, 0 ≤ u ∧ u < 6) : ((ns.map unitTxt).map (·.length)).sum ≤ 3 * ns.length := by
  induction ns with
  | nil => simp
  | cons u r ih =>
    have h1 := ih fun v hv => hb v (List.mem_cons_of_mem _ hv)
    have h2 : (unitTxt u).length ≤ 3 := by
      rcases six_cases (hb u (List.mem_cons_self ..)) with rfl | rfl | rfl | rfl | rfl | rfl <;> decide +kernel
    simp only [List.map_cons, List.sum_cons, List.length_cons]
    omega
theorem join_units : ∀ ns : List Int, Str.join (Str.ofString "") (ns.map unitTxt) = rowTxt ns := by
  have e : Str.ofString "" = ⟨#[]⟩ := by decide +kernel
  intro ns
  rw [e]
  induction ns with
  | nil => rfl
  | cons u r ih =>
    rw [List.map_cons, join_nil_cons, ih]
    apply Str.ext'
    simp [rowTxt, unitTxt, Str.cps_append]



theorem text_spec {w : World} {p : Program} {loose : List Str} {mean : ExcName → Option Value} {mg mb : Str → Option Value}
   (l : Addr) (vs : List Value) (ns : List Int) (nn : Nat) (news : List (Addr × Obj)) (hi : IntsAre vs ns) (hlen : ns.length < 100) (hb : ∀ u ∈ ns, 0 ≤ u ∧ u < 6) :
   KClaim w p loose mean mg mb 145 [.ref l] ((l, listOf vs.toArray nn) :: news) 1 8 True (fun h₀ L m s Q => ∀ t h' tk', Fr h₀ L h' m → News h₀ L h' ((l, listOf vs.toArray nn) :: news) → Q (.str (rowTxt ns) t) { s with heap := h', toks := tk' }) := by
  unfold KClaim; k_fill
  intro dp un gd cn cs a ccd cl outer A₀ base h₀ L m s Q E hB hF hX hN hT hk _ hdp hun hret
  refine wpAny_call ?_
  k_dflt cell_enter
  repeat' (first | (k_unfold; (try dsimp only)) | ((fail_if_success (with_reducible show wpAny _ _ (eval (Expr.ListComp _ _ _ _) _) _ _ _)); walk1))
  rename_i g1 L1 h₁ FG F₁ N₁ B₁ X₁ T₁
  have hlist : h₁.IsList l vs.toArray := ⟨_, (N₁ _ (.head _)).1, rfl, _, rfl⟩
  refine wpAny_ListComp_map (fun _ => true) (fun v y => ∀ u t, v = Value.int u t → ∃ t', y = Value.str (unitTxt u) t') rfl (by decide) (by decide) rfl (by decide) (by decide) ?_
  refine wpAny_Name (wpAny_loadName_local (v := .ref l) rfl rfl F₁.ns rfl ?_)
  refine ⟨l, vs.toArray, rfl, hlist, ?_, ?_, ?_, ?_⟩
  · rw [List.size_toArray, hi.length]; exact Nat.le_trans (Nat.le_of_lt hlen) (by decide)
  · intro C v s₂ m₂ E' hv hn hm hk'
    exact wpAny_pure ⟨rfl, s₂.heap, s₂.toks, rfl, fun _ _ y => y⟩
  · intro C v s₂ m₂ E' hv _ hn hm hk'
    obtain ⟨u, t, rfl, hu⟩ := ints_mem hi (by simpa using hv)
    have hu6 := hb u hu
    repeat' (first | ((fail_if_success (with_reducible show wpAny _ _ (newList _) _ _ _)); walk1))
    refine wpAny_newObj_type (hd := by size_fits) ?_
    refine wpAny_Name (wpAny_loadName_local (v := Value.int u t) rfl rfl (hn.push _) hm ?_)
    have fin : ∀ (c : Str) (tc : Tok) (h₃ : Heap) (tk₃ : Nat), c = unitTxt u → (∀ b o, s₂.heap.get? b = some o → h₃.get? b = some o) → (∀ u' t', Value.int u t = Value.int u' t' → ∃ t'', Value.str c tc = Value.str (unitTxt u') t'') := by
      rintro c tc h₃ tk₃ rfl _ u' t' e
      cases e
      exact ⟨_, rfl⟩
    rcases six_cases hu6 with rfl | rfl | rfl | rfl | rfl | rfl
    all_goals
      refine tail_any (Heap.IsList.typeIs ⟨_, Heap.get?_push_size _ rfl, rfl, _, rfl⟩) slot_list_getitem.lookup (wpAny_getItem_list ⟨_, Heap.get?_push_size _ rfl, rfl, _, rfl⟩ (by decide) (by decide) rfl ?_) (by with_unfolding_all rfl)
      exact ⟨fin _ _ s₂.heap 0 (by decide +kernel) (fun _ _ y => y), _, _, rfl, fun b o y => Heap.get?_push_of_some _ y⟩
  · intro D h' tk' ys hD hl hP hk'
    dsimp only
    repeat' (first | (k_unfold; (try dsimp only)) | ((fail_if_success (with_reducible show wpAny _ _ (call _ _ _) _ _ _)); walk1))
    have hS : StrsAre ys.toList (ns.map unitTxt) := strs_of hi (by rw [filter_true] at hP; exact hP)
    refine join_list hl hS (by
      have := units_len ns hb
      have e : (Str.ofString "").length = 0 := by decide +kernel
      rw [e, Nat.mul_zero, Nat.add_zero]; omega) fun t' k => ?_
    rw [show Txt.join (Str.ofString "") (ns.map unitTxt) = rowTxt ns from (StrLaws.glued_eq_join _ _).trans (join_units ns)]
    k_unfold
    dsimp only
    exact leaveK_ (F₁.keeps hk') (N₁.grown hk') fun kF kN => hret t' _ _ kF kN
end Mine
end

section
open PySem PySem.W PyProof.Rows PySem.Spec PySem.Calls
set_option maxHeartbeats 4000000
namespace Mine

/-- the pairs scanned: none when it went below nought -/
def chkStep (st : Option Int) (p : Int × Str) : Option Int := match st with
  | none => none
  | some n => if p.2 = ⟨#[40]⟩ then some (n + 1) else if p.2 = ⟨#[41]⟩ then (if n - 1 < 0 then none else some (n - 1)) else some n
def chkRun (x : Str) : Option Int := (escF false 0 x.cps.toList).foldl chkStep (some 0)
def checkF (x : Str) : Bool := chkRun (stripF x) == some 0

def chkJ (y : Str) (j : Nat) (news : List (Addr × Obj)) (ty : Tok) (m₁ : Str → Option Value) (news₁ : List (Addr × Obj)) : Prop :=
  ∃ n tn, (∀ p ∈ [(("addr" : Str), Value.str y ty), ("opens", .int n tn)], m₁ p.1 = some p.2) ∧ news₁ = news ∧ ((escF false 0 y.cps.toList).take j).foldl chkStep (some 0) = some n ∧ -(j : Int) ≤ n ∧ n ≤ j

theorem chk_none (l : List (Int × Str)) : l.foldl chkStep none = none := by
  induction l with
  | nil => rfl
  | cons a r ih => exact ih

theorem open_eq {c : Str} (h : (c == Str.ofString "(") = true) : c = ⟨#[40]⟩ := (eq_of_beq h).trans (by decide +kernel)
theorem open_ne {c : Str} (h : (c == Str.ofString "(") = false) : c ≠ ⟨#[40]⟩ := fun e => by
  rw [e] at h; exact absurd h (by decide +kernel)
theorem shut_eq {c : Str} (h : (c == Str.ofString ")") = true) : c = ⟨#[41]⟩ := (eq_of_beq h).trans (by decide +kernel)
theorem shut_ne {c : Str} (h : (c == Str.ofString ")") = false) : c ≠ ⟨#[41]⟩ := fun e => by
  rw [e] at h; exact absurd h (by decide +kernel)
theorem str_ne_4041 : (⟨#[41]⟩ : Str) ≠ ⟨#[40]⟩ := by decide +kernel

theorem check_spec {w : World} {p : Program} {loose : List Str} {mean : ExcName → Option Value} {mg mb : Str → Option Value}
   (x : Str) (tx : Tok) (news : List (Addr × Obj)) (hx : x.length ≤ 1000) (hs : (stripF x).length ≤ 1000) :
   KClaim w p loose mean mg mb 126 [.str x tx] news 5 40 True (fun h₀ L m s Q => ∀ h' tk' gs, Fr h₀ L h' m → News h₀ L h' news → GUp s.gens gs → Q (.bool (checkF x)) { s with heap := h', toks := tk', gens := gs }) := by
  unfold KClaim; k_fill
  intro dp un gd cn cs a ccd cl outer A₀ base h₀ L m s Q E hB hF hX hN hT hk _ hdp hun hret
  refine wpAny_call ?_
  k_dflt cell_enter
  repeat' (first | (k_unfold; (try dsimp only)) | ((fail_if_success (with_reducible show wpAny _ _ (call _ _ _) _ _ _)); walk1))
  refine (strip_spec x tx news hx) _ _ _ _ _ _ _ _ _ _ _ _ _ _ _ _ _ (by assumption) (by assumption) (by assumption) (by assumption) (by assumption) rfl trivial (show dp + 1 + 3 < recursionLimit by omega) (show un + 3 + 16 < cLine by omega) ?_
  intro t1 h1 tk1 gs1 F1 N1 hG1
  dsimp only at F1 N1 hG1 ⊢
  repeat' (first | (k_unfold; (try dsimp only)) | ((fail_if_success (with_reducible show wpAny _ _ (exec (Stmt.For _ _ _ _ _) _) _ _ _)); walk1))
  rename_i F2 N2
  refine wpAny_For ?_
  repeat' (first | (k_unfold; (try dsimp only)) | ((fail_if_success (with_reducible show wpAny _ _ (call _ _ _) _ _ _)); walk1))
  refine esc_for (fun j => chkJ (stripF x) j news t1) rfl (show dp + 1 < recursionLimit by omega) rfl rfl rfl F2 N2 (by assumption) (by assumption) ?_ ?_ ?_
  · exact ⟨0, _, all_cons (by with_unfolding_all rfl) (all_cons (by with_unfolding_all rfl) all_nil), rfl, rfl, by simp, by simp⟩
  · rintro j x' t u m₁ news₁ own off h tk₁ gs hx' ⟨n, tn, hm, rfl, hst, hn1, hn2⟩ hoff hown hlim F3 N3 hG3
    have hj : j < (stripF x).length := by
      have h1 := (List.getElem?_eq_some_iff.mp hx').1
      have h2 := escF_length (stripF x).cps.toList false 0
      have h3 : (stripF x).cps.toList.length = (stripF x).length := by simp [Str.length]
      simp only [Bool.false_eq_true, if_false] at h2
      omega
    rw [kstB_self hm] at F3
    dsimp only [kstB] at F3
    have hsnoc : ((escF false 0 (stripF x).cps.toList).take (j + 1)).foldl chkStep (some 0) = chkStep (some n) x' := by
      rw [List.take_add_one, hx', List.foldl_append, hst]; rfl
    obtain ⟨xp, xc⟩ := x'
    k_steps
    · rename_i hc _ F4 N4
      have hc' : xc = ⟨#[40]⟩ := open_eq hc
      refine turnEnd_of F4 N4 hoff ?_
      refine ⟨n + 1, _, all_cons (by with_unfolding_all rfl) (all_cons (by with_unfolding_all rfl) all_nil), rfl, ?_, by omega, by omega⟩
      rw [hsnoc]; simp only [chkStep, hc', if_true]
    · rename_i hneg kF kN _ _
      have hc1 : xc ≠ ⟨#[40]⟩ := open_ne (by assumption)
      have hc2 : xc = ⟨#[41]⟩ := shut_eq (by assumption)
      have e : checkF x = false := by
        unfold checkF chkRun
        rw [← List.take_append_drop (j + 1) (escF false 0 (stripF x).cps.toList), List.foldl_append, hsnoc]
        simp only [chkStep, if_neg hc1]
        rw [if_pos hc2, if_pos hneg, chk_none]
        rfl
      rw [e] at hret
      exact hret _ _ _ kF (fun p hp => kN p (List.mem_append_left _ hp)) (hG1.trans hG3)
    · rename_i F4 N4 hneg
      have hc1 : xc ≠ ⟨#[40]⟩ := open_ne (by assumption)
      have hc2 : xc = ⟨#[41]⟩ := shut_eq (by assumption)
      refine turnEnd_of F4 N4 hoff ?_
      refine ⟨n - 1, _, all_cons (by with_unfolding_all rfl) (all_cons (by with_unfolding_all rfl) all_nil), rfl, ?_, by omega, by omega⟩
      rw [hsnoc]; simp only [chkStep, if_neg hc1]; rw [if_pos hc2, if_neg hneg]
    · have hc1 : xc ≠ ⟨#[40]⟩ := open_ne (by assumption)
      have hc2 : xc ≠ ⟨#[41]⟩ := shut_ne (by assumption)
      refine turnEnd_of F3 N3 hoff ?_
      refine ⟨n, _, all_cons (by with_unfolding_all rfl) (all_cons (by with_unfolding_all rfl) all_nil), rfl, ?_, by omega, by omega⟩
      rw [hsnoc]; simp only [chkStep, if_neg hc1, if_neg hc2]
  · rintro m₁ news₁ h tk₁ gs ⟨n, tn, hm, rfl, hst, hn1, hn2⟩ F3 N3 hG3
    rw [List.take_length] at hst
    rw [kstB_self hm] at F3
    dsimp only [kstB] at F3
    have hall := escF_length (stripF x).cps.toList false 0
    have h3 : (stripF x).cps.toList.length = (stripF x).length := by simp [Str.length]
    simp only [Bool.false_eq_true, if_false] at hall
    dsimp only
    have e : checkF x = (n == 0) := by
      unfold checkF chkRun
      rw [hst]
      by_cases h : n = 0
      · subst h; rfl
      · simp [h]
    k_steps
    rename_i kF kN _ _
    rw [e] at hret
    exact hret _ _ _ kF kN (hG1.trans hG3)
end Mine
end

section
open PySem PySem.W PyProof.Rows PySem.Spec PySem.Calls
set_option maxHeartbeats 4000000
namespace Mine
/-! plain laws of the rows' texts -/
def codesOf (us : List Int) : List Nat := us.flatMap unitCodes
theorem rowTxt_codes (us : List Int) : (rowTxt us).cps.toList = codesOf us := rfl
theorem rowTxt_length (us : List Int) : (rowTxt us).length = (codesOf us).length := by simp [rowTxt, Str.length, codesOf]
theorem codesOf_cons (u : Int) (us : List Int) : codesOf (u :: us) = unitCodes u ++ codesOf us := rfl
theorem codesOf_append (us vs : List Int) : codesOf (us ++ vs) = codesOf us ++ codesOf vs := by simp [codesOf]
theorem unit_len {u : Int} (h : 0 ≤ u ∧ u < 6) : (unitCodes u).length ≤ 3 := by
  rcases six_cases h with rfl | rfl | rfl | rfl | rfl | rfl <;> decide
theorem codesOf_len : ∀ (ns : List Int), (∀ u ∈ ns, 0 ≤ u ∧ u < 6) → (codesOf ns).length ≤ 3 * ns.length
  | [], _ => by simp [codesOf]
  | u :: us, hb => by
    have h1 := codesOf_len us fun v hv => hb v (List.mem_cons_of_mem _ hv)
    have h2 := unit_len (hb u (List.mem_cons_self ..))
    rw [codesOf_cons, List.length_append, List.length_cons]
    omega
theorem rowTxt_len' (ns : List Int) (hb : ∀ u ∈ ns, 0 ≤ u ∧ u < 6) : (rowTxt ns).length ≤ 3 * ns.length := by
  rw [rowTxt_length]; exact codesOf_len ns hb

/-- what the generator yields for one unit at place p -/
def toks (p : Nat) (u : Int) : List (Int × Str) :=
  if u = 0 ∨ u = 2 then [((p : Int), ⟨#[40]⟩)] else if u = 1 ∨ u = 3 then [((p : Int), ⟨#[41]⟩)]
  else if u = 4 then [((p : Int), ⟨#[34]⟩), (((p + 1 : Nat) : Int), ⟨#[40]⟩), (((p + 2 : Nat) : Int), ⟨#[34]⟩)] else [(((p + 1 : Nat) : Int), ⟨#[92, 41]⟩)]
theorem escF_unit {u : Int} (h : 0 ≤ u ∧ u < 6) (p : Nat) (r : List Nat) : escF false p (unitCodes u ++ r) = toks p u ++ escF false (p + (unitCodes u).length) r := by
  rcases six_cases h with rfl | rfl | rfl | rfl | rfl | rfl <;> simp [escF, unitCodes, toks]
  omega

/-- a fold that goes by the sign alone, over a row without quoted units -/
theorem fold_units {σ : Type} (f : σ → Int × Str → σ) (g : σ → Int → σ) (hf : ∀ (st : σ) (p : Nat) (u : Int), (0 ≤ u ∧ u < 6) → u ≠ 4 → (toks p u).foldl f st = g st u) :
    ∀ (us : List Int) (p : Nat) (st : σ), (∀ u ∈ us, 0 ≤ u ∧ u < 6) → (∀ u ∈ us, u ≠ 4) → (escF false p (codesOf us)).foldl f st = us.foldl g st
  | [], p, st, _, _ => by simp [codesOf, escF]
  | u :: us, p, st, hb, h4 => by
    rw [codesOf_cons, escF_unit (hb u (List.mem_cons_self ..)), List.foldl_append, hf st p u (hb u (List.mem_cons_self ..)) (h4 u (List.mem_cons_self ..)), List.foldl_cons]
    exact fold_units f g hf us _ _ (fun v hv => hb v (List.mem_cons_of_mem _ hv)) fun v hv => h4 v (List.mem_cons_of_mem _ hv)

def seg (x : Str) (i j : Nat) : List Nat := (x.cps.toList.drop i).take (j - i)
theorem slice_codes (x : Str) {i j : Nat} (h : i ≤ j) (hj : j ≤ x.cps.toList.length) : (Txt.slice x (some (i : Int)) (some (j : Int))).cps.toList = seg x i j := by
  have e : Txt.slice x (some (i : Int)) (some (j : Int)) = StrLaws.sliceText x (some (i : Int)) (some (j : Int)) := rfl
  rw [e, StrLaws.sliceText_plain ⟨by omega, by omega, by omega⟩]
  simp [seg]
theorem slice_codes_end (x : Str) {i : Nat} (h : i ≤ x.cps.toList.length) : (Txt.slice x (some (i : Int)) none).cps.toList = x.cps.toList.drop i := by
  have e : Txt.slice x (some (i : Int)) none = StrLaws.sliceText x (some (i : Int)) none := rfl
  rw [e, StrLaws.sliceText_from ⟨by omega, by omega⟩]
  exact List.take_of_length_le (by rw [List.length_drop]; omega)
theorem seg_all (x : Str) (i : Nat) : seg x i x.cps.toList.length = x.cps.toList.drop i := by
  unfold seg
  exact List.take_of_length_le (by rw [List.length_drop]; exact Nat.le_refl _)
theorem seg_self (x : Str) (i : Nat) : seg x i i = [] := by simp [seg]
theorem seg_step (x : Str) {s p k : Nat} {ys r : List Nat} (hs : s ≤ p) (hd : x.cps.toList.drop p = ys ++ r) (hk : k = ys.length) : seg x s (p + k) = seg x s p ++ ys := by
  subst hk
  unfold seg
  rw [show p + ys.length - s = (p - s) + ys.length by omega, List.take_add, List.drop_drop, show s + (p - s) = p by omega, hd, List.take_left]

def outOf (st : StS) : List Nat := st.res.flatMap (·.cps.toList)
structure SInv (x : Str) (p : Nat) (st : StS) (out : List Nat) : Prop where
  op : st.op = none
  ex : ∃ s : Nat, st.start = s ∧ s ≤ p ∧ outOf st ++ seg x s p = out
theorem quote_not (c : List Nat) (h : c ≠ [34]) : (⟨c.toArray⟩ : Str) ≠ ⟨#[34]⟩ := fun e => h (by injection e with e; injection e)

theorem strip_inv (x : Str) : ∀ (us : List Int) (p : Nat) (st : StS) (out : List Nat), (∀ u ∈ us, 0 ≤ u ∧ u < 6) → x.cps.toList.drop p = codesOf us → p ≤ x.cps.toList.length → SInv x p st out →
    SInv x x.cps.toList.length ((escF false p (codesOf us)).foldl (stStep x) st) (out ++ codesOf (us.filter (· ≠ 4)))
  | [], p, st, out, _, hd, hp, hI => by
    have : x.cps.toList.length ≤ p := List.drop_eq_nil_iff.mp hd
    have e : p = x.cps.toList.length := by omega
    subst e
    simpa [codesOf, escF] using hI
  | u :: us, p, st, out, hb, hd, hp, hI => by
    have hu := hb u (List.mem_cons_self ..)
    rw [codesOf_cons] at hd
    have hlen : p + (unitCodes u).length ≤ x.cps.toList.length := by
      have := congrArg List.length hd
      rw [List.length_drop, List.length_append] at this
      omega
    have hd2 : x.cps.toList.drop (p + (unitCodes u).length) = codesOf us := by rw [← List.drop_drop, hd, List.drop_left]
    rw [codesOf_cons, escF_unit hu, List.foldl_append]
    obtain ⟨hop, s, hs1, hs2, hout⟩ := hI
    by_cases h4 : u = 4
    · subst h4
      have hf : (4 :: us).filter (fun z => decide (z ≠ 4)) = us.filter (fun z => decide (z ≠ 4)) := by simp
      rw [hf]
      refine strip_inv x us _ _ out (fun v hv => hb v (List.mem_cons_of_mem _ hv)) hd2 hlen ?_
      have hl3 : (unitCodes 4).length = 3 := by decide
      have et : (toks p 4).foldl (stStep x) st = { start := ((p + 3 : Nat) : Int), op := none, res := if st.start = (p : Int) then st.res else st.res ++ [Txt.slice x (some st.start) (some (p : Int))] } := by
        obtain ⟨a, b, c⟩ := st
        dsimp only at hop
        subst hop
        simp [toks, stStep]
        omega
      rw [et, hl3]
      refine ⟨rfl, p + 3, rfl, Nat.le_refl _, ?_⟩
      rw [seg_self, List.append_nil, ← hout]
      unfold outOf
      dsimp only
      by_cases hsp : st.start = (p : Int)
      · rw [if_pos hsp]
        have : s = p := by omega
        rw [this, seg_self, List.append_nil]
      · rw [if_neg hsp, List.flatMap_append, hs1, List.flatMap_singleton, slice_codes x hs2 hp]
    · have hf : (u :: us).filter (fun z => decide (z ≠ 4)) = u :: us.filter (fun z => decide (z ≠ 4)) := by simp [h4]
      rw [hf, codesOf_cons, ← List.append_assoc]
      refine strip_inv x us _ _ _ (fun v hv => hb v (List.mem_cons_of_mem _ hv)) hd2 hlen ?_
      have et : (toks p u).foldl (stStep x) st = st := by
        rcases six_cases hu with rfl | rfl | rfl | rfl | rfl | rfl <;> first | exact absurd rfl h4 | simp [toks, stStep]
      rw [et]
      exact ⟨hop, s, hs1, Nat.le_add_right_of_le hs2, by rw [seg_step x hs2 hd rfl, ← List.append_assoc, hout]⟩

theorem join_codes : ∀ l : List Str, (Str.join ⟨#[]⟩ l).cps.toList = l.flatMap (·.cps.toList)
  | [] => rfl
  | a :: l => by
    rw [join_nil_cons, Str.cps_append, List.flatMap_cons, ← join_codes l]
    simp

theorem strip_row (us : List Int) (hb : ∀ u ∈ us, 0 ≤ u ∧ u < 6) : stripF (rowTxt us) = rowTxt (us.filter (· ≠ 4)) := by
  have h := strip_inv (rowTxt us) us 0 ⟨0, none, []⟩ [] hb rfl (Nat.zero_le _) ⟨rfl, 0, rfl, Nat.le_refl _, by simp [outOf, seg]⟩
  rw [List.nil_append] at h
  have e : (escF false 0 (codesOf us)).foldl (stStep (rowTxt us)) ⟨0, none, []⟩ = stRun (rowTxt us) := rfl
  rw [e] at h
  obtain ⟨hop, s, hs1, hs2, hout⟩ := h
  unfold stripF
  by_cases hq : 34 ∈ (rowTxt us).cps.toList
  · rw [if_pos hq]
    apply Str.ext'
    have hl : (rowTxt us).cps.toList.length = (rowTxt us).length := by simp [Str.length]
    apply Array.toList_inj.mp
    rw [join_codes, hs1]
    show _ = codesOf _
    rw [← hout, seg_all]
    by_cases hlt : ((s : Int) < ((rowTxt us).length : Int))
    · rw [if_pos hlt, List.flatMap_append, List.flatMap_singleton, slice_codes_end _ hs2]
      rfl
    · rw [if_neg hlt, List.drop_of_length_le (by omega), List.append_nil]
      rfl
  · rw [if_neg hq]
    have h4 : ∀ u ∈ us, u ≠ 4 := by
      rintro u hu rfl
      exact hq (List.mem_flatMap.mpr ⟨4, hu, by decide⟩)
    rw [List.filter_eq_self.mpr (fun u hu => by simpa using h4 u hu)]

def chkU (st : Option Int) (u : Int) : Option Int := match st with
  | none => none
  | some n => if u = 0 ∨ u = 2 then some (n + 1) else if u = 1 ∨ u = 3 then (if n - 1 < 0 then none else some (n - 1)) else some n
theorem chkU_none (l : List Int) : l.foldl chkU none = none := by
  induction l with
  | nil => rfl
  | cons a r ih => exact ih
theorem chk_tok (st : Option Int) (p : Nat) (u : Int) (h : 0 ≤ u ∧ u < 6) (h4 : u ≠ 4) : (toks p u).foldl chkStep st = chkU st u := by
  cases st with
  | none => rw [chk_none]; rfl
  | some n => rcases six_cases h with rfl | rfl | rfl | rfl | rfl | rfl <;> first | exact absurd rfl h4 | simp [toks, chkStep, chkU]
theorem chkU_skip (us : List Int) (st : Option Int) : (us.filter (· ≠ 4)).foldl chkU st = us.foldl chkU st := by
  induction us generalizing st with
  | nil => rfl
  | cons u us ih =>
    by_cases h4 : u = 4
    · subst h4
      rw [show (4 :: us).filter (fun z => decide (z ≠ 4)) = us.filter (fun z => decide (z ≠ 4)) by simp, ih, List.foldl_cons]
      congr 1
      cases st <;> simp [chkU]
    · rw [show (u :: us).filter (fun z => decide (z ≠ 4)) = u :: us.filter (fun z => decide (z ≠ 4)) by simp [h4], List.foldl_cons, List.foldl_cons, ih]
theorem chkRun_row (us : List Int) (hb : ∀ u ∈ us, 0 ≤ u ∧ u < 6) : chkRun (stripF (rowTxt us)) = us.foldl chkU (some 0) := by
  rw [strip_row us hb]
  unfold chkRun
  rw [rowTxt_codes, fold_units chkStep chkU chk_tok _ 0 _ (fun u hu => hb u (List.mem_filter.mp hu).1) (fun u hu => by simpa using (List.mem_filter.mp hu).2), chkU_skip]

def dU (u : Int) : Int := if u < 4 then 1 - 2 * Int.fmod u 2 else 0
theorem lkS_eq (p : Int × Int) (u : Int) : lkS p u = (p.1 + dU u, min p.2 (p.1 + dU u)) := by
  unfold lkS dU
  dsimp only
  split
  · refine Prod.ext rfl ?_
    dsimp only
    split <;> omega
  · refine Prod.ext (by dsimp only; omega) ?_
    dsimp only
    split <;> omega
theorem add_min' (a x y : Int) : min (a + x) (a + y) = a + min x y := by omega
theorem lk_min {a b d y : Int} (h : b ≤ a) : min (min b (a + d)) (a + d + y) = min b (a + min (min 0 (0 + d)) (0 + d + y)) := by
  rw [Int.zero_add, ← add_min', ← add_min', Int.add_zero, ← Int.min_assoc, ← Int.min_assoc, Int.min_eq_left h, Int.add_assoc]
theorem lk_fold (us : List Int) : ∀ p : Int × Int, p.2 ≤ p.1 → (us.foldl lkS p).1 = p.1 + (us.foldl lkS (0, 0)).1 ∧ (us.foldl lkS p).2 = min p.2 (p.1 + (us.foldl lkS (0, 0)).2) := by
  induction us with
  | nil => intro p hp; simp; omega
  | cons u us ih =>
    rintro ⟨a, b⟩ hp
    dsimp only at hp
    rw [List.foldl_cons, List.foldl_cons, lkS_eq, lkS_eq]
    have k1 := ih (a + dU u, min b (a + dU u)) (by dsimp only; omega)
    have k2 := ih (0 + dU u, min 0 (0 + dU u)) (by dsimp only; omega)
    dsimp only at k1 k2 ⊢
    rw [k1.1, k1.2, k2.1, k2.2]
    clear k1 k2 ih
    generalize dU u = d
    generalize (us.foldl lkS (0, 0)).1 = x
    generalize (us.foldl lkS (0, 0)).2 = y
    exact ⟨by omega, lk_min hp⟩
theorem lk_cons (u : Int) (us : List Int) : (lk (u :: us)).1 = dU u + (lk us).1 ∧ (lk (u :: us)).2 = min (min 0 (dU u)) (dU u + (lk us).2) := by
  have h := lk_fold us (lkS (0, 0) u) (by rw [lkS_eq]; dsimp only; omega)
  unfold lk
  rw [List.foldl_cons, h.1, h.2, lkS_eq]
  dsimp only
  rw [Int.zero_add]
  exact ⟨rfl, rfl⟩
theorem lk_low (us : List Int) : (lk us).2 ≤ 0 ∧ (lk us).2 ≤ (lk us).1 := by
  induction us with
  | nil => simp [lk]
  | cons u us ih => have := lk_cons u us; omega
theorem lk_app (us vs : List Int) : (lk (us ++ vs)).1 = (lk us).1 + (lk vs).1 ∧ (lk (us ++ vs)).2 = min (lk us).2 ((lk us).1 + (lk vs).2) := by
  unfold lk
  rw [List.foldl_append]
  exact lk_fold vs _ (lk_low us).2
theorem dU_cases {u : Int} (h : 0 ≤ u ∧ u < 6) : ((u = 0 ∨ u = 2) ∧ dU u = 1) ∨ ((u = 1 ∨ u = 3) ∧ dU u = -1) ∨ ((u = 4 ∨ u = 5) ∧ dU u = 0) := by
  rcases six_cases h with rfl | rfl | rfl | rfl | rfl | rfl <;> simp [dU]
theorem chk_lk (us : List Int) (hb : ∀ u ∈ us, 0 ≤ u ∧ u < 6) (n : Int) (hn : 0 ≤ n) : us.foldl chkU (some n) = if 0 ≤ n + (lk us).2 then some (n + (lk us).1) else none := by
  induction us generalizing n with
  | nil => simp [lk, hn]
  | cons u us ih =>
    have hu := hb u (List.mem_cons_self ..)
    have ih' := fun m hm => ih (fun v hv => hb v (List.mem_cons_of_mem _ hv)) m hm
    have k2 := lk_cons u us
    have k3 := lk_low us
    rw [k2.1, k2.2, List.foldl_cons]
    rcases dU_cases hu with ⟨h, hd⟩ | ⟨h, hd⟩ | ⟨h, hd⟩
    · rw [hd]
      simp only [chkU, if_pos h]
      rw [ih' _ (by omega)]
      by_cases hc : 0 ≤ n + 1 + (lk us).2
      · rw [if_pos hc, if_pos (by omega), show n + 1 + (lk us).1 = n + (1 + (lk us).1) by omega]
      · rw [if_neg hc, if_neg (by omega)]
    · rw [hd]
      simp only [chkU, if_neg (show ¬ (u = 0 ∨ u = 2) by omega), if_pos h]
      by_cases hz : n - 1 < 0
      · rw [if_pos hz, chkU_none, if_neg (by omega)]
      · rw [if_neg hz, ih' _ (by omega)]
        by_cases hc : 0 ≤ n - 1 + (lk us).2
        · rw [if_pos hc, if_pos (by omega), show n - 1 + (lk us).1 = n + (-1 + (lk us).1) by omega]
        · rw [if_neg hc, if_neg (by omega)]
    · rw [hd]
      simp only [chkU, if_neg (show ¬ (u = 0 ∨ u = 2) by omega), if_neg (show ¬ (u = 1 ∨ u = 3) by omega)]
      rw [ih' _ hn]
      by_cases hc : 0 ≤ n + (lk us).2
      · rw [if_pos hc, if_pos (by omega), show n + (lk us).1 = n + (0 + (lk us).1) by omega]
      · rw [if_neg hc, if_neg (by omega)]
theorem lk_rep0 (a : Nat) : (lk (List.replicate a 0)).1 = a ∧ (lk (List.replicate a 0)).2 = 0 := by
  induction a with
  | zero => simp [lk]
  | succ a ih =>
    have h := lk_cons 0 (List.replicate a 0)
    rw [List.replicate_succ, h.1, h.2, ih.1, ih.2, show dU 0 = 1 by decide]
    clear h ih
    constructor <;> omega
theorem lk_rep1 (a : Nat) : (lk (List.replicate a 1)).1 = -(a : Int) ∧ (lk (List.replicate a 1)).2 = -(a : Int) := by
  induction a with
  | zero => simp [lk]
  | succ a ih =>
    have h := lk_cons 1 (List.replicate a 1)
    rw [List.replicate_succ, h.1, h.2, ih.1, ih.2, show dU 1 = -1 by decide]
    clear h ih
    constructor <;> omega
theorem mul_rep (s : Str) (c : Nat) (hs : s = ⟨#[c]⟩) (u : Int) (hu : unitCodes u = [c]) (n : Int) : Txt.mul s n = rowTxt (List.replicate n.toNat u) := by
  apply Str.ext'
  apply Array.toList_inj.mp
  rw [hs, mul_one_list, rowTxt_codes]
  generalize n.toNat = k
  induction k with
  | zero => rfl
  | succ k ih => rw [List.replicate_succ, List.replicate_succ, codesOf_cons, ← ih, hu]; rfl

theorem row_ok' (ns : List Int) (hlen : ns.length ≤ 10) (hb : ∀ u ∈ ns, 0 ≤ u ∧ u < 6) (mo i j : Int) (hi : -(lk ns).2 = i) (hj : (lk ns).1 - (lk ns).2 = j) (hmo : -1 ≤ mo ∧ mo ≤ 1) (h1 : 0 ≤ i + mo) (h2 : 0 ≤ j + mo) (hij : i ≤ 10 ∧ j ≤ 10) :
    ∃ rw : Str, Txt.mul (Str.ofString "(") (i + mo) ++ rowTxt ns ++ Txt.mul (Str.ofString ")") (j + mo) = rw ∧ rw.length ≤ 1000 ∧ (stripF rw).length ≤ 1000 ∧ checkF rw = decide (0 ≤ mo) := by
  have e : Txt.mul (Str.ofString "(") (i + mo) ++ rowTxt ns ++ Txt.mul (Str.ofString ")") (j + mo) = rowTxt (List.replicate (i + mo).toNat 0 ++ ns ++ List.replicate (j + mo).toNat 1) := by
    rw [mul_rep (Str.ofString "(") 40 (by decide +kernel) 0 (by decide), mul_rep (Str.ofString ")") 41 (by decide +kernel) 1 (by decide)]
    apply Str.ext'
    apply Array.toList_inj.mp
    simp [Str.cps_append, rowTxt]
  refine ⟨_, e, ?_⟩
  have hb' : ∀ u ∈ List.replicate (i + mo).toNat 0 ++ ns ++ List.replicate (j + mo).toNat 1, (0 : Int) ≤ u ∧ u < 6 := by
    intro u hu
    rcases List.mem_append.mp hu with hu | hu
    · rcases List.mem_append.mp hu with hu | hu
      · rw [(List.mem_replicate.mp hu).2]; decide
      · exact hb u hu
    · rw [(List.mem_replicate.mp hu).2]; decide
  have hl : (List.replicate (i + mo).toNat (0 : Int) ++ ns ++ List.replicate (j + mo).toNat 1).length ≤ 33 := by
    simp only [List.length_append, List.length_replicate]; omega
  have r0 := lk_rep0 (i + mo).toNat
  have r1 := lk_rep1 (j + mo).toNat
  have a1 := lk_app (List.replicate (i + mo).toNat 0 ++ ns) (List.replicate (j + mo).toNat 1)
  have a2 := lk_app (List.replicate (i + mo).toNat 0) ns
  have hA : (lk (List.replicate (i + mo).toNat 0 ++ ns ++ List.replicate (j + mo).toNat 1)).1 = 0 ∧ (lk (List.replicate (i + mo).toNat 0 ++ ns ++ List.replicate (j + mo).toNat 1)).2 = min 0 mo := by
    have t1 : ((i + mo).toNat : Int) = i + mo := Int.toNat_of_nonneg h1
    have t2 : ((j + mo).toNat : Int) = j + mo := Int.toNat_of_nonneg h2
    rw [a1.1, a1.2, a2.1, a2.2, r0.1, r0.2, r1.1, r1.2, t1, t2]
    clear a1 a2 r0 r1 hl hb' hb hlen h1 t1 t2
    generalize (lk ns).1 = x at *
    generalize (lk ns).2 = y at *
    subst hi; subst hj
    constructor
    · omega
    · omega
  clear a1 a2 r0 r1
  generalize List.replicate (i + mo).toNat (0 : Int) = z0 at *
  generalize List.replicate (j + mo).toNat (1 : Int) = z1 at *
  refine ⟨?_, ?_, ?_⟩
  · have := rowTxt_len' _ hb'; omega
  · rw [strip_row _ hb']
    have h3 := rowTxt_len' ((z0 ++ ns ++ z1).filter (fun z => decide (z ≠ 4))) (fun u hu => hb' u (List.mem_filter.mp hu).1)
    have h4 := List.length_filter_le (fun z => decide (z ≠ 4)) (z0 ++ ns ++ z1)
    omega
  · unfold checkF
    rw [chkRun_row _ hb', chk_lk _ hb' 0 (by decide), hA.1, hA.2, Int.zero_add]
    by_cases hm : 0 ≤ mo
    · rw [Int.min_eq_left hm, if_pos (Int.le_refl 0), decide_eq_true hm]; rfl
    · rw [Int.min_eq_right (Int.le_of_lt (Int.not_le.mp hm)), if_neg hm, decide_eq_false hm]; rfl
end Mine
end

section
open PySem PySem.W PyProof.Rows PySem.Spec PySem.Calls
set_option maxHeartbeats 4000000
namespace Mine
theorem news_dup {h₀ h : Heap} {L : Addr} {a : Addr × Obj} {r : List (Addr × Obj)} (N : News h₀ L h r) (hm : a ∈ r) : News h₀ L h (a :: r) := fun p hp => by
  rcases List.mem_cons.mp hp with rfl | hp
  · exact N _ hm
  · exact N p hp
theorem news_undup {h₀ h : Heap} {L : Addr} {a : Addr × Obj} {r : List (Addr × Obj)} (N : News h₀ L h (a :: r)) : News h₀ L h r := fun p hp => N p (.tail _ hp)

theorem text_spec' {w : World} {p : Program} {loose : List Str} {mean : ExcName → Option Value} {mg mb : Str → Option Value}
   (l : Addr) (vs : List Value) (ns : List Int) (nn : Nat) (news : List (Addr × Obj)) (hm : (l, listOf vs.toArray nn) ∈ news) (hi : IntsAre vs ns) (hlen : ns.length < 100) (hb : ∀ u ∈ ns, 0 ≤ u ∧ u < 6) :
   KClaim w p loose mean mg mb 145 [.ref l] news 1 8 True (fun h₀ L m s Q => ∀ t h' tk', Fr h₀ L h' m → News h₀ L h' news → Q (.str (rowTxt ns) t) { s with heap := h', toks := tk' }) := by
  unfold KClaim
  intro dp un gd cn cs a ccd cl outer A₀ base h₀ L m s Q E hB hF hX hN hT hk ht hdp hun hret
  exact text_spec l vs ns nn news hi hlen hb dp un gd cn cs a ccd cl outer A₀ base h₀ L m s Q E hB hF hX (news_dup hN hm) hT hk ht hdp hun (fun t h' tk' F N => hret t h' tk' F (news_undup N))

theorem lacks_spec' {w : World} {p : Program} {loose : List Str} {mean : ExcName → Option Value} {mg mb : Str → Option Value}
   (l : Addr) (vs : List Value) (ns : List Int) (nn : Nat) (news : List (Addr × Obj)) (hm : (l, listOf vs.toArray nn) ∈ news) (hi : IntsAre vs ns) (hlen : ns.length < 100) :
   KClaim w p loose mean mg mb 159 [.ref l] news 1 8 True (fun h₀ L m s Q => ∀ T t1 t2 (h' : Heap) (tk' : Nat), Fr h₀ L h' m →
     News h₀ L h' ((T, { cls := .type "tuple", data := .seq #[.int (-(lk ns).2) t1, .int ((lk ns).1 - (lk ns).2) t2] }) :: news) → (∀ q ∈ news, q.1 < T) → Q (.ref T) { s with heap := h', toks := tk' }) := by
  unfold KClaim
  intro dp un gd cn cs a ccd cl outer A₀ base h₀ L m s Q E hB hF hX hN hT hk ht hdp hun hret
  exact lacks_spec l vs ns nn news dp un gd cn cs a ccd cl outer A₀ base h₀ L m s Q E hB hF hX (news_dup hN hm) hT hk hi hlen hdp hun
    (fun T t1 t2 h' tk' F N hq => hret T t1 t2 h' tk' F (news_skip2 N) fun q h => hq q (.tail _ h))

theorem dU_bound (u : Int) : -1 ≤ dU u ∧ dU u ≤ 1 := by
  unfold dU
  split
  · have h1 := Int.fmod_nonneg_of_pos u (show (0 : Int) < 2 by decide)
    have h2 := Int.fmod_lt_of_pos u (show (0 : Int) < 2 by decide)
    omega
  · decide
theorem lk_bounds (us : List Int) : -(us.length : Int) ≤ (lk us).2 ∧ (lk us).2 ≤ 0 ∧ (lk us).2 ≤ (lk us).1 ∧ (lk us).1 ≤ us.length ∧ (lk us).1 - (lk us).2 ≤ us.length := by
  induction us with
  | nil => simp [lk]
  | cons u us ih =>
    have k := lk_cons u us
    have d := dU_bound u
    rw [k.1, k.2, List.length_cons]
    clear k
    omega

theorem turnEndG_of {h₀ : Heap} {L : Addr} {own nx : List (Addr × Obj)} {off : List Addr} {J : (Str → Option Value) → List (Addr × Obj) → Prop} {s₁ : Shared} {h' : Heap} {tk : Nat} {gs : Array GenState} {m' : Str → Option Value}
    (F : Fr h₀ L h' m') (N : News h₀ L h' (nx ++ own)) (hG : GUp s₁.gens gs) (hoff : ∀ p ∈ nx, p.1 ∉ off) (hJ : J m' nx) : TurnEndG h₀ L own off J s₁ { s₁ with heap := h', toks := tk, gens := gs } :=
  ⟨h', tk, gs, m', nx ++ own, nx, rfl, hG, F, N, fun p hp => List.mem_append_left _ hp, fun p hp => List.mem_append_right _ hp, hoff, hJ⟩

def rowOf (a b : Int) (ns : List Int) : Str := Txt.mul (Str.ofString "(") a ++ rowTxt ns ++ Txt.mul (Str.ofString ")") b
theorem row_ok (ns : List Int) (hlen : ns.length ≤ 10) (hb : ∀ u ∈ ns, 0 ≤ u ∧ u < 6) (mo i j : Int) (hi : -(lk ns).2 = i) (hj : (lk ns).1 - (lk ns).2 = j) (hmo : -1 ≤ mo ∧ mo ≤ 1) (h1 : 0 ≤ i + mo) (h2 : 0 ≤ j + mo) :
    ∃ rw : Str, Txt.mul (Str.ofString "(") (i + mo) ++ rowTxt ns ++ Txt.mul (Str.ofString ")") (j + mo) = rw ∧ rw.length ≤ 1000 ∧ (stripF rw).length ≤ 1000 ∧ checkF rw = decide (0 ≤ mo) :=
  row_ok' ns hlen hb mo i j hi hj hmo h1 h2 (by have := lk_bounds ns; omega)
theorem rowTxt_len (ns : List Int) (hb : ∀ u ∈ ns, 0 ≤ u ∧ u < 6) : (rowTxt ns).length ≤ 3 * ns.length := rowTxt_len' ns hb

theorem taken_spec {w : World} {p : Program} {loose : List Str} {mean : ExcName → Option Value} {mg mb : Str → Option Value}
   (l : Addr) (vs : List Value) (ns : List Int) (nn : Nat) (news : List (Addr × Obj)) (hi : IntsAre vs ns) (hlen : ns.length ≤ 10) (hb : ∀ u ∈ ns, 0 ≤ u ∧ u < 6) :
   KClaim w p loose mean mg mb 166 [.ref l] ((l, listOf vs.toArray nn) :: news) 8 80 True (fun h₀ L m s Q => ∀ h' tk' gs, Fr h₀ L h' m → News h₀ L h' ((l, listOf vs.toArray nn) :: news) → GUp s.gens gs → Q (.bool true) { s with heap := h', toks := tk', gens := gs }) := by
  unfold KClaim; k_fill
  intro dp un gd cn cs a ccd cl outer A₀ base h₀ L m s Q E hB hF hX hN hT hk _ hdp hun hret
  refine wpAny_call ?_
  k_dflt cell_enter
  repeat' (first | (k_unfold; (try dsimp only)) | ((fail_if_success (with_reducible show wpAny _ _ (call _ _ _) _ _ _)); walk1))
  refine lacks_spec' l vs ns nn _ (.head _) hi (by omega) _ _ _ _ _ _ _ _ _ _ _ _ _ _ _ _ _ (by assumption) (by assumption) (by assumption) (by assumption) (by assumption) rfl trivial (show dp + 1 + 1 < recursionLimit by omega) (show un + 3 + 8 < cLine by omega) ?_
  intro T t1 t2 h1 tk1 F1 N1 hlt1
  have hbd := lk_bounds ns
  have hrl : (rowTxt ns).length ≤ 30 := by have := rowTxt_len ns hb; omega
  generalize hi1 : -(lk ns).2 = i at N1
  generalize hj1 : (lk ns).1 - (lk ns).2 = j at N1
  have hi2 : 0 ≤ i ∧ i ≤ 10 := by omega
  have hj2 : 0 ≤ j ∧ j ≤ 10 := by omega
  dsimp only at F1 N1 ⊢
  repeat' (first | (k_unfold; (try dsimp only)) | ((fail_if_success (with_reducible show wpAny _ _ (exec (Stmt.For _ _ _ _ _) _) _ _ _)); walk1))
  refine wpAny_For ?_
  repeat' (first | (k_unfold; (try dsimp only)) | ((fail_if_success (with_reducible show wpAny _ _ (pyIter _) _ _ _)); walk1))
  rename_i l3 h3 F3 N3 hlt3
  have hmT : (T, ({ cls := .type "tuple", data := .seq #[.int i t1, .int j t2] } : Obj)) ∈ ((T, ({ cls := .type "tuple", data := .seq #[.int i t1, .int j t2] } : Obj)) :: (l, listOf vs.toArray nn) :: news) := .head _
  refine for_listG (l := l3) (news₀ := (T, { cls := .type "tuple", data := .seq #[.int i t1, .int j t2] }) :: (l, listOf vs.toArray nn) :: news)
    (fun k m₁ news₁ => (∀ p ∈ [(("units" : Str), Value.ref l), ("ahead", .int i t1), ("behind", .int j t2)], m₁ p.1 = some p.2) ∧ news₁ = (T, { cls := .type "tuple", data := .seq #[.int i t1, .int j t2] }) :: (l, listOf vs.toArray nn) :: news)
    rfl rfl rfl F3 (news_undup N3) ⟨_, (N3 _ (.head _)).1, rfl, _, rfl⟩ (N3 _ (.head _)).2.1 (N3 _ (.head _)).2.2 ?_ ?_ ?_ ?_
  · intro q hq e
    rcases List.mem_cons.mp hq with rfl | hq
    · exact absurd hlt3.1 (e ▸ Nat.lt_irrefl _)
    · rcases List.mem_cons.mp hq with rfl | hq
      · exact absurd hlt3.2.1 (e ▸ Nat.lt_irrefl _)
      · exact absurd (allLt_mem hlt3.2.2 q hq) (e ▸ Nat.lt_irrefl _)
  · exact ⟨all_cons (by with_unfolding_all rfl) (all_cons (by with_unfolding_all rfl) (all_cons (by with_unfolding_all rfl) all_nil)), rfl⟩
  · rintro k v m₁ news₁ own off h tk4 gs hv ⟨hm, rfl⟩ hoff hown F4 N4 hG4
    obtain ⟨mo, tm, rfl, hmo⟩ : ∃ mo tm, v = Value.int mo tm ∧ -1 ≤ mo ∧ mo ≤ 1 := by
      rcases k with _ | _ | _ | k
      · exact ⟨_, _, (Option.some.inj hv).symm, by decide, by decide⟩
      · exact ⟨_, _, (Option.some.inj hv).symm, by decide, by decide⟩
      · exact ⟨_, _, (Option.some.inj hv).symm, by decide, by decide⟩
      · simp at hv
    rw [kstB_self hm] at F4
    dsimp only [kstB] at F4
    k_steps
    · refine (text_spec' l vs ns nn _ (.tail _ (.head _)) hi (by omega) hb) _ _ _ _ _ _ _ _ _ _ _ _ _ _ _ _ _ (by assumption) (by assumption) (by assumption) (by assumption) (by assumption) rfl trivial (show dp + 1 + 1 < recursionLimit by omega) (show un + 3 + 8 < cLine by omega) ?_
      intro t5 h5 tk5 F5 N5
      dsimp only at F5 N5 ⊢
      k_steps
      have hij : 0 ≤ i + mo ∧ 0 ≤ j + mo := by
        have hc : 0 ≤ (if j < i then j else i) + mo := by assumption
        split at hc <;> omega
      obtain ⟨rw', erw, hrw1, hrw2, hrw3⟩ := row_ok ns hlen hb mo i j hi1 hj1 hmo hij.1 hij.2
      rw [erw] at *
      refine (check_spec rw' _ _ hrw1 hrw2) _ _ _ _ _ _ _ _ _ _ _ _ _ _ _ _ _ (by assumption) (by assumption) (by assumption) (by assumption) (by assumption) rfl trivial (show dp + 1 + 5 < recursionLimit by omega) (show un + 3 + 40 < cLine by omega) ?_
      intro h6 tk6 gs6 F6 N6 hG6
      rw [hrw3]
      dsimp only at F6 N6 hG6 ⊢
      by_cases hm0 : 0 ≤ mo
      · rw [decide_eq_true hm0]
        k_steps
        · rename_i hc _ _ _ _
          rw [decide_eq_true hm0] at hc
          cases hc
        · exact turnEndG_of (nx := (T, _) :: (l, _) :: news) F6 N6 hG6 hoff ⟨all_cons (by with_unfolding_all rfl) (all_cons (by with_unfolding_all rfl) (all_cons (by with_unfolding_all rfl) all_nil)), rfl⟩
      · rw [decide_eq_false hm0]
        k_steps
        · rename_i hc _ _ _ _
          rw [decide_eq_false hm0] at hc
          cases hc
        · exact turnEndG_of (nx := (T, _) :: (l, _) :: news) F6 N6 hG6 hoff ⟨all_cons (by with_unfolding_all rfl) (all_cons (by with_unfolding_all rfl) (all_cons (by with_unfolding_all rfl) all_nil)), rfl⟩
    · refine turnEndG_of (nx := (T, _) :: (l, _) :: news) (by assumption) (by assumption) (GUp.refl _) hoff ⟨all_cons (by with_unfolding_all rfl) (all_cons (by with_unfolding_all rfl) (all_cons (by with_unfolding_all rfl) all_nil)), rfl⟩
  · rintro m₁ news₁ h tk4 gs ⟨hm, rfl⟩ F4 N4 hG4
    dsimp only
    rw [kstB_self hm] at F4
    dsimp only [kstB] at F4
    k_steps
    rename_i kF kN _ _
    exact hret _ _ _ kF (news_undup kN) hG4
end Mine
end

section
open PySem PySem.W PyProof.Rows PySem.Spec PySem.Calls
set_option maxHeartbeats 4000000
namespace Mine
section
variable {prog : Program} {w : World} {A : Around} {s : Shared} {E : Value → Shared → Prop}
theorem for_rangeG {R : Result → Shared → Prop} {env : Env} {xv : Str} {px : Pos} {body : List Stmt} {r : Addr} {n : Nat} {t1 t2 t3 : Tok}
    {h₀ : Heap} {m₀ : Str → Option Value} {news₀ : List (Addr × Obj)} (J : Nat → (Str → Option Value) → List (Addr × Obj) → Prop)
    (hh : A.handled = none) (hn : n ≤ 1000) (hx : env.kindOf xv = some .local)
    (hp : (env.scope.kind == .class || (env.scope.kind == .module && env.locals != env.globals)) = false)
    (hr : IsRange s.heap r 0 (n : Int) 1 t1 t2 t3) (F : Fr h₀ env.locals s.heap m₀) (N : News h₀ env.locals s.heap news₀) (hJ : J 0 m₀ news₀)
    (turn : ∀ i u m₁ news₁ own off h tk gs, i < n → J i m₁ news₁ → (∀ p ∈ news₁, p.1 ∉ off) → (∀ p ∈ own, p.1 ∈ off) →
      Fr h₀ env.locals h (fun y => if y = xv then some (.int (i : Int) u) else m₁ y) → News h₀ env.locals h (news₁ ++ own) → GUp s.gens gs →
      wpAny (model prog w) A (execs body env) (fun f s₂ => match f with
        | .next | .cont => TurnEndG h₀ env.locals own off (J (i + 1)) { s with heap := h, toks := tk, gens := gs } s₂
        | .brk => R (.ok .next) s₂
        | .ret v => R (.ok (.ret v)) s₂) (fun _ _ => False) { s with heap := h, toks := tk, gens := gs })
    (done : ∀ m₁ news₁ h tk gs, J n m₁ news₁ → Fr h₀ env.locals h m₁ → News h₀ env.locals h news₁ → GUp s.gens gs → R (.ok .next) { s with heap := h, toks := tk, gens := gs }) :
    wpAny (model prog w) A (pyIter (.ref r)) (fun it s₂ => codeAny (model prog w) A (.forLoop (.Name xv px) it body [] env) R s₂) E s := by
  have hLz : env.locals < s.heap.objs.size := F.ns.lt
  have hsz : Builtin.Range.rangeSize 0 (n : Int) 1 = (n : Int) := by
    unfold Builtin.Range.rangeSize
    simp
    try omega
  refine wpAny_pyIter_range hr (small_one (by omega) (by omega) (by omega) (by omega)) ?_
  have kp : ∀ b o, s.heap.get? b = some o → (s.heap.push { cls := .type "range_iterator", data := .fields #[rawInt 0, rawInt (Builtin.Range.rangeSize 0 (n : Int) 1), rawInt 1] }).get? b = some o := fun b o y => Heap.get?_push_of_some _ y
  refine forLoop_walkG (s := { s with heap := s.heap.push { cls := .type "range_iterator", data := .fields #[rawInt 0, rawInt (Builtin.Range.rangeSize 0 (n : Int) 1), rawInt 1] } }) J (Walks.range (prog := prog) (w := w) hh s.heap.objs.size 0 1 n) hx hp (F.keeps kp) (N.grown kp)
    ?_ ?_ ?_ ?_ hJ (fun i v m₁ news₁ own h tk gs hi hP hJ' a b F N hG hst hal => ?_) done
  · have e1 : (0 + ((0 : Nat) : Int) * 1) = 0 := by simp
    have e2 : ((n : Int) - ((0 : Nat) : Int)) = Builtin.Range.rangeSize 0 (n : Int) 1 := by rw [hsz]; simp
    rw [e1, e2]
    exact Heap.get?_push_size _ rfl
  · intro z
    rw [List.mem_singleton] at z
    exact absurd (z ▸ hLz) (Nat.lt_irrefl _)
  · intro b hb
    rw [List.mem_singleton] at hb
    subst hb
    cases q : h₀.get? s.heap.objs.size with
    | none => rfl
    | some o => exact absurd (Nat.lt_of_lt_of_le (Nat.lt_of_lt_of_le (Heap.lt_size q) F.above) (Nat.le_of_lt hLz)) (Nat.lt_irrefl _)
  · intro p hp z
    rw [List.mem_singleton] at z
    exact absurd (z ▸ Heap.lt_size (N p hp).1) (Nat.lt_irrefl _)
  · obtain ⟨t, rfl⟩ := hP
    have e : (0 + (i : Int) * 1) = (i : Int) := by simp
    rw [e] at F
    exact turn i t m₁ news₁ own _ h tk gs hi hJ' a b F N hG
end
end Mine
end

section
open PySem PySem.W PyProof.Rows PySem.Spec PySem.Calls
set_option maxHeartbeats 4000000
namespace Mine
theorem ints_of_get : ∀ {vs : List Value} {ns : List Int}, vs.length = ns.length → (∀ (j : Nat) (n : Int), ns[j]? = some n → ∃ t, vs[j]? = some (Value.int n t)) → IntsAre vs ns
  | [], [], _, _ => .nil
  | [], _ :: _, h, _ => by simp at h
  | _ :: _, [], h, _ => by simp at h
  | v :: vs, n :: ns, h, k => by
    obtain ⟨t, ht⟩ := k 0 n rfl
    have e : v = .int n t := by simpa using ht
    subst e
    exact .cons n t (ints_of_get (by simpa using h) fun j n' hj => k (j + 1) n' (by simpa using hj))
def row0 (n : Nat) : List Int := (List.range n).map fun (i : Nat) => 2 * ((i : Int) + 1)
theorem new_row {prog : Program} {w : World} {A : Around} {E : Value → Shared → Prop} {s : Shared} {h₀ : Heap} {L r : Addr} {m : Str → Option Value} {news : List (Addr × Obj)} {n : Nat} {t u v : Tok} {Q : Value → Shared → Prop}
    (hh : A.handled = none) (hn : n ≤ 1000) (hr : IsRange s.heap r 2 (2 * ((n : Int) + 1)) 2 t u v) (F : Fr h₀ L s.heap m) (N : News h₀ L s.heap news)
    (h : ∀ D c vs h' tk, Fr h₀ L h' m → News h₀ L h' ((D, listOf vs c) :: news) → IntsAre vs.toList (row0 n) → (∀ q ∈ news, q.1 < D) → Q (.ref D) { s with heap := h', toks := tk }) :
    wpAny (model prog w) A (call (.type "list") [.ref r]) Q E s := by
  have hsz : Builtin.Range.rangeSize 2 (2 * ((n : Int) + 1)) 2 = (n : Int) := by
    unfold Builtin.Range.rangeSize
    simp only [show (2 : Int) > 0 by decide, if_true]
    split <;> omega
  have hsm : Builtin.Range.small 2 (2 * ((n : Int) + 1)) 2 = true := by
    unfold Builtin.Range.small
    rw [hsz]
    unfold Builtin.Range.rangeFitsLong
    simp
    omega
  refine call_list_range (n := n) hh hr hsm hsz (by omega) fun h' tk acc' c' hk hS' hacc => ?_
  have hz := ks_newsPush (s := s) (q := s.heap.objs.size) F N rfl hS' hk
  refine h _ c' acc' h' tk hz.1 hz.2.1 (ints_of_get ?_ ?_) hz.2.2
  · simp [row0, hacc.1]
  · intro j k hj
    have hjn : j < n := by
      have := (List.getElem?_eq_some_iff.mp hj).1
      simpa [row0] using this
    have hk2 : k = 2 * ((j : Int) + 1) := by
      simp [row0, hjn] at hj
      exact hj.symm
    have hja : j < acc'.size := by rw [hacc.1]; exact hjn
    obtain ⟨t', ht'⟩ := hacc.2 j acc'[j] (by simp [hja])
    refine ⟨t', ?_⟩
    simp [hja, ht', hk2]
    omega

end Mine
end

section
open PySem PySem.W PyProof.Rows PySem.Spec PySem.Calls
set_option maxHeartbeats 4000000
namespace Mine
theorem set_row {prog : Program} {w : World} {A : Around} {E : Value → Shared → Prop} {s : Shared} {h₀ : Heap} {L D : Addr} {m : Str → Option Value} {news : List (Addr × Obj)} {vs : Array Value} {c : Nat} {k : Int} {t : Tok} {v : Value} {Q : Unit → Shared → Prop}
    (F : Fr h₀ L s.heap m) (N : News h₀ L s.heap ((D, listOf vs c) :: news)) (hD : ∀ q ∈ news, q.1 ≠ D) (h0 : 0 ≤ k) (hj : k < vs.size) (hfit : k < 1000)
    (h : ∀ h', Fr h₀ L h' m → News h₀ L h' ((D, listOf (vs.setIfInBounds k.toNat v) c) :: news) → Q () { s with heap := h' }) :
    wpAny (model prog w) A (setItem (.ref D) (.int k t) v) Q E s := by
  have ho := (N _ (.head _)).1
  have hT : s.TypeIs (.ref D) "list" := ⟨_, ho, rfl⟩
  have hf : k < 2 ^ 63 := by omega
  have hfi := fitsIndex_of h0 hf
  clear hf hfit
  unfold setItem
  try with_reducible refine wpAny_holding ?_
  first | refine wpAny_bind (wpAny_pure ?_) | skip
  refine wpAny_bind (wpAny_sequenceKey hT (by decide) ?_)
  refine wpAny_bind (wpAny_callSpecial?_slot (name := Str.ofString "__setitem__") hT slot_list_setitem
    (wpAny_call_entry slot_list_setitem hT entry_list_setitem ?_ (args_list_setitem _ _ _)))
  show wpAny _ _ (Builtin.List.listSubscript? (.int k t) >>= _) _ _ s
  refine wpAny_bind (wpAny_listSubscript_int hfi ?_)
  clear hfi
  obtain ⟨j, rfl⟩ := Int.eq_ofNat_of_zero_le h0
  have hj : j < vs.size := by omega
  have hx' : vs[j]? = some vs[j] := Array.getElem?_eq_getElem hj
  show wpAny _ _ ((seqItemAt D j >>= fun r => pure (r.map (j, ·))) >>= _) _ _ s
  refine wpAny_bind (wpAny_bind (wpAny_seqItemAt ho rfl (wpAny_pure ?_)))
  rw [hx']
  show wpAny _ _ (setSeqItemAt D j v >>= _) _ _ s
  obtain ⟨U1, U2⟩ := news_upd (pre := []) (f := Obj.mapSeq (·.setIfInBounds j v)) (o' := listOf (vs.setIfInBounds j v) c) F N (fun _ h => nomatch h) hD (by simp [Obj.mapSeq]) rfl
  refine wpAny_bind (wpAny_setSeqItemAt ho rfl ?_)
  first
    | exact wpAny_bind (wpAny_pure (wpAny_pure ⟨.none, rfl, wpAny_pure (h _ U1 U2)⟩))
    | exact wpAny_pure ⟨.none, rfl, wpAny_pure (h _ U1 U2)⟩
end Mine
end

section
open PySem PySem.W PyProof.Rows PySem.Spec PySem.Calls
set_option maxHeartbeats 4000000
namespace Mine
theorem ints_set {vs : List Value} {ns : List Int} (h : IntsAre vs ns) (j : Nat) (n : Int) (t : Tok) : IntsAre (vs.set j (.int n t)) (ns.set j n) := by
  induction h generalizing j with
  | nil => exact .nil
  | cons a ta _ ih =>
    cases j with
    | zero => exact .cons _ _ (by assumption)
    | succ j => exact .cons _ _ (ih j)
theorem innerS_eq {bc a : Str} {st : LevS} {i : Nat} {r : Int} (hr : r = minP (minP st.res (st.row.getD i 0) + 2) (st.dist + subCost bc (Txt.item a (i : Int)))) : innerS bc a st i = ⟨st.row.getD i 0, r, if r < st.min then r else st.min, st.row.set i r⟩ := by subst hr; rfl
def outBody : List Stmt := forBody (stmtIx 15)
def innerFor : Stmt := stmtAt outBody 3
theorem inner_turn {w : World} {p : Program} {loose : List Str} {mean : ExcName → Option Value} {mg mb : Str → Option Value} {a2 bc : Str} {ta tbc td tr tm ti : Tok} {st : LevS} {news : List (Addr × Obj)} {cd : Value} {D : Addr} {vs : Array Value} {c i : Nat}
    {dp un : Nat} {gd : Option (List Code)} {outer : List Env} {A₀ : Around} {base h₀ : Heap} {L : Addr} {m : Str → Option Value} {s : Shared} {Q : Flow → Shared → Prop} {E : Value → Shared → Prop}
    (ha2 : a2.length ≤ 40) (hbc : bc.length ≤ 1) (hi : i < a2.length) (hr : st.row.length = a2.length) (hI : IntsAre vs.toList st.row)
    (hB : Below A₀ base outer h₀) (F : Fr h₀ L s.heap m) (hX : (hd.heap_39 w.params).In h₀) (N : News h₀ L s.heap ((D, listOf vs c) :: news)) (hD : ∀ q ∈ news, q.1 ≠ D) (hT : Top p loose mean mg mb h₀) (hdp : dp + 1 < recursionLimit) (hun : un + 8 < cLine)
    (hm : ∀ q ∈ [(("a" : Str), Value.str a2 ta), ("bchar", .str bc tbc), ("distance", .int st.dist td), ("result", .int st.res tr), ("minimum", .int st.min tm), ("row", .ref D), ("index", .int (i : Int) ti)], m q.1 = some q.2)
    (hQ : ∀ m' h' tk' vs' c' td' tr' tm', Fr h₀ L h' m' → News h₀ L h' ((D, listOf vs' c') :: news) → IntsAre vs'.toList (innerS bc a2 st i).row →
      (∀ q ∈ [(("distance" : Str), Value.int (innerS bc a2 st i).dist td'), ("result", .int (innerS bc a2 st i).res tr'), ("minimum", .int (innerS bc a2 st i).min tm')], m' q.1 = some q.2) →
      (∀ y v, y ∉ [("substitute" : Str), "distance", "insert_delete", "result", "minimum"] → m y = v → m' y = v) → Q .next { s with heap := h', toks := tk' }) :
    wpAny (model PySem.Challenge.rw_tc0006_01.row.prog w) (ktrTop dp un gd (fnName 13) (fnScope 13) L 140 cd [] outer) (execs (forBody innerFor) (levEnv L 140 cd)) Q E s := by
  revert hX; k_fill; intro hX
  rw [kstB_self hm] at F
  dsimp only [kstB] at F
  obtain ⟨h, g, d, tk, os⟩ := s
  dsimp only at F N
  show wpAny _ _ (execs (_ :: _) _) _ _ _
  repeat' (first | (k_unfold; (try dsimp only)) | ((fail_if_success (with_reducible show wpAny _ _ (call _ _ _) _ _ _)); walk1))
  refine (sub_spec bc (Txt.item a2 (i : Int)) tbc _ _ (by omega) (by omega)) _ _ _ _ _ _ _ _ _ _ _ _ _ _ _ _ _ (by assumption) (by assumption) (by assumption) (by assumption) (by assumption) rfl trivial (show dp + 1 < recursionLimit by omega) (show un + 8 < cLine by omega) ?_
  intro t1 h1 tk1 F1 N1
  dsimp only at F1 N1 ⊢
  repeat' (first | (k_unfold; (try dsimp only)) | walk1)
  rename Fr _ _ _ _ => F2
  rename News _ _ _ _ => N2
  have hvs : vs.size = a2.length := by have := hI.length; simp at this; omega
  refine set_row F2 N2 hD (by omega) (by omega) (by omega) ?_
  intro h3 F3 N3
  dsimp only
  repeat' (first | (k_unfold; (try dsimp only)) | walk1)
  all_goals (try dsimp only)
  · rename Fr _ _ _ _ => F4
    rename News _ _ _ _ => N4
    have e := innerS_eq (bc := bc) (a := a2) (st := st) (i := i) rfl
    rw [if_pos (by assumption)] at e
    rw [e] at hQ
    obtain ⟨t1', ht1⟩ : ∃ t, mapOf F4 "distance" = some (.int (st.row.getD i 0) t) := ⟨_, by with_unfolding_all rfl⟩
    obtain ⟨t2', ht2⟩ : ∃ t, mapOf F4 "result" = some (.int (minP (minP st.res (st.row.getD i 0) + 2) (st.dist + subCost bc (Txt.item a2 (i : Int)))) t) := ⟨_, by with_unfolding_all rfl⟩
    obtain ⟨t3', ht3⟩ : ∃ t, mapOf F4 "minimum" = some (.int (minP (minP st.res (st.row.getD i 0) + 2) (st.dist + subCost bc (Txt.item a2 (i : Int)))) t) := ⟨_, by with_unfolding_all rfl⟩
    refine hQ _ _ _ _ _ t1' t2' t3' F4 N4 ?_ (all_cons ht1 (all_cons ht2 (all_cons ht3 all_nil))) ?_
    · rw [Array.toList_setIfInBounds]
      exact ints_set hI i _ _
    · intro y v hy hv
      simp only [List.mem_cons, List.not_mem_nil, or_false, not_or] at hy
      obtain ⟨y1, y2, y3, y4, y5⟩ := hy
      have e2 := congrFun (kstB_self hm) y
      dsimp only [kstB] at e2
      simp only [if_neg y2, if_neg y4, if_neg y5] at e2
      simp only [if_neg y1, if_neg y2, if_neg y3, if_neg y4, if_neg y5]
      rw [← hv]
      exact e2.symm
  · rename Fr _ _ _ _ => F4
    rename News _ _ _ _ => N4
    have e := innerS_eq (bc := bc) (a := a2) (st := st) (i := i) rfl
    rw [if_neg (by assumption)] at e
    rw [e] at hQ
    obtain ⟨t1', ht1⟩ : ∃ t, mapOf F4 "distance" = some (.int (st.row.getD i 0) t) := ⟨_, by with_unfolding_all rfl⟩
    obtain ⟨t2', ht2⟩ : ∃ t, mapOf F4 "result" = some (.int (minP (minP st.res (st.row.getD i 0) + 2) (st.dist + subCost bc (Txt.item a2 (i : Int)))) t) := ⟨_, by with_unfolding_all rfl⟩
    obtain ⟨t3', ht3⟩ : ∃ t, mapOf F4 "minimum" = some (.int st.min t) := ⟨_, by with_unfolding_all rfl⟩
    refine hQ _ _ _ _ _ t1' t2' t3' F4 N4 ?_ (all_cons ht1 (all_cons ht2 (all_cons ht3 all_nil))) ?_
    · rw [Array.toList_setIfInBounds]
      exact ints_set hI i _ _
    · intro y v hy hv
      simp only [List.mem_cons, List.not_mem_nil, or_false, not_or] at hy
      obtain ⟨y1, y2, y3, y4, y5⟩ := hy
      have e2 := congrFun (kstB_self hm) y
      dsimp only [kstB] at e2
      simp only [if_neg y2, if_neg y4, if_neg y5] at e2
      simp only [if_neg y1, if_neg y2, if_neg y3, if_neg y4, if_neg y5]
      rw [← hv]
      exact e2.symm
end Mine
end

section
open PySem PySem.W PyProof.Rows PySem.Spec PySem.Calls
set_option maxHeartbeats 4000000
namespace Mine
def innerNames : List Str := ["substitute", "distance", "insert_delete", "result", "minimum", "index"]
def innerRun (bc a : Str) (st : LevS) (i : Nat) : LevS := (List.range i).foldl (innerS bc a) st
theorem innerRun_succ (bc a : Str) (st : LevS) (i : Nat) : innerRun bc a st (i + 1) = innerS bc a (innerRun bc a st i) i := by
  unfold innerRun; rw [List.range_succ, List.foldl_append]; rfl
theorem innerRun_len (bc a : Str) (st : LevS) (i : Nat) : (innerRun bc a st i).row.length = st.row.length := by
  induction i with
  | zero => rfl
  | succ i ih => rw [innerRun_succ, ← ih]; simp [innerS]

theorem put_ne {m : Str → Option Value} {x y : Str} {v : Value} {v' : Option Value} (h : x ≠ y) (hm : m x = some v) : (fun z => if z = y then v' else m z) x = some v := by simp only [if_neg h, hm]
theorem put_eq {m : Str → Option Value} {y : Str} {v' : Option Value} : (fun z => if z = y then v' else m z) y = v' := by simp only [if_true]
theorem inner_for {w : World} {p : Program} {loose : List Str} {mean : ExcName → Option Value} {mg mb : Str → Option Value} {a2 bc : Str} {ta tbc td tr tm : Tok} {st : LevS} {news : List (Addr × Obj)} {cd : Value} {D : Addr} {vs : Array Value} {c : Nat}
    {dp un : Nat} {gd : Option (List Code)} {outer : List Env} {A₀ : Around} {base h₀ : Heap} {L : Addr} {m : Str → Option Value} {s : Shared} {Q : Flow → Shared → Prop} {E : Value → Shared → Prop}
    (ha2 : a2.length ≤ 40) (hbc : bc.length ≤ 1) (hr : st.row.length = a2.length) (hI : IntsAre vs.toList st.row)
    (hB : Below A₀ base outer h₀) (F : Fr h₀ L s.heap m) (hX : (hd.heap_39 w.params).In h₀) (N : News h₀ L s.heap ((D, listOf vs c) :: news)) (hD : ∀ q ∈ news, q.1 ≠ D) (hT : Top p loose mean mg mb h₀) (hdp : dp + 1 < recursionLimit) (hun : un + 8 < cLine)
    (hm : ∀ q ∈ [(("a" : Str), Value.str a2 ta), ("bchar", .str bc tbc), ("distance", .int st.dist td), ("result", .int st.res tr), ("minimum", .int st.min tm), ("row", .ref D)], m q.1 = some q.2)
    (hQ : ∀ m' h' tk' gs' vs' c' tr' tm', Fr h₀ L h' m' → News h₀ L h' ((D, listOf vs' c') :: news) → GUp s.gens gs' → IntsAre vs'.toList (innerRun bc a2 st a2.length).row →
      (∀ q ∈ [(("result" : Str), Value.int (innerRun bc a2 st a2.length).res tr'), ("minimum", .int (innerRun bc a2 st a2.length).min tm')], m' q.1 = some q.2) →
      (∀ y v, y ∉ innerNames → m y = v → m' y = v) → Q .next { s with heap := h', toks := tk', gens := gs' }) :
    wpAny (model PySem.Challenge.rw_tc0006_01.row.prog w) (ktrTop dp un gd (fnName 13) (fnScope 13) L 140 cd [] outer) (exec innerFor (levEnv L 140 cd)) Q E s := by
  have hX' := hX
  revert hX; k_fill; intro hX
  rw [kstB_self hm] at F
  dsimp only [kstB] at F
  obtain ⟨h, g, d, tk, os⟩ := s
  dsimp only at F N
  show wpAny _ _ (exec (.For (.Name "index" _) _ (forBody innerFor) [] _) _) _ _ _
  refine wpAny_For ?_
  repeat' (first | (k_unfold; (try dsimp only)) | ((fail_if_success (with_reducible show wpAny _ _ (pyIter _) _ _ _)); walk1))
  rename IsRange _ _ _ _ _ _ _ _ => hr2
  rename Fr _ _ _ _ => F2
  rename News _ _ _ _ => N2
  have hm2 := fun y v (hy : y ∉ innerNames) (hv : m y = v) => (congrFun (kstB_self hm) y).symm.trans hv
  dsimp only [kstB] at hm2
  refine for_rangeG (env := levEnv L 140 cd) (fun i m₁ news₁ => ∃ vs' c' td' tr' tm', IntsAre vs'.toList (innerRun bc a2 st i).row ∧
      (∀ q ∈ [(("a" : Str), Value.str a2 ta), ("bchar", .str bc tbc), ("distance", .int (innerRun bc a2 st i).dist td'), ("result", .int (innerRun bc a2 st i).res tr'), ("minimum", .int (innerRun bc a2 st i).min tm'), ("row", .ref D)], m₁ q.1 = some q.2) ∧
      (∀ y v, y ∉ innerNames → m y = v → m₁ y = v) ∧ news₁ = (D, listOf vs' c') :: news) rfl (by omega) rfl rfl hr2 F2 N2 ?_ ?_ ?_
  · refine ⟨vs, c, td, tr, tm, hI, ?_, fun y v hy hv => ?_, rfl⟩
    · exact all_cons (by with_unfolding_all rfl) (all_cons (by with_unfolding_all rfl) (all_cons (by with_unfolding_all rfl) (all_cons (by with_unfolding_all rfl) (all_cons (by with_unfolding_all rfl) (all_cons (by with_unfolding_all rfl) all_nil)))))
    · exact hm2 y v hy hv
  · rintro i u m₁ news₁ own off h4 tk4 gs4 hi ⟨vs', c', td', tr', tm', hI', hm', hy', rfl⟩ hoff hown F4 N4 hG4
    refine inner_turn (i := i) (ti := u) (ta := ta) (tbc := tbc) (td := td') (tr := tr') (tm := tm') (vs := vs') (c := c') (s := ⟨h4, gs4, _, tk4, _⟩) (news := news ++ own) ha2 hbc hi ((innerRun_len ..).trans hr) hI' hB F4 hX' N4 ?_ hT hdp hun ?_ ?_
    · intro q hq
      rcases List.mem_append.mp hq with q1 | q1
      · exact hD q q1
      · intro e
        exact hoff _ (.head _) (e ▸ hown q q1)
    · exact all_cons (put_ne (show ("a" : Str) ≠ "index" by decide) (hm' _ (.head _))) (all_cons (put_ne (show ("bchar" : Str) ≠ "index" by decide) (hm' _ (.tail _ (.head _)))) (all_cons (put_ne (show ("distance" : Str) ≠ "index" by decide) (hm' _ (.tail _ (.tail _ (.head _))))) (all_cons (put_ne (show ("result" : Str) ≠ "index" by decide) (hm' _ (.tail _ (.tail _ (.tail _ (.head _)))))) (all_cons (put_ne (show ("minimum" : Str) ≠ "index" by decide) (hm' _ (.tail _ (.tail _ (.tail _ (.tail _ (.head _))))))) (all_cons (put_ne (show ("row" : Str) ≠ "index" by decide) (hm' _ (.tail _ (.tail _ (.tail _ (.tail _ (.tail _ (.head _)))))))) (all_cons put_eq all_nil))))))
    · intro m5 h5 tk5 vs5 c5 td5 tr5 tm5 F5 N5 hI5 hm5 hy5
      refine turnEndG_of (nx := (D, listOf vs5 c5) :: news) F5 N5 (GUp.refl _) ?_ ⟨vs5, c5, td5, tr5, tm5, ?_, ?_, ?_, rfl⟩
      · intro q hq
        rcases List.mem_cons.mp hq with rfl | q1
        · exact hoff (D, listOf vs' c') (.head _)
        · exact hoff q (.tail _ q1)
      · rw [innerRun_succ]; exact hI5
      · rw [innerRun_succ]
        refine all_cons (hy5 "a" _ (by decide) (put_ne (by decide) (hm' _ (.head _)))) (all_cons (hy5 "bchar" _ (by decide) (put_ne (by decide) (hm' _ (.tail _ (.head _))))) (all_cons (hm5 _ (.head _)) (all_cons (hm5 _ (.tail _ (.head _))) (all_cons (hm5 _ (.tail _ (.tail _ (.head _)))) (all_cons (hy5 "row" _ (by decide) (put_ne (by decide) (hm' _ (.tail _ (.tail _ (.tail _ (.tail _ (.tail _ (.head _))))))))) all_nil)))))
      · intro y v hy hv
        simp only [innerNames, List.mem_cons, List.not_mem_nil, or_false, not_or] at hy
        obtain ⟨y1, y2, y3, y4, y5, y6⟩ := hy
        refine hy5 y v ?_ ?_
        · simp only [List.mem_cons, List.not_mem_nil, or_false, not_or]; exact ⟨y1, y2, y3, y4, y5⟩
        · show (if y = "index" then _ else m₁ y) = v
          rw [if_neg y6]
          refine hy' y v ?_ hv
          simp only [innerNames, List.mem_cons, List.not_mem_nil, or_false, not_or]; exact ⟨y1, y2, y3, y4, y5, y6⟩
  · rintro m₁ news₁ h4 tk4 gs4 ⟨vs', c', td', tr', tm', hI', hm', hy', rfl⟩ F4 N4 hG4
    exact hQ _ _ _ _ _ _ _ _ F4 N4 hG4 hI' (all_cons (hm' _ (.tail _ (.tail _ (.tail _ (.head _))))) (all_cons (hm' _ (.tail _ (.tail _ (.tail _ (.tail _ (.head _)))))) all_nil)) hy'
end Mine
end

section
open PySem PySem.W PyProof.Rows PySem.Spec PySem.Calls
set_option maxHeartbeats 4000000
namespace Mine
def rowStart (bi : Nat) (row : List Int) : LevS := ⟨(bi : Int) * 2, (bi : Int) * 2, 9223372036854775807, row⟩
def rowRun (a b : Str) (bi : Nat) (row : List Int) : LevS := innerRun (Txt.item b (bi : Int)) a (rowStart bi row) a.length

theorem outer_turn {w : World} {p : Program} {loose : List Str} {mean : ExcName → Option Value} {mg mb : Str → Option Value} {a2 b2 : Str} {ta tb t3 ti : Tok} {k : Int} {row : List Int} {news : List (Addr × Obj)} {cd : Value} {D : Addr} {vs : Array Value} {c bi : Nat}
    {dp un : Nat} {gd : Option (List Code)} {outer : List Env} {A₀ : Around} {base h₀ : Heap} {L : Addr} {m : Str → Option Value} {s : Shared} {Q : Flow → Shared → Prop} {E : Value → Shared → Prop}
    (ha2 : a2.length ≤ 40) (hb2 : b2.length ≤ 40) (hbi : bi < b2.length) (hr : row.length = a2.length) (hI : IntsAre vs.toList row) (hk0 : 0 ≤ k) (hk1 : k ≤ 1000)
    (hB : Below A₀ base outer h₀) (F : Fr h₀ L s.heap m) (hX : (hd.heap_39 w.params).In h₀) (N : News h₀ L s.heap ((D, listOf vs c) :: news)) (hD : ∀ q ∈ news, q.1 ≠ D) (hT : Top p loose mean mg mb h₀) (hdp : dp + 1 < recursionLimit) (hun : un + 8 < cLine)
    (hm : ∀ q ∈ [(("a" : Str), Value.str a2 ta), ("b", .str b2 tb), ("max_cost", .int k t3), ("row", .ref D), ("bindex", .int (bi : Int) ti)], m q.1 = some q.2)
    (hQ1 : k < (rowRun a2 b2 bi row).min → ∀ m' h' tk' gs' t vs' c', Fr h₀ L h' m' → News h₀ L h' ((D, listOf vs' c') :: news) → GUp s.gens gs' → Q (.ret (.int (k + 1) t)) { s with heap := h', toks := tk', gens := gs' })
    (hQ2 : ¬ k < (rowRun a2 b2 bi row).min → ∀ m' h' tk' gs' vs' c' tr', Fr h₀ L h' m' → News h₀ L h' ((D, listOf vs' c') :: news) → GUp s.gens gs' → IntsAre vs'.toList (rowRun a2 b2 bi row).row →
      (∀ q ∈ [(("a" : Str), Value.str a2 ta), ("b", .str b2 tb), ("max_cost", .int k t3), ("row", .ref D), ("result", .int (rowRun a2 b2 bi row).res tr')], m' q.1 = some q.2) → Q .next { s with heap := h', toks := tk', gens := gs' }) :
    wpAny (model PySem.Challenge.rw_tc0006_01.row.prog w) (ktrTop dp un gd (fnName 13) (fnScope 13) L 140 cd [] outer) (execs outBody (levEnv L 140 cd)) Q E s := by
  have hX' := hX
  revert hX; k_fill; intro hX
  rw [kstB_self hm] at F
  dsimp only [kstB] at F
  obtain ⟨h, g, d, tk, os⟩ := s
  dsimp only at F N
  show wpAny _ _ (execs (_ :: _) _) _ _ _
  repeat' (first | (k_unfold; (try dsimp only)) | ((fail_if_success (with_reducible show wpAny _ _ (exec (Stmt.For _ _ _ _ _) _) _ _ _)); walk1))
  rename Fr _ _ _ _ => F2
  rename News _ _ _ _ => N2
  show wpAny _ _ (exec innerFor (levEnv L 140 cd)) _ _ _
  obtain ⟨tbc, h1⟩ : ∃ t, mapOf F2 "bchar" = some (.str (Txt.item b2 (bi : Int)) t) := ⟨_, by with_unfolding_all rfl⟩
  obtain ⟨td, h2⟩ : ∃ t, mapOf F2 "distance" = some (.int ((bi : Int) * 2) t) := ⟨_, by with_unfolding_all rfl⟩
  obtain ⟨tr, h3⟩ : ∃ t, mapOf F2 "result" = some (.int ((bi : Int) * 2) t) := ⟨_, by with_unfolding_all rfl⟩
  obtain ⟨tm, h4⟩ : ∃ t, mapOf F2 "minimum" = some (.int 9223372036854775807 t) := ⟨_, by with_unfolding_all rfl⟩
  have h5 : mapOf F2 "a" = some (.str a2 ta) := by with_unfolding_all rfl
  have h6 : mapOf F2 "row" = some (.ref D) := by with_unfolding_all rfl
  have h7 : mapOf F2 "b" = some (.str b2 tb) := by with_unfolding_all rfl
  have h8 : mapOf F2 "max_cost" = some (.int k t3) := by with_unfolding_all rfl
  refine inner_for (st := rowStart bi row) (bc := Txt.item b2 (bi : Int)) (s := ⟨_, _, _, _, _⟩) ha2 (by omega) hr hI hB F2 hX' N2 hD hT hdp hun (all_cons h5 (all_cons h1 (all_cons h2 (all_cons h3 (all_cons h4 (all_cons h6 all_nil)))))) ?_
  intro m3 h3' tk3 gs3 vs3 c3 tr3 tm3 F3 N3 hG3 hI3 hm3 hy3
  have g1 := hy3 "a" _ (by decide) h5
  have g2 := hy3 "b" _ (by decide) h7
  have g3 := hy3 "max_cost" _ (by decide) h8
  have g4 := hy3 "row" _ (by decide) h6
  have g5 := hm3 _ (.head _)
  have g6 := hm3 _ (.tail _ (.head _))
  have hm4 : ∀ q ∈ [(("a" : Str), Value.str a2 ta), ("b", .str b2 tb), ("max_cost", .int k t3), ("row", .ref D), ("result", .int (rowRun a2 b2 bi row).res tr3), ("minimum", .int (rowRun a2 b2 bi row).min tm3)], m3 q.1 = some q.2 :=
    all_cons g1 (all_cons g2 (all_cons g3 (all_cons g4 (all_cons g5 (all_cons g6 all_nil)))))
  clear h1 h2 h3 h4 h5 h6 h7 h8 N2
  rw [kstB_self hm4] at F3
  dsimp only [kstB] at F3
  dsimp only at hG3 ⊢
  repeat' (first | (k_unfold; (try dsimp only)) | walk1)
  · dsimp only
    exact hQ1 (by assumption) _ _ _ _ _ _ _ F3 N3 hG3
  · refine hQ2 (by assumption) _ _ _ _ _ _ tr3 F3 N3 hG3 hI3 ?_
    exact all_cons (by with_unfolding_all rfl) (all_cons (by with_unfolding_all rfl) (all_cons (by with_unfolding_all rfl) (all_cons (by with_unfolding_all rfl) (all_cons (by with_unfolding_all rfl) all_nil))))
end Mine
end

section
open PySem PySem.W PyProof.Rows PySem.Spec PySem.Calls
set_option maxHeartbeats 4000000
namespace Mine
def TailPostG (h₀ : Heap) (L : Addr) (news : List (Addr × Obj)) (r : Int) (s : Shared) (fl : Flow) (s' : Shared) : Prop :=
  ∃ t h' tk' gs' m', fl = .ret (.int r t) ∧ s' = { s with heap := h', toks := tk', gens := gs' } ∧ GUp s.gens gs' ∧ Fr h₀ L h' m' ∧ News h₀ L h' news
theorem TailPostG.intro {h₀ h' : Heap} {L : Addr} {news news' : List (Addr × Obj)} {r r' : Int} {t : Tok} {tk' : Nat} {gs' : Array GenState} {s : Shared} {m' : Str → Option Value} (F : Fr h₀ L h' m') (N : News h₀ L h' news') (hn : ∀ q ∈ news, q ∈ news') (hG : GUp s.gens gs') (e : r' = r) : TailPostG h₀ L news r s (.ret (.int r' t)) { s with heap := h', toks := tk', gens := gs' } :=
  ⟨t, h', tk', gs', m', by rw [e], rfl, hG, F, fun q hq => N q (hn q hq)⟩

def outRun (a b : Str) (k : Int) (i : Nat) : Option Int × Int × List Int := (List.range i).foldl (outerS a b k) (none, 0, row0 a.length)
theorem outRun_succ (a b : Str) (k : Int) (i : Nat) : outRun a b k (i + 1) = outerS a b k (outRun a b k i) i := by
  unfold outRun; rw [List.range_succ, List.foldl_append]; rfl
theorem outRun_next {a b : Str} {k : Int} {i : Nat} {res : Int} {row : List Int} (h : outRun a b k i = (none, res, row)) : outRun a b k (i + 1) = if k < (rowRun a b i row).min then (some (k + 1), (rowRun a b i row).res, (rowRun a b i row).row) else (none, (rowRun a b i row).res, (rowRun a b i row).row) := by
  rw [outRun_succ, h]; rfl
theorem outRun_some {a b : Str} {k : Int} {i j : Nat} {r : Int} (h : (outRun a b k i).1 = some r) (hj : i ≤ j) : (outRun a b k j).1 = some r := by
  induction j with
  | zero => have : i = 0 := by omega
            subst this; exact h
  | succ j ih =>
    by_cases e : i = j + 1
    · subst e; exact h
    · have := ih (by omega)
      rw [outRun_succ]
      generalize outRun a b k j = z at this
      obtain ⟨z1, z2, z3⟩ := z
      dsimp only at this
      subst this
      rfl
theorem levRows_some {a b : Str} {k r : Int} (h : (outRun a b k b.length).1 = some r) : levRows a b k = r := by
  show (match outRun a b k b.length with | (some r, _, _) => r | (none, r, _) => r) = r
  generalize outRun a b k b.length = z at h
  obtain ⟨z1, z2, z3⟩ := z
  dsimp only at h
  subst h
  rfl
theorem levRows_none {a b : Str} {k r : Int} {row : List Int} (h : outRun a b k b.length = (none, r, row)) : levRows a b k = r := by
  show (match outRun a b k b.length with | (some r, _, _) => r | (none, r, _) => r) = r
  rw [h]

theorem lev_rows {w : World} {p : Program} {loose : List Str} {mean : ExcName → Option Value} {mg mb : Str → Option Value} {a2 b2 : Str} {ta tb t3 : Tok} {k : Int} {news : List (Addr × Obj)} {cd : Value}
    {dp un : Nat} {gd : Option (List Code)} {outer : List Env} {A₀ : Around} {base h₀ : Heap} {L : Addr} {m : Str → Option Value} {s : Shared} {E : Value → Shared → Prop}
    (ha2 : a2.length ≤ 40) (hb2 : b2.length ≤ 40) (hk0 : 0 ≤ k) (hk1 : k ≤ 1000)
    (hB : Below A₀ base outer h₀) (F : Fr h₀ L s.heap m) (hX : (hd.heap_39 w.params).In h₀) (N : News h₀ L s.heap news) (hT : Top p loose mean mg mb h₀) (hdp : dp + 1 < recursionLimit) (hun : un + 8 < cLine)
    (hm : ∀ q ∈ [(("a" : Str), Value.str a2 ta), ("b", .str b2 tb), ("max_cost", .int k t3)], m q.1 = some q.2) :
    wpAny (model PySem.Challenge.rw_tc0006_01.row.prog w) (ktrTop dp un gd (fnName 13) (fnScope 13) L 140 cd [] outer) (execs ((fnBody 13).drop 13) (levEnv L 140 cd)) (TailPostG h₀ L news (levRows a2 b2 k) s) E s := by
  have hX' := hX
  revert hX; k_fill; intro hX
  rw [kstB_self hm] at F
  dsimp only [kstB] at F
  obtain ⟨h, g, d, tk, os⟩ := s
  dsimp only at F N
  show wpAny _ _ (execs (_ :: _) _) _ _ _
  repeat' (first | (k_unfold; (try dsimp only)) | ((fail_if_success (with_reducible show wpAny _ _ (call (Value.type "list") _ _) _ _ _)); walk1))
  rename IsRange _ _ _ _ _ _ _ _ => hr
  rename Fr _ _ _ _ => F2
  rename News _ _ _ _ => N2
  refine new_row (n := a2.length) rfl (by omega) hr F2 N2 ?_
  intro D c vs h3 tk3 F3 N3 hI ltD
  dsimp only at F3 N3 ⊢
  repeat' (first | (k_unfold; (try dsimp only)) | ((fail_if_success (with_reducible show wpAny _ _ (exec (Stmt.For _ _ _ _ _) _) _ _ _)); walk1))
  have hDn : ∀ q ∈ news, q.1 ≠ D := fun q hq => Nat.ne_of_lt (ltD q hq)
  have hr0 : (row0 a2.length).length = a2.length := by simp [row0]
  show wpAny _ _ (exec (.For (.Name "bindex" _) _ outBody [] _) (levEnv L 140 cd)) _ _ _
  refine wpAny_For ?_

  repeat' (first | (k_unfold; (try dsimp only)) | ((fail_if_success (with_reducible show wpAny _ _ (pyIter _) _ _ _)); walk1))
  rename IsRange _ _ _ _ _ _ _ _ => hr2
  rename Fr _ _ _ _ => F2
  rename News _ _ _ _ => N2
  refine for_rangeG (env := levEnv L 140 cd) (fun i m₁ news₁ => ∃ res row vs' c' tr', outRun a2 b2 k i = (none, res, row) ∧ row.length = a2.length ∧ IntsAre vs'.toList row ∧
      (∀ q ∈ [(("a" : Str), Value.str a2 ta), ("b", .str b2 tb), ("max_cost", .int k t3), ("row", .ref D), ("result", .int res tr')], m₁ q.1 = some q.2) ∧ news₁ = (D, listOf vs' c') :: news) rfl (by omega) rfl rfl hr2 F2 N2 ?_ ?_ ?_
  · obtain ⟨tr, ht⟩ : ∃ t, mapOf F2 "result" = some (.int 0 t) := ⟨_, by with_unfolding_all rfl⟩
    exact ⟨0, row0 a2.length, vs, c, tr, rfl, hr0, hI, all_cons (by with_unfolding_all rfl) (all_cons (by with_unfolding_all rfl) (all_cons (by with_unfolding_all rfl) (all_cons (by with_unfolding_all rfl) (all_cons ht all_nil)))), rfl⟩
  · rintro i u m₁ news₁ own off h4 tk4 gs4 hi ⟨res, row, vs', c', tr', hrun, hlen, hI', hm', rfl⟩ hoff hown F4 N4 hG4
    refine outer_turn (bi := i) (ti := u) (ta := ta) (tb := tb) (t3 := t3) (k := k) (row := row) (vs := vs') (c := c') (s := ⟨h4, gs4, _, tk4, _⟩) (news := news ++ own) ha2 hb2 hi hlen hI' hk0 hk1 hB F4 hX' N4 ?_ hT hdp hun ?_ ?_ ?_
    · intro q hq
      rcases List.mem_append.mp hq with q1 | q1
      · exact hDn q q1
      · intro e
        exact hoff _ (.head _) (e ▸ hown q q1)
    · exact all_cons (put_ne (show ("a" : Str) ≠ "bindex" by decide) (hm' _ (.head _))) (all_cons (put_ne (show ("b" : Str) ≠ "bindex" by decide) (hm' _ (.tail _ (.head _)))) (all_cons (put_ne (show ("max_cost" : Str) ≠ "bindex" by decide) (hm' _ (.tail _ (.tail _ (.head _))))) (all_cons (put_ne (show ("row" : Str) ≠ "bindex" by decide) (hm' _ (.tail _ (.tail _ (.tail _ (.head _)))))) (all_cons put_eq all_nil))))
    · intro hlt m5 h5 tk5 gs5 t5 vs5 c5 F5 N5 hG5
      dsimp only
      refine TailPostG.intro (news' := _) (hG := hG4.trans hG5) F5 N5 (fun q hq => .tail _ (List.mem_append_left _ hq)) ?_
      rw [levRows_some (outRun_some (i := i + 1) (by rw [outRun_next hrun, if_pos hlt]) (by omega))]
    · intro hlt m5 h5 tk5 gs5 vs5 c5 tr5 F5 N5 hG5 hI5 hm5
      dsimp only
      refine turnEndG_of (nx := (D, listOf vs5 c5) :: news) F5 N5 hG5 ?_ ⟨(rowRun a2 b2 i row).res, (rowRun a2 b2 i row).row, vs5, c5, tr5, ?_, ?_, hI5, hm5, rfl⟩
      · intro q hq
        rcases List.mem_cons.mp hq with rfl | q1
        · exact hoff (D, listOf vs' c') (.head _)
        · exact hoff q (.tail _ q1)
      · rw [outRun_next hrun, if_neg hlt]
      · exact (innerRun_len ..).trans hlen
  · rintro m₁ news₁ h4 tk4 gs4 ⟨res, row, vs', c', tr', hrun, hlen, hI', hm', rfl⟩ F4 N4 hG4
    clear F2 N2
    rw [kstB_self hm'] at F4
    dsimp only [kstB] at F4
    dsimp only
    repeat' (first | (k_unfold; (try dsimp only)) | walk1)
    dsimp only
    exact TailPostG.intro F4 N4 (fun q hq => .tail _ hq) hG4 (levRows_none hrun).symm
end Mine
end

section
open PySem PySem.W PyProof.Rows PySem.Spec PySem.Calls
set_option maxHeartbeats 4000000
namespace Mine
theorem lev_tail {w : World} {p : Program} {loose : List Str} {mean : ExcName → Option Value} {mg mb : Str → Option Value} {a2 b2 : Str} {ta tb t3 : Tok} {k : Int} {news : List (Addr × Obj)} {cd : Value}
    {dp un : Nat} {gd : Option (List Code)} {outer : List Env} {A₀ : Around} {base h₀ : Heap} {L : Addr} {m : Str → Option Value} {s : Shared} {E : Value → Shared → Prop}
    (ha2 : a2.length ≤ 40) (hb2 : b2.length ≤ 40) (hk0 : 0 ≤ k) (hk1 : k ≤ 1000)
    (hB : Below A₀ base outer h₀) (F : Fr h₀ L s.heap m) (hX : (hd.heap_39 w.params).In h₀) (N : News h₀ L s.heap news) (hT : Top p loose mean mg mb h₀) (hdp : dp + 1 < recursionLimit) (hun : un + 8 < cLine)
    (hm : ∀ q ∈ [(("a" : Str), Value.str a2 ta), ("b", .str b2 tb), ("max_cost", .int k t3)], m q.1 = some q.2) :
    wpAny (model PySem.Challenge.rw_tc0006_01.row.prog w) (ktrTop dp un gd (fnName 13) (fnScope 13) L 140 cd [] outer) (execs ((fnBody 13).drop 9) (levEnv L 140 cd)) (TailPostG h₀ L news (levTail a2 b2 k) s) E s := by
  revert hX; k_fill; intro hX
  rw [kstB_self hm] at F
  dsimp only [kstB] at F
  obtain ⟨h, g, d, tk, os⟩ := s
  dsimp only at F N
  show wpAny _ _ (execs (_ :: _) _) _ _ _
  repeat' (first | (k_unfold; (try dsimp only)) | ((fail_if_success (with_reducible show wpAny _ _ (execs [Stmt.Assign _ _ _, Stmt.Assign _ _ _, Stmt.For _ _ _ _ _, Stmt.Return _ _] _) _ _ _)); walk1))
  all_goals (try dsimp only)
  · refine TailPostG.intro (by assumption) (by assumption) (fun q hq => .tail _ hq) (GUp.refl _) ?_
    unfold levTail
    rw [if_neg (by omega), if_pos (show b2.length < a2.length by omega), if_pos (by assumption)]
  · rename Fr _ _ _ _ => F2
    rename News _ _ _ _ => N2
    have e : levTail a2 b2 k = levRows b2 a2 k := by
      unfold levTail
      rw [if_neg (by omega), if_pos (show b2.length < a2.length by omega), if_neg (by assumption)]
    rw [e]
    refine wpAny_mono (lev_rows (s := ⟨_, _, _, _, _⟩) hb2 ha2 hk0 hk1 hB F2 hX N2 hT hdp hun (all_cons (by with_unfolding_all rfl) (all_cons (by with_unfolding_all rfl) (all_cons (by with_unfolding_all rfl) all_nil)))) (fun fl s' hp => ?_) fun _ _ z => z
    obtain ⟨t, h', tk', gs', m', rfl, rfl, hG, F', N'⟩ := hp
    exact ⟨t, h', tk', gs', m', rfl, rfl, hG, F', fun q hq => N' q (.tail _ hq)⟩
  · refine TailPostG.intro (by assumption) (by assumption) (fun q hq => hq) (GUp.refl _) ?_
    unfold levTail
    rw [if_neg (by omega), if_neg (show ¬ b2.length < a2.length by omega), if_pos (by assumption)]
  · have e : levTail a2 b2 k = levRows a2 b2 k := by
      unfold levTail
      rw [if_neg (by omega), if_neg (show ¬ b2.length < a2.length by omega), if_neg (by assumption)]
    rw [e]
    refine wpAny_mono (lev_rows (s := ⟨_, _, _, _, _⟩) ha2 hb2 hk0 hk1 hB F hX N hT hdp hun (all_cons (by with_unfolding_all rfl) (all_cons (by with_unfolding_all rfl) (all_cons (by with_unfolding_all rfl) all_nil)))) (fun fl s' hp => ?_) fun _ _ z => z
    obtain ⟨t, h', tk', gs', m', rfl, rfl, hG, F', N'⟩ := hp
    exact ⟨t, h', tk', gs', m', rfl, rfl, hG, F', N'⟩
  · refine TailPostG.intro (by assumption) (by assumption) (fun q hq => hq) (GUp.refl _) ?_
    unfold levTail
    rw [if_pos (by omega)]
  · refine TailPostG.intro (by assumption) (by assumption) (fun q hq => hq) (GUp.refl _) ?_
    unfold levTail
    rw [if_pos (by omega)]
end Mine
end

section
open PySem PySem.W PyProof.Rows PySem.Spec PySem.Calls
set_option maxHeartbeats 4000000
namespace Mine
local macro_rules | `(tactic| walk_at "subscriptTail Name Slice str ref") => `(tactic| ((with_reducible rename NNMark => nnm); (with_reducible show wpAny _ _ (subscriptTail _ (Expr.Slice none (some (Expr.BoolOp _ _ _)) none _) _ _) _ _ _); ((with_reducible rename Fr _ _ _ _ => F'); (with_reducible rename News _ _ _ _ => N'); (refine slice_strN_nn_len (s := ⟨_, _, _, _, _⟩) F' N' ?_); intro _ _ _ _ _ _)))

theorem lev_cuts {w : World} {p : Program} {loose : List Str} {mean : ExcName → Option Value} {mg mb : Str → Option Value} {a2 b2 : Str} {ta tb t3 tj : Tok} {k : Int} {S : Nat} {news : List (Addr × Obj)} {cd : Value}
    {dp un : Nat} {gd : Option (List Code)} {outer : List Env} {A₀ : Around} {base h₀ : Heap} {L : Addr} {m : Str → Option Value} {s : Shared} {E : Value → Shared → Prop}
    (ha2 : a2.length ≤ 40) (hb2 : b2.length ≤ 40) (hk0 : 0 ≤ k) (hk1 : k ≤ 1000) (hS1 : S ≤ a2.length) (hS2 : S ≤ b2.length)
    (hB : Below A₀ base outer h₀) (F : Fr h₀ L s.heap m) (hX : (hd.heap_39 w.params).In h₀) (N : News h₀ L s.heap news) (hT : Top p loose mean mg mb h₀) (hdp : dp + 1 < recursionLimit) (hun : un + 8 < cLine)
    (hm : ∀ q ∈ [(("a" : Str), Value.str a2 ta), ("b", .str b2 tb), ("max_cost", .int k t3), ("post", .int (-(S : Int)) tj)], m q.1 = some q.2) :
    wpAny (model PySem.Challenge.rw_tc0006_01.row.prog w) (ktrTop dp un gd (fnName 13) (fnScope 13) L 140 cd [] outer) (execs ((fnBody 13).drop 7) (levEnv L 140 cd)) (TailPostG h₀ L news (levTail (cutE a2 S) (cutE b2 S) k) s) E s := by
  have hX' := hX
  revert hX; k_fill; intro hX
  rw [kstB_self hm] at F
  dsimp only [kstB] at F
  obtain ⟨h, g, d, tk, os⟩ := s
  dsimp only at F N
  by_cases h0 : S = 0
  · subst h0
    have nn0 := NNMark.mk
    have g1 := PyProof.Txt.length_slice_le a2 none none
    have g2 := PyProof.Txt.length_slice_le b2 none none
    have c1 : cutE a2 0 = Txt.slice a2 none none := if_pos rfl
    have c2 : cutE b2 0 = Txt.slice b2 none none := if_pos rfl
    rw [c1, c2]
    dsimp only [Int.natCast_zero, Int.neg_zero] at F
    rw [show (-((0 : Nat) : Int)) = 0 from rfl] at F
    show wpAny _ _ (execs (_ :: _) _) _ _ _
    repeat' (first | (k_unfold; (try dsimp only)) | ((fail_if_success (with_reducible show wpAny _ _ (execs (Stmt.If _ _ _ _ :: _) _) _ _ _)); walk1))
    rename Fr _ _ _ _ => F5
    rename News _ _ _ _ => N5
    show wpAny _ _ (execs ((fnBody 13).drop 9) (levEnv L 140 cd)) _ _ _
    obtain ⟨ta', hta⟩ : ∃ t, mapOf F5 "a" = some (.str (Txt.slice a2 none none) t) := ⟨_, by with_unfolding_all rfl⟩
    obtain ⟨tb', htb⟩ : ∃ t, mapOf F5 "b" = some (.str (Txt.slice b2 none none) t) := ⟨_, by with_unfolding_all rfl⟩
    refine wpAny_mono (lev_tail (s := ⟨_, _, _, _, _⟩) (by omega) (by omega) hk0 hk1 hB F5 hX' N5 hT hdp hun (all_cons hta (all_cons htb (all_cons (by with_unfolding_all rfl) all_nil)))) (fun fl s' hp => ?_) fun _ _ z => z
    obtain ⟨t, h', tk', gs', m', rfl, rfl, hG, F', N'⟩ := hp
    exact ⟨t, h', tk', gs', m', rfl, rfl, hG, F', N'⟩
  · have g1 := slice_neg_len a2 S (by omega) hS1
    have g2 := slice_neg_len b2 S (by omega) hS2
    have c1 : cutE a2 S = Txt.slice a2 none (some (-(S : Int))) := if_neg h0
    have c2 : cutE b2 S = Txt.slice b2 none (some (-(S : Int))) := if_neg h0
    rw [c1, c2]
    show wpAny _ _ (execs (_ :: _) _) _ _ _
    repeat' (first | (exfalso; omega) | (k_unfold; (try dsimp only)) | ((fail_if_success (with_reducible show wpAny _ _ (execs (Stmt.If _ _ _ _ :: _) _) _ _ _)); walk1))
    rename Fr _ _ _ _ => F5
    rename News _ _ _ _ => N5
    show wpAny _ _ (execs ((fnBody 13).drop 9) (levEnv L 140 cd)) _ _ _
    obtain ⟨ta', hta⟩ : ∃ t, mapOf F5 "a" = some (.str (Txt.slice a2 none (some (-(S : Int)))) t) := ⟨_, by with_unfolding_all rfl⟩
    obtain ⟨tb', htb⟩ : ∃ t, mapOf F5 "b" = some (.str (Txt.slice b2 none (some (-(S : Int)))) t) := ⟨_, by with_unfolding_all rfl⟩
    refine wpAny_mono (lev_tail (s := ⟨_, _, _, _, _⟩) (by omega) (by omega) hk0 hk1 hB F5 hX' N5 hT hdp hun (all_cons hta (all_cons htb (all_cons (by with_unfolding_all rfl) all_nil)))) (fun fl s' hp => ?_) fun _ _ z => z
    obtain ⟨t, h', tk', gs', m', rfl, rfl, hG, F', N'⟩ := hp
    exact ⟨t, h', tk', gs', m', rfl, rfl, hG, F', N'⟩
end Mine
end

section
open PySem PySem.W PyProof.Rows PySem.Spec PySem.Calls
set_option maxHeartbeats 4000000
namespace Mine
theorem lev_spec {w : World} {p : Program} {loose : List Str} {mean : ExcName → Option Value} {mg mb : Str → Option Value} (x y : Str) (t1 t2 t3 : Tok) (k : Int) (news : List (Addr × Obj)) (hx : x.length ≤ 40) (hy : y.length ≤ 40) (hk0 : 0 ≤ k) (hk1 : k ≤ 1000) :
   KClaim w p loose mean mg mb 140 [.str x t1, .str y t2, .int k t3] news 3 30 True (fun h₀ L m s Q => ∀ t h' tk' gs', Fr h₀ L h' m → News h₀ L h' news → GUp s.gens gs' → Q (.int (levF x y k) t) { s with heap := h', toks := tk', gens := gs' }) := by
  unfold KClaim; k_fill
  intro dp un gd cn cs a ccd cl outer A₀ base h₀ L m s Q E hB hF hX hN hT hk _ hdp hun hret
  refine wpAny_call ?_
  k_dflt cell_enter
  repeat' (first | (k_unfold; (try dsimp only)) | ((fail_if_success (with_reducible show wpAny _ _ (exec (Stmt.While _ _ _ _) _) _ _ _)); walk1))
  · rename_i kF kN _ _
    have e : levF x y k = 0 := if_pos (eq_of_beq (by assumption))
    rw [e] at hret
    exact hret _ _ _ _ kF kN (GUp.refl _)
  rename Fr _ _ _ _ => F1
  rename News _ _ _ _ => N1
  have hne : x ≠ y := fun q => by
    have h1 : (x == y) = false := by assumption
    rw [q] at h1; simp at h1
  have elev : levF x y k = levTail (cutE (Txt.slice x (some ((preN x y (x.length + 1) 0 : Nat) : Int)) none) (sufN (Txt.slice x (some ((preN x y (x.length + 1) 0 : Nat) : Int)) none) (Txt.slice y (some ((preN x y (x.length + 1) 0 : Nat) : Int)) none) ((Txt.slice x (some ((preN x y (x.length + 1) 0 : Nat) : Int)) none).length + 1) 0)) (cutE (Txt.slice y (some ((preN x y (x.length + 1) 0 : Nat) : Int)) none) (sufN (Txt.slice x (some ((preN x y (x.length + 1) 0 : Nat) : Int)) none) (Txt.slice y (some ((preN x y (x.length + 1) 0 : Nat) : Int)) none) ((Txt.slice x (some ((preN x y (x.length + 1) 0 : Nat) : Int)) none).length + 1) 0)) k := by
    unfold levF
    rw [if_neg hne]
  rw [elev] at hret
  clear elev
  obtain ⟨tp, htp⟩ : ∃ t, mapOf F1 "pre" = some (.int 0 t) := ⟨_, by with_unfolding_all rfl⟩
  generalize hP : preN x y (x.length + 1) 0 = P at hret
  have hret0 := hret
  refine While_to (fun n m₁ news₁ => ∃ (j : Nat) (tj : Tok), (∀ q ∈ [(("a" : Str), Value.str x t1), ("b", .str y t2), ("max_cost", .int k t3), ("pre", .int j tj)], m₁ q.1 = some q.2) ∧ news₁ = news ∧ j ≤ x.length ∧ j ≤ y.length ∧ n + j = x.length + 1 ∧ preN x y n j = P)
    (fun m₁ news₁ => ∃ tj, (∀ q ∈ [(("a" : Str), Value.str x t1), ("b", .str y t2), ("max_cost", .int k t3), ("pre", .int (P : Int) tj)], m₁ q.1 = some q.2) ∧ news₁ = news ∧ P ≤ x.length ∧ P ≤ y.length) (n₀ := x.length + 1)
    F1 N1 ⟨0, tp, ?_, rfl, Nat.zero_le _, Nat.zero_le _, rfl, hP⟩ ?_ ?_ ?_
  · exact all_cons (by with_unfolding_all rfl) (all_cons (by with_unfolding_all rfl) (all_cons (by with_unfolding_all rfl) (all_cons htp all_nil)))
  · rintro n m₁ news₁ h2 tk2 F2 N2 ⟨j, tj, hm, rfl, hj1, hj2, hnj, hpre⟩
    clear hN N1
    rw [kstB_self hm] at F2
    dsimp only [kstB] at F2
    obtain ⟨n, rfl⟩ : ∃ n', n = n' + 1 := ⟨n - 1, by omega⟩
    rw [preN] at hpre
    repeat' (first | (k_unfold; (try dsimp only)) | ((fail_if_success (with_reducible show wpAny _ _ (exec (Stmt.While _ _ _ _) _) _ _ _)); walk1))
    · have hi : Txt.item x (j : Int) = Txt.item y (j : Int) := eq_of_beq (by assumption)
      rw [if_pos ⟨by omega, by omega, hi⟩] at hpre
      rename Fr _ _ _ _ => F3
      obtain ⟨tq, htq⟩ : ∃ t, mapOf F3 "pre" = some (.int (((j + 1 : Nat) : Int)) t) := ⟨_, by with_unfolding_all rfl⟩
      exact WhileStep.intro F3 (by assumption) (by omega) ⟨j + 1, tq, all_cons (by with_unfolding_all rfl) (all_cons (by with_unfolding_all rfl) (all_cons (by with_unfolding_all rfl) (all_cons htq all_nil))), rfl, by omega, by omega, by omega, hpre⟩
    · have hi : ¬ Txt.item x (j : Int) = Txt.item y (j : Int) := fun e => by
        have h1 : (Txt.item x (j : Int) == Txt.item y (j : Int)) = false := by assumption
        rw [e] at h1; simp at h1
      rw [if_neg (fun h => hi h.2.2)] at hpre
      subst hpre
      rename Fr _ _ _ _ => F3
      exact WhileOut.intro F3 (by assumption) ⟨tj, all_cons (by with_unfolding_all rfl) (all_cons (by with_unfolding_all rfl) (all_cons (by with_unfolding_all rfl) (all_cons (by with_unfolding_all rfl) all_nil))), rfl, hj1, hj2⟩
    · rw [if_neg (fun h => by omega)] at hpre
      subst hpre
      rename Fr _ _ _ _ => F3
      exact WhileOut.intro F3 (by assumption) ⟨tj, all_cons (by with_unfolding_all rfl) (all_cons (by with_unfolding_all rfl) (all_cons (by with_unfolding_all rfl) (all_cons (by with_unfolding_all rfl) all_nil))), rfl, hj1, hj2⟩
    · rw [if_neg (fun h => by omega)] at hpre
      subst hpre
      rename Fr _ _ _ _ => F3
      exact WhileOut.intro F3 (by assumption) ⟨tj, all_cons (by with_unfolding_all rfl) (all_cons (by with_unfolding_all rfl) (all_cons (by with_unfolding_all rfl) (all_cons (by with_unfolding_all rfl) all_nil))), rfl, hj1, hj2⟩
  · first | passes_own | (k_unfold; passes_own)
  · rintro m₁ news₁ h2 tk2 F2 N2 ⟨tj, hm, rfl, hP1, hP2⟩
    clear hN N1
    rw [kstB_self hm] at F2
    dsimp only [kstB] at F2
    dsimp only
    repeat' (first | (k_unfold; (try dsimp only)) | ((fail_if_success (with_reducible show wpAny _ _ (exec (Stmt.While _ _ _ _) _) _ _ _)); walk1))
    rename Fr _ _ _ _ => F3
    rename News _ _ _ _ => N3
    obtain ⟨ta, hta⟩ : ∃ t, mapOf F3 "a" = some (.str (Txt.slice x (some (P : Int)) none) t) := ⟨_, by with_unfolding_all rfl⟩
    obtain ⟨tb, htb⟩ : ∃ t, mapOf F3 "b" = some (.str (Txt.slice y (some (P : Int)) none) t) := ⟨_, by with_unfolding_all rfl⟩
    obtain ⟨tpo, htpo⟩ : ∃ t, mapOf F3 "post" = some (.int 0 t) := ⟨_, by with_unfolding_all rfl⟩
    have hmk : mapOf F3 "max_cost" = some (.int k t3) := by with_unfolding_all rfl
    generalize Txt.slice x (some (P : Int)) none = a1 at *
    generalize Txt.slice y (some (P : Int)) none = b1 at *
    have ha1 : a1.length ≤ 40 := by omega
    have hb1 : b1.length ≤ 40 := by omega
    generalize hS : sufN a1 b1 (a1.length + 1) 0 = S at hret
    refine while2 (a := 140) (cd := .ref 139) ha1 hb1 hS F3 N3 (all_cons hta (all_cons htb (all_cons hmk (all_cons htpo all_nil)))) (by first | passes_own | (k_unfold; passes_own)) ?_
    intro m₂ h4 tk4 tj4 F4 N4 hm4 hS1 hS2
    show wpAny _ _ (execs ((fnBody 13).drop 7) (levEnv _ 140 _)) _ _ _
    refine wpAny_mono (lev_cuts (s := ⟨_, _, _, _, _⟩) ha1 hb1 hk0 hk1 hS1 hS2 (by assumption) F4 (by assumption) N4 (by assumption) (show dp + 1 + 1 < recursionLimit by omega) (show un + 3 + 8 < cLine by omega) hm4) (fun fl s' hp => ?_) fun _ _ z => z
    obtain ⟨t, h', tk', gs', m', rfl, rfl, hG, F', N'⟩ := hp
    dsimp only at hG ⊢
    exact leaveK_ F' N' fun kF kN => hret _ _ _ _ kF kN hG
end Mine
end

section
open PySem PySem.W PyProof.Rows PySem.Spec PySem.Calls
set_option maxHeartbeats 4000000
namespace Mine
section
variable {prog : Program} {w : World} {A : Around} {E : Value → Shared → Prop}

/-- one turn's end of a list comprehension -/
def CompTurn (h₀ : Heap) (L C D : Addr) (oC oD : Obj) (m : Str → Option Value) (fp : List Addr) (own : List (Addr × Obj)) (K : Value → List (Addr × Obj) → Prop) (s₁ : Shared) (y : Value) (s₂ : Shared) : Prop :=
  ∃ h' tk gs all news, s₂ = { s₁ with heap := h', toks := tk, gens := gs } ∧ GUp s₁.gens gs ∧ Fr h₀ L h' m ∧ News h₀ L h' all ∧ ((C, oC) ∈ all ∧ (D, oD) ∈ all) ∧ (∀ p ∈ own, p ∈ all) ∧ (∀ p ∈ news, p ∈ all) ∧ (∀ p ∈ news, p.1 ≠ C ∧ p.1 ≠ D ∧ p.1 ∉ fp) ∧ K y news

theorem comp_core {target elt iter : Expr} {scope : Scope} {cl : List (Str × Addr)} {pos : Pos} {env : Env} {it : Value} {n : Nat} {St : Nat → Heap → Prop} {fp wr : List Addr} {Pm : Nat → (Str → Option Value) → Prop} {h₀ : Heap} {L : Addr} {m : Str → Option Value} {s₂ : Shared} {news₀ : List (Addr × Obj)}
    (J : Nat → List Value → List (Addr × Obj) → Prop) (RR : Value → Addr → Result → Shared → Prop) (hsz : n ≤ 1000)
    (hcell : ∀ y ∈ scope.names, y.2 ≠ .cell) (hkind : scope.kind = .function)
    (hloop : ∀ (acc : Value) (env' : Env) (R : Result → Shared → Prop) (I : Nat → Shared → Prop),
      (∀ k s, I k s → wpAny (model prog w) A (pyNext it) (fun r s₁ => match r with
        | none => R (.ok .next) s₁
        | some v => wpAny (model prog w) A (letOwnedTupleGo target it v) (fun _ s₁' => wpAny (model prog w) A (assign target env' v) (fun _ s₂ => wpAny (model prog w) A (eval elt env') (fun x s₄ =>
            wpAny (model prog w) A (call (.builtin "list.append") [acc, x]) (fun _ s₅ => ∃ j, j < k ∧ I j s₅) (notedBy (model prog w) A env' fun e s' => R (.error e) s') s₄) (notedBy (model prog w) A env' fun e s' => R (.error e) s') s₂)
            (notedBy (model prog w) A env' fun e s' => R (.error e) s') s₁') (notedBy (model prog w) A env' fun e s' => R (.error e) s') s₁) (notedBy (model prog w) A env' fun e s' => R (.error e) s') s) →
      ∀ k s, I k s → codeAny (model prog w) A (.compLoop (.ListComp elt [⟨target, iter, [], 0⟩] scope pos) 0 it acc env') R s)
    (item : ∀ i C (s : Shared) (E' : Value → Shared → Prop) (Z : Shared → Prop), i < n → St i s.heap → (∃ m', s.heap.Ns C m') → C ∉ fp →
      (∀ h' tk' m', St (i + 1) h' → h'.Ns C m' → Pm i m' → (∀ b o, b ≠ C → b ∉ wr → s.heap.get? b = some o → h'.get? b = some o) → Z { s with heap := h', toks := tk' }) →
      wpAny (model prog w) A (pyNext it) (fun r s₁ => ∃ v, r = some v ∧ wpAny (model prog w) A (letOwnedTupleGo target it v) (fun _ s₁' => wpAny (model prog w) A (assign target (compEnvC scope cl C env) v) (fun _ s₂ => Z s₂) E' s₁') E' s₁) E' s)
    (fin : ∀ (s : Shared) (E' : Value → Shared → Prop) (Z : Shared → Prop), St n s.heap → (∀ h' tk', (∀ b o, b ∉ wr → s.heap.get? b = some o → h'.get? b = some o) → Z { s with heap := h', toks := tk' }) → wpAny (model prog w) A (pyNext it) (fun r s₁ => r = none ∧ Z s₁) E' s)
    (self : ∀ (s : Shared) (Q : Value → Shared → Prop) (E' : Value → Shared → Prop), St 0 s.heap → Q it s → wpAny (model prog w) A (pyIter it) Q E' s)
    (frame : ∀ i h h', St i h → (∀ b ∈ fp, ∀ o, h.get? b = some o → h'.get? b = some o) → St i h') (sub : ∀ b ∈ wr, b ∈ fp)
    (hfp : ∀ b ∈ fp, b < s₂.heap.objs.size) (hf0 : ∀ b ∈ fp, h₀.get? b = none) (hLf : L ∉ fp) (hoff : ∀ p ∈ news₀, p.1 ∉ fp)
    (hst : St 0 s₂.heap) (F : Fr h₀ L s₂.heap m) (N : News h₀ L s₂.heap news₀) (hJ : J 0 [] news₀)
    (turn : ∀ i C oC D ys news own m' h tk gs (E' : Value → Shared → Prop), i < n → J i ys news → LCg.NsObj oC m' → Pm i m' → Fr h₀ L h m → News h₀ L h ((C, oC) :: (D, LCg.lst ys) :: (news ++ own)) → C ≠ D → (∀ p ∈ news, p.1 ≠ C ∧ p.1 ≠ D ∧ p.1 ∉ fp) → (∀ p ∈ own, p.1 ∈ fp) → C ∉ fp → D ∉ fp → GUp s₂.gens gs →
      wpAny (model prog w) A (eval elt (compEnvC scope cl C env)) (CompTurn h₀ L C D oC (LCg.lst ys) m fp own (fun y news' => J (i + 1) (ys ++ [y]) news') { s₂ with heap := h, toks := tk, gens := gs }) E' { s₂ with heap := h, toks := tk, gens := gs })
    (done : ∀ D C h tk gs m' ys news, J n ys news → Fr h₀ L h m → News h₀ L h ((D, LCg.lst ys) :: news) → h.Ns C m' → h₀.get? C = none → C ≠ L → C ≠ D → (∀ p ∈ news, p.1 ≠ C ∧ p.1 ≠ D) → GUp s₂.gens gs → RR (.ref D) C (.ok .next) { s₂ with heap := h, toks := tk, gens := gs }) :
    wpAny (model prog w) A (newList []) (fun acc s₃ => wpAny (model prog w) A (newFunctionEnv scope env.globals cl [] env.qual none .none (some env)) (fun cenv s₄ =>
      codeAny (model prog w) A (.compStart (.ListComp elt [⟨target, iter, [], 0⟩] scope pos) 0 it acc { cenv with scope := relabel scope env }) (RR acc cenv.locals) s₄) E s₃) E s₂ := by
  refine wpAny_newObj_type (wpAny_newFunctionEnv hcell (by intro y hy; simp at hy) (fun h₁ hns₁ hsb₁ => ?_) hkind)
  dsimp only at hns₁ hsb₁ ⊢
  generalize hH2 : s₂.heap.push { cls := .type "list", dict := none, data := .seq ([] : List Value).toArray } = H2 at hns₁ hsb₁ ⊢
  have hC : H2.objs.size = s₂.heap.objs.size + 1 := by rw [← hH2, Heap.size_push]
  generalize hDd : s₂.heap.objs.size = D at *
  generalize hCc : H2.objs.size = C at *
  have hDC : D ≠ C := by rw [hC]; exact Nat.ne_of_lt (Nat.lt_succ_self _)
  have below : ∀ b, b < D → b ≠ C ∧ b ≠ D := fun b hb => ⟨by rw [hC]; exact Nat.ne_of_lt (Nat.lt_succ_of_lt hb), Nat.ne_of_lt hb⟩
  have hDf : D ∉ fp := fun hm => Nat.lt_irrefl _ (hfp _ hm)
  have hCf : C ∉ fp := fun hm => by have := hfp _ hm; rw [hC] at this; exact Nat.lt_irrefl _ (Nat.lt_of_succ_lt this)
  have old : ∀ b o, s₂.heap.get? b = some o → h₁.get? b = some o := fun b o e => hsb₁.extBut b o (below b (hDd ▸ Heap.lt_size e)).1 (Heap.get?_push_of_some _ (hH2 ▸ Heap.get?_push_of_some _ e))
  have hacc : h₁.get? D = some (LCg.lst []) := hsb₁.extBut _ _ hDC (Heap.get?_push_of_some _ (by rw [← hH2, ← hDd]; exact Heap.get?_push_size _ rfl))
  have hst₁ : St 0 h₁ := frame _ _ _ hst fun b _ o e => old b o e
  have fresh₀ : ∀ a, D ≤ a → h₀.get? a = none := fun a ha => by
    cases e : h₀.get? a with
    | none => rfl
    | some o' =>
      have := Heap.lt_size (F.keep a o' e)
      rw [hDd] at this
      exact absurd this (Nat.not_lt.mpr ha)
  have hD₀ : h₀.get? D = none := fresh₀ _ (Nat.le_refl _)
  have hC₀ : h₀.get? C = none := fresh₀ _ (by rw [hC]; exact Nat.le_succ _)
  have hLlt : L < D := hDd ▸ F.ns.lt
  have hDL : D ≠ L := Ne.symm (below L hLlt).2
  have hCL : C ≠ L := Ne.symm (below L hLlt).1
  have hCw : C ∉ wr := fun z => hCf (sub _ z)
  have hDw : D ∉ wr := fun z => hDf (sub _ z)
  have hLw : L ∉ wr := fun z => hLf (sub _ z)
  have off₀ : ∀ p ∈ news₀, p.1 ≠ C ∧ p.1 ≠ D ∧ p.1 ∉ fp := fun p hp => by
    have z := below p.1 (hDd ▸ Heap.lt_size (N p hp).1)
    exact ⟨z.1, z.2, hoff p hp⟩
  have loop : ∀ s₃ : Shared, s₃ = { s₂ with heap := h₁, toks := s₂.toks + ([] : List (Str × Value)).length } →
      codeAny (model prog w) A (.compLoop (.ListComp elt [⟨target, iter, [], 0⟩] scope pos) 0 it (.ref D) (compEnvC scope cl C env)) (RR (.ref D) C) s₃ := by
    rintro s₃ rfl
    refine hloop _ _ _
      (fun k s' => ∃ h' tk gs i ys m' news', s' = { s₂ with heap := h', toks := tk, gens := gs } ∧ i ≤ n ∧ k = n + 1 - i ∧ ys.length = i ∧ St i h' ∧ Fr h₀ L h' m ∧ h'.Ns C m' ∧ News h₀ L h' ((D, LCg.lst ys) :: news') ∧
        (∀ p ∈ news', p.1 ≠ C ∧ p.1 ≠ D ∧ p.1 ∉ fp) ∧ J i ys news' ∧ GUp s₂.gens gs) ?_ (n + 1) _
      ⟨h₁, _, s₂.gens, 0, [], _, news₀, rfl, Nat.zero_le _, rfl, rfl, hst₁, F.keeps old, hns₁, fun p hp => ?_, off₀, hJ, GUp.refl _⟩
    · rintro k s' ⟨h', tk, gs, i, ys, m', news', rfl, hi, rfl, hyl, hst', F', hn', N', off', hJ', hG'⟩
      by_cases hlt : i < n
      · refine wpAny_mono (item i C _ _ (fun s₂' => wpAny (model prog w) A (eval elt (compEnvC scope cl C env)) (fun x s₄ => wpAny (model prog w) A (call (.builtin "list.append") [.ref D, x]) (fun _ s₅ => ∃ j, j < n + 1 - i ∧ ∃ h' tk gs i ys m' news', s₅ = { s₂ with heap := h', toks := tk, gens := gs } ∧ i ≤ n ∧ j = n + 1 - i ∧ ys.length = i ∧ St i h' ∧ Fr h₀ L h' m ∧ h'.Ns C m' ∧ News h₀ L h' ((D, LCg.lst ys) :: news') ∧ (∀ p ∈ news', p.1 ≠ C ∧ p.1 ≠ D ∧ p.1 ∉ fp) ∧ J i ys news' ∧ GUp s₂.gens gs) (notedBy (model prog w) A (compEnvC scope cl C env) fun e s' => RR (.ref D) C (.error e) s') s₄) (notedBy (model prog w) A (compEnvC scope cl C env) fun e s' => RR (.ref D) C (.error e) s') s₂') hlt hst' ⟨m', hn'⟩ hCf ?_) (fun r s₁ hr => ?_) fun _ _ z => z
        · intro h₃ tk₃ m₃ hst₃ hn₃ hP₃ hk₃
          dsimp only
          obtain ⟨oC, heC, hoC⟩ := LCg.ns_obj hn₃
          have nf : ∀ {b o}, h₀.get? b = some o → b ≠ C ∧ b ∉ wr := fun e => ⟨fun q => (by rw [q, hC₀] at e; cases e), fun q => (by rw [hf0 _ (sub _ q)] at e; cases e)⟩
          have F₃ : Fr h₀ L h₃ m := ⟨F'.ns.at' fun o e => hk₃ _ o (Ne.symm hCL) hLw e, fun b o e => hk₃ b o (nf e).1 (nf e).2 (F'.keep b o e), F'.above⟩
          have N₃ : News h₀ L h₃ ((C, oC) :: (D, LCg.lst ys) :: (news' ++ aliveAt h₃ fp)) := fun p hp => by
            rcases List.mem_cons.mp hp with rfl | hp
            · exact ⟨heC, hCL, hC₀⟩
            · rcases List.mem_cons.mp hp with rfl | hp
              · exact ⟨hk₃ _ _ hDC hDw (N' _ (.head _)).1, hDL, hD₀⟩
              · rcases List.mem_append.mp hp with q | q
                · have z := N' p (.tail _ q)
                  exact ⟨hk₃ _ _ (off' p q).1 (fun y => (off' p q).2.2 (sub _ y)) z.1, z.2⟩
                · obtain ⟨q1, q2⟩ := aliveAt_mem q
                  exact ⟨q2, fun z => hLf (z ▸ q1), hf0 _ q1⟩
          refine wpAny_mono (turn i C oC D ys news' (aliveAt h₃ fp) m₃ h₃ tk₃ gs _ hlt hJ' hoC hP₃ F₃ N₃ (Ne.symm hDC) off' (fun p hp => (aliveAt_mem hp).1) hCf hDf hG') (fun y s₄ h₄ => ?_) fun _ _ e => e
          obtain ⟨h₄, tk₄, gs₄, all, news₄, rfl, hG₄, F₄, N₄, ⟨mC, mD⟩, mo, mn, off₄, hJ₄⟩ := h₄
          have zC := (N₄ _ mC).1
          have zD := (N₄ _ mD).1
          have hst₄ : St (i + 1) h₄ := frame _ _ _ hst₃ fun b hb o e => (N₄ _ (mo _ (mem_aliveAt hb e))).1
          refine append_at (hsz := by show ys.toArray.size ≤ sizeLine; rw [List.size_toArray, hyl, sizeLine_eq]; omega) zD fun h₅ hs₅ hD₅ => ?_
          refine ⟨n + 1 - (i + 1), by omega, h₅, _, gs₄, i + 1, ys ++ [y], m₃, news₄, rfl, hlt, rfl, by rw [List.length_append, List.length_singleton, hyl], frame _ _ _ hst₄ fun b hb o e => hs₅.extBut b o (fun q => hDf (q ▸ hb)) e, F₄.change hs₅ hDL hD₀,
            (hoC.ns zC).sameBut hs₅ (Ne.symm hDC), fun p hp => ?_, off₄, hJ₄, hG'.trans hG₄⟩
          rcases List.mem_cons.mp hp with rfl | hp
          · exact ⟨hD₅.trans (congrArg some (LCg.lst_snoc ys y)), hDL, hD₀⟩
          · exact ⟨hs₅.extBut _ _ (off₄ p hp).2.1 (N₄ p (mn p hp)).1, (N₄ p (mn p hp)).2⟩
        · obtain ⟨v, rfl, hr⟩ := hr
          exact hr
      · obtain rfl : i = n := Nat.le_antisymm hi (Nat.not_lt.mp hlt)
        refine wpAny_mono (fin _ _ (RR (.ref D) C (.ok .next)) hst' fun h₂ tk₂ hk₂ => ?_) (fun r s₁ hr => ?_) fun _ _ z => z
        · have F₂ : Fr h₀ L h₂ m := ⟨F'.ns.at' fun o e => hk₂ _ o hLw e, fun b o e => hk₂ b o (fun q => by rw [hf0 _ (sub _ q)] at e; cases e) (F'.keep b o e), F'.above⟩
          refine done D C h₂ tk₂ gs m' ys news' hJ' F₂ (fun p hp => ?_) (hn'.at' fun o e => hk₂ _ o hCw e) hC₀ hCL (Ne.symm hDC) (fun p hp => ⟨(off' p hp).1, (off' p hp).2.1⟩) hG'
          rcases List.mem_cons.mp hp with rfl | hp
          · exact ⟨hk₂ _ _ hDw (N' _ (.head _)).1, hDL, hD₀⟩
          · exact ⟨hk₂ _ _ (fun y => (off' p hp).2.2 (sub _ y)) (N' p (.tail _ hp)).1, (N' p (.tail _ hp)).2⟩
        · obtain ⟨rfl, hr⟩ := hr
          exact hr
    · rcases List.mem_cons.mp hp with rfl | hp
      · exact ⟨hacc, hDL, hD₀⟩
      · exact ⟨old _ _ (N p hp).1, (N p hp).2⟩
  exact codeAny_compStart_list (loop _ rfl) (self _ _ _ hst₁ (loop _ rfl))
end
end Mine
end

section
open PySem PySem.W PyProof.Rows PySem.Spec PySem.Calls
set_option maxHeartbeats 4000000
namespace Mine
section
variable {prog : Program} {w : World} {A : Around} {E : Value → Shared → Prop}

theorem comp_fin {env : Env} {y : Str} {py : Pos} {h₀ : Heap} {m : Str → Option Value} {s₂ : Shared} {Q : Flow → Shared → Prop} {D C : Addr} {h : Heap} {tk : Nat} {gs : Array GenState} {m' : Str → Option Value} {ys : List Value} {news : List (Addr × Obj)}
    (hy : env.kindOf y = some .local) (hp : (env.scope.kind == .class || (env.scope.kind == .module && env.locals != env.globals)) = false)
    (F' : Fr h₀ env.locals h m) (N' : News h₀ env.locals h ((D, LCg.lst ys) :: news)) (hn : h.Ns C m') (hC₀ : h₀.get? C = none) (hCL : C ≠ env.locals) (hCD : C ≠ D) (off : ∀ p ∈ news, p.1 ≠ C ∧ p.1 ≠ D)
    (hQ : ∀ h' tk', Fr h₀ env.locals h' (fun z => if z = y then some (.ref D) else m z) → News h₀ env.locals h' ((D, LCg.lst ys) :: news) → Q .next { s₂ with heap := h', toks := tk', gens := gs }) :
    compPost (model prog w) A E (some (assign (.Name y py) env)) (fun _ s' => Q .next s') (.ref D) C (.ok .next) { s₂ with heap := h, toks := tk, gens := gs } := by
  show wpAny _ A (assign (.Name y py) env (.ref D)) _ _ _
  refine wpAny_assign_Name (wpAny_storeName_local hy F'.ns (fun h₂ hn₂ hs₂ => ?_) hp)
  have hL₀ : h₀.get? env.locals = none := Heap.get?_none_of_le F'.above
  have F₂ : Fr h₀ env.locals h₂ (fun z => if z = y then some (.ref D) else m z) := ⟨hn₂, fun b o e => hs₂.extBut b o (fun q => by rw [q, hL₀] at e; cases e) (F'.keep b o e), F'.above⟩
  refine ⟨m', hn.sameBut hs₂ hCL, fun h'' hs'' => hQ h'' _ (F₂.change hs'' hCL hC₀) (fun p hp => ?_)⟩
  have z : h₂.get? p.1 = some p.2 := hs₂.extBut _ _ (N' p hp).2.1 (N' p hp).1
  refine ⟨hs''.extBut _ _ ?_ z, (N' p hp).2⟩
  rcases List.mem_cons.mp hp with rfl | hp
  · exact Ne.symm hCD
  · exact (off p hp).1

theorem comp_use {env : Env} {target elt iter : Expr} {y : Str} {py : Pos} {scope : Scope} {cl : List (Str × Addr)} {pos spos : Pos} {s : Shared} {Q : Flow → Shared → Prop}
    (hsw : swapsWith (.ListComp elt [⟨target, iter, [], 0⟩] scope pos) (some (.Name y py)) spos.line env = pure true)
    (hclos : closureFor scope env = pure cl) (hkind : scope.kind = .function)
    (hnames : ∀ z ∈ scope.names, z.2 = .local → scope.names.lookup z.1 = some .local)
    (h : wpAny (model prog w) A (eval iter env) (fun xv s₁ => wpAny (model prog w) A (pyIter xv) (fun it s₂ =>
      wpAny (model prog w) A (newList []) (fun acc s₃ => wpAny (model prog w) A (newFunctionEnv scope env.globals cl [] env.qual none .none (some env)) (fun cenv s₄ =>
        codeAny (model prog w) A (.compStart (.ListComp elt [⟨target, iter, [], 0⟩] scope pos) 0 it acc { cenv with scope := relabel scope env }) (compPost (model prog w) A E (some (assign (.Name y py) env)) (fun _ s' => Q .next s') acc cenv.locals) s₄) E s₃) E s₂) E s₁) E s)
    (hs : ∀ x, foldedSetIterable iter env x = pure x := by intro _; rfl) :
    wpAny (model prog w) A (exec (.Assign [.Name y py] (.ListComp elt [⟨target, iter, [], 0⟩] scope pos) spos) env) Q E s := by
  rw [exec_Assign_Name_used _ _ _ _ hsw]
  refine wpAny_bind (wpAny_standAt (wpAny_bind ?_))
  show wpAny _ A (do let _ ← comprehension (.ListComp elt [⟨target, iter, [], 0⟩] scope pos) scope env _ (newList []) false (eval iter env) (some (assign (.Name y py) env))) _ _ s
  exact wpAny_bind (wpAny_mono (wpAny_comprehension_free (use := some (assign (.Name y py) env)) (Q := fun _ s' => Q .next s') rfl hs hclos hkind hnames h) (fun _ s' hq => wpAny_pure (wpAny_pure hq)) fun _ _ e => e)

theorem comp_loop {target elt iter : Expr} {scope : Scope} {pos : Pos} {it : Value} (acc : Value) (env' : Env) (R : Result → Shared → Prop) (I : Nat → Shared → Prop)
    (turn : ∀ k s, I k s → wpAny (model prog w) A (pyNext it) (fun r s₁ => match r with
        | none => R (.ok .next) s₁
        | some v => wpAny (model prog w) A (letOwnedTupleGo target it v) (fun _ s₁' => wpAny (model prog w) A (assign target env' v) (fun _ s₂ => wpAny (model prog w) A (eval elt env') (fun x s₄ =>
            wpAny (model prog w) A (call (.builtin "list.append") [acc, x]) (fun _ s₅ => ∃ j, j < k ∧ I j s₅) (notedBy (model prog w) A env' fun e s' => R (.error e) s') s₄) (notedBy (model prog w) A env' fun e s' => R (.error e) s') s₂)
            (notedBy (model prog w) A env' fun e s' => R (.error e) s') s₁') (notedBy (model prog w) A env' fun e s' => R (.error e) s') s₁) (notedBy (model prog w) A env' fun e s' => R (.error e) s') s)
    (k : Nat) (s : Shared) (h : I k s) : codeAny (model prog w) A (.compLoop (.ListComp elt [⟨target, iter, [], 0⟩] scope pos) 0 it acc env') R s := by
  refine codeAny_loop rfl I (fun k s hI => wpAny_noted ?_) k h
  rw [compTurn_list]
  refine wpAny_bind (wpAny_standAt (wpAny_bind (wpAny_mono (turn k s hI) (fun r s₁ h₁ => ?_) fun _ _ z => z)))
  cases r with
  | none => exact wpAny_pure h₁
  | some v =>
    refine wpAny_bind (wpAny_mono h₁ (fun _ s₁' h₁' => wpAny_bind (wpAny_mono h₁' (fun _ s₂ h₂ => wpAny_bind (wpAny_tests_nil ?_)) fun _ _ z => z)) fun _ _ z => z)
    exact wpAny_bind (wpAny_bind (wpAny_mono h₂ (fun x s₄ h₄ => wpAny_bind (wpAny_mono h₄ (fun _ s₅ h₅ => wpAny_pure (wpAny_pure ⟨rfl, h₅⟩)) fun _ _ z => z)) fun _ _ z => z))

/-- `[elt for x in I]` stored under a local name; the ledger and the generators may grow -/
theorem comp_name {env : Env} {elt iter : Expr} {x y : Str} {px py : Pos} {scope : Scope} {cl : List (Str × Addr)} {pos : Pos} {s₂ : Shared} {Q : Flow → Shared → Prop} {I : Addr} {n : Nat} {St : Nat → Heap → Prop} {fp wr : List Addr} {P : Nat → Value → Prop} {h₀ : Heap} {m : Str → Option Value} {news₀ : List (Addr × Obj)}
    (J : Nat → List Value → List (Addr × Obj) → Prop) (W : Walks prog w A I fp wr n P St) (hsz : n ≤ 1000)
    (hcell : ∀ y ∈ scope.names, y.2 ≠ .cell) (hkind : scope.kind = .function) (hx : scope.names.lookup x = some .local)
    (hy : env.kindOf y = some .local) (hp : (env.scope.kind == .class || (env.scope.kind == .module && env.locals != env.globals)) = false)
    (hfp : ∀ b ∈ fp, b < s₂.heap.objs.size) (hf0 : ∀ b ∈ fp, h₀.get? b = none) (hLf : env.locals ∉ fp) (hoff : ∀ p ∈ news₀, p.1 ∉ fp)
    (hst : St 0 s₂.heap) (F : Fr h₀ env.locals s₂.heap m) (N : News h₀ env.locals s₂.heap news₀) (hJ : J 0 [] news₀)
    (turn : ∀ i v C oC D ys news own m' h tk gs (E' : Value → Shared → Prop), i < n → P i v → J i ys news → LCg.NsObj oC m' → m' x = some v → Fr h₀ env.locals h m → News h₀ env.locals h ((C, oC) :: (D, LCg.lst ys) :: (news ++ own)) → C ≠ D → (∀ p ∈ news, p.1 ≠ C ∧ p.1 ≠ D ∧ p.1 ∉ fp) → (∀ p ∈ own, p.1 ∈ fp) → C ∉ fp → D ∉ fp → GUp s₂.gens gs →
      wpAny (model prog w) A (eval elt (compEnvC scope cl C env)) (CompTurn h₀ env.locals C D oC (LCg.lst ys) m fp own (fun y news' => J (i + 1) (ys ++ [y]) news') { s₂ with heap := h, toks := tk, gens := gs }) E' { s₂ with heap := h, toks := tk, gens := gs })
    (done : ∀ D ys news h tk gs, J n ys news → Fr h₀ env.locals h (fun z => if z = y then some (.ref D) else m z) → News h₀ env.locals h ((D, LCg.lst ys) :: news) → (∀ p ∈ news, p.1 ≠ D) → GUp s₂.gens gs → Q .next { s₂ with heap := h, toks := tk, gens := gs }) :
    wpAny (model prog w) A (newList []) (fun acc s₃ => wpAny (model prog w) A (newFunctionEnv scope env.globals cl [] env.qual none .none (some env)) (fun cenv s₄ =>
        codeAny (model prog w) A (.compStart (.ListComp elt [⟨.Name x px, iter, [], 0⟩] scope pos) 0 (.ref I) acc { cenv with scope := relabel scope env }) (compPost (model prog w) A E (some (assign (.Name y py) env)) (fun _ s' => Q .next s') acc cenv.locals) s₄) E s₃) E s₂ := by
  refine comp_core (Pm := fun i m' => ∃ v, P i v ∧ m' x = some v) J _ hsz hcell hkind (fun acc env' R I t => comp_loop acc env' R I t) ?_ ?_ (fun s Q E' st h => W.self 0 s Q E' st h) W.frame W.sub hfp hf0 hLf hoff hst F N hJ ?_ ?_
  · rintro i C s E' Z hi hst ⟨m', hn⟩ hCf hZ
    have hCw : C ∉ wr := fun z => hCf (W.sub _ z)
    refine W.item i s _ _ hi hst fun v h₁ tk₁ hPv hst₁ hk₁ => ⟨v, rfl, ?_⟩
    refine wpAny_pure ?_
    refine wpAny_assign_Name (wpAny_storeName_local (lookup_relabel_local hx) (hn.at' fun o e => hk₁ _ o hCw e) (fun h₂ hn₂ hs₂ => ?_) (by simp [compEnvC, relabel, hkind]))
    exact hZ h₂ _ _ (W.frame _ _ _ hst₁ fun b hb o e => hs₂.extBut b o (fun q => hCf (by have q' : b = C := q; rw [← q']; exact hb)) e) hn₂ ⟨v, hPv, by simp⟩ fun b o hb hw e => hs₂.extBut b o hb (hk₁ b o hw e)
  · intro s E' Z hst hZ
    exact W.done s _ _ hst fun h' tk hk => ⟨rfl, hZ h' tk hk⟩
  · rintro i C oC D ys news own m' h tk gs E' hi hJ' hoC ⟨v, hPv, hv⟩ F' N' hCD off hown hCf hDf hG
    exact turn i v C oC D ys news own m' h tk gs E' hi hPv hJ' hoC hv F' N' hCD off hown hCf hDf hG
  · intro D C h tk gs m' ys news hJ' F' N' hn hC₀ hCL hCD off hG
    exact comp_fin hy hp F' N' hn hC₀ hCL hCD off fun h' tk' F'' N'' => done D ys news h' tk' gs hJ' F'' N'' (fun p hp => (off p hp).2) hG

theorem comp_pair {env : Env} {elt iter : Expr} {x₁ x₂ y : Str} {p₁ p₂ py tp : Pos} {tk0 : Nat} {scope : Scope} {cl : List (Str × Addr)} {pos : Pos} {s₂ : Shared} {Q : Flow → Shared → Prop} {I : Addr} {n : Nat} {St : Nat → Heap → Prop} {Mid : Nat → Addr → Heap → Prop} {fp wr : List Addr} {P : Nat → Array Value → Prop} {h₀ : Heap} {m : Str → Option Value} {news₀ : List (Addr × Obj)}
    (J : Nat → List Value → List (Addr × Obj) → Prop) (W : WalksU prog w A I fp wr n P St Mid) (hh : A.handled = none) (hsz : n ≤ 1000) (hP2 : ∀ i vals, P i vals → ∃ v₁ v₂, vals = #[v₁, v₂])
    (hcell : ∀ y ∈ scope.names, y.2 ≠ .cell) (hkind : scope.kind = .function) (hx : scope.names.lookup x₁ = some .local) (hx₂ : scope.names.lookup x₂ = some .local) (hxx : x₁ ≠ x₂)
    (hy : env.kindOf y = some .local) (hp : (env.scope.kind == .class || (env.scope.kind == .module && env.locals != env.globals)) = false)
    (hfp : ∀ b ∈ fp, b < s₂.heap.objs.size) (hf0 : ∀ b ∈ fp, h₀.get? b = none) (hLf : env.locals ∉ fp) (hoff : ∀ p ∈ news₀, p.1 ∉ fp)
    (hst : St 0 s₂.heap) (F : Fr h₀ env.locals s₂.heap m) (N : News h₀ env.locals s₂.heap news₀) (hJ : J 0 [] news₀)
    (turn : ∀ i v₁ v₂ C oC D ys news own m' h tk gs (E' : Value → Shared → Prop), i < n → P i #[v₁, v₂] → J i ys news → LCg.NsObj oC m' → m' x₁ = some v₁ → m' x₂ = some v₂ → Fr h₀ env.locals h m → News h₀ env.locals h ((C, oC) :: (D, LCg.lst ys) :: (news ++ own)) → C ≠ D → (∀ p ∈ news, p.1 ≠ C ∧ p.1 ≠ D ∧ p.1 ∉ fp) → (∀ p ∈ own, p.1 ∈ fp) → C ∉ fp → D ∉ fp → GUp s₂.gens gs →
      wpAny (model prog w) A (eval elt (compEnvC scope cl C env)) (CompTurn h₀ env.locals C D oC (LCg.lst ys) m fp own (fun y news' => J (i + 1) (ys ++ [y]) news') { s₂ with heap := h, toks := tk, gens := gs }) E' { s₂ with heap := h, toks := tk, gens := gs })
    (done : ∀ D ys news h tk gs, J n ys news → Fr h₀ env.locals h (fun z => if z = y then some (.ref D) else m z) → News h₀ env.locals h ((D, LCg.lst ys) :: news) → (∀ p ∈ news, p.1 ≠ D) → GUp s₂.gens gs → Q .next { s₂ with heap := h, toks := tk, gens := gs }) :
    wpAny (model prog w) A (newList []) (fun acc s₃ => wpAny (model prog w) A (newFunctionEnv scope env.globals cl [] env.qual none .none (some env)) (fun cenv s₄ =>
        codeAny (model prog w) A (.compStart (.ListComp elt [⟨.Tuple [.Name x₁ p₁, .Name x₂ p₂] tk0 tp, iter, [], 0⟩] scope pos) 0 (.ref I) acc { cenv with scope := relabel scope env }) (compPost (model prog w) A E (some (assign (.Name y py) env)) (fun _ s' => Q .next s') acc cenv.locals) s₄) E s₃) E s₂ := by
  refine comp_core (Pm := fun i m' => ∃ v₁ v₂, P i #[v₁, v₂] ∧ m' x₁ = some v₁ ∧ m' x₂ = some v₂) J _ hsz hcell hkind (fun acc env' R I t => comp_loop acc env' R I t) ?_ ?_ (fun s Q E' st h => W.self 0 s Q E' st h) W.frame W.sub hfp hf0 hLf hoff hst F N hJ ?_ ?_
  · rintro i C s E' Z hi hst ⟨m', hn⟩ hCf hZ
    have hCw : C ∉ wr := fun z => hCf (W.sub _ z)
    refine W.item i s _ _ hi hst fun T vals h₁ tk₁ hPv hT hm hk₁ => ⟨.ref T, rfl, ?_⟩
    obtain ⟨v₁, v₂, rfl⟩ := hP2 _ _ hPv
    refine W.go _ _ _ i T _ _ _ hm fun h₂ hst₂ hk₂ => ?_
    have hTw := W.apart _ _ _ hm
    have hT₂ : h₂.IsTuple T #[v₁, v₂] := by obtain ⟨o, ho, r⟩ := hT; exact ⟨o, hk₂ T o hTw ho, r⟩
    refine assign_Tuple_tuple hh hT₂ rfl rfl fun h₅ he => ?_
    have he' : ∀ b o, h₂.get? b = some o → h₅.get? b = some o := fun b o e => he b o (Nat.ne_of_lt (Heap.lt_size e)) e
    have hn₂ := ((hn.at' fun o e => hk₁ _ o hCw e).at' fun o e => hk₂ _ o hCw e).at' fun o e => he' _ o e
    refine assignInOrder_cons (wpAny_assign_Name (wpAny_storeName_local (lookup_relabel_local hx) hn₂ (fun h₆ hn₆ hs₆ => ?_) (by simp [compEnvC, relabel, hkind])))
    refine assignInOrder_cons (wpAny_assign_Name (wpAny_storeName_local (lookup_relabel_local hx₂) hn₆ (fun h₃ hn₃ hs₃ => ?_) (by simp [compEnvC, relabel, hkind])))
    refine assignInOrder_nil ?_
    have old3 : ∀ b o, b ≠ C → h₂.get? b = some o → h₃.get? b = some o := fun b o hb e => hs₃.extBut b o hb (hs₆.extBut b o hb (he' b o e))
    exact hZ h₃ _ _ (W.frame _ _ _ hst₂ fun b hb o e => old3 b o (fun q => hCf (by rw [← q]; exact hb)) e) hn₃ ⟨v₁, v₂, hPv, by simp [hxx], by simp⟩ fun b o hb hw e => old3 b o hb (hk₂ b o hw (hk₁ b o hw e))
  · intro s E' Z hst hZ
    exact W.done s _ _ hst fun h' tk hk => ⟨rfl, hZ h' tk hk⟩
  · rintro i C oC D ys news own m' h tk gs E' hi hJ' hoC ⟨v₁, v₂, hPv, hv₁, hv₂⟩ F' N' hCD off hown hCf hDf hG
    exact turn i v₁ v₂ C oC D ys news own m' h tk gs E' hi hPv hJ' hoC hv₁ hv₂ F' N' hCD off hown hCf hDf hG
  · intro D C h tk gs m' ys news hJ' F' N' hn hC₀ hCL hCD off hG
    exact comp_fin hy hp F' N' hn hC₀ hCL hCD off fun h' tk' F'' N'' => done D ys news h' tk' gs hJ' F'' N'' (fun p hp => (off p hp).2) hG
end
end Mine
end

section
open PySem PySem.W PyProof.Rows PySem.Spec PySem.Calls Builtin
set_option maxHeartbeats 4000000
namespace Mine
/-- a class that list's own maker makes -/
def makesL (K : Frag) (C : Addr) : Bool := match K.lookup C with
  | some ⟨_, _, .cls cd, sl⟩ => !cd.hasDel && (sl.toList[4]?).join == some (.builtin "list.__new__") && !cd.mro.isEmpty && cd.mro.contains (.ref C) && cd.mro.contains (.type "list") &&
      specialIn K (.ref C) "__call__" == some (some (.builtin "type.__call__")) && instIn K (.ref C) (.type "type") == some true
  | _ => false
structure MakesL (M : Model) (h : Heap) (C : Addr) : Prop where
  obj : ∃ oc od cd sl, h.get? C = some ⟨oc, od, .cls cd, sl⟩ ∧ cd.hasDel = false ∧ cd.mro.isEmpty = false
  made : Looks M h (Bind.madeBy (.ref C)) (some "list.__new__")
  base : Looks M h (Bind.staticBase (.ref C)) (.ref C)
  self : Looks M h (isSubtype (.ref C) (.ref C)) true
  top : Looks M h (isSubtype (.ref C) (.type "list")) true
  call : Looks M h (specialOf (.ref C) "__call__") (some (.builtin "type.__call__"))
  typ : Looks M h (isInstance (.ref C) (.type "type")) true
theorem makesL_of {K : Frag} {M : Model} {h : Heap} (X : K.In h) {C : Addr} (e : makesL K C = true) : MakesL M h C := by
  unfold makesL at e
  split at e
  · rename_i oc od cd sl ho
    simp only [Bool.and_eq_true, Bool.not_eq_true', beq_iff_eq] at e
    obtain ⟨⟨⟨⟨⟨⟨e2, e3⟩, e4⟩, e5⟩, e6⟩, e7⟩, e8⟩ := e
    have hc : clsIn K C = some cd := by unfold clsIn; rw [ho]
    have hm : Looks M h (mroOf (.ref C)) cd.mro := (looks_clsIn X hc).andThen .now
    obtain ⟨c, l, hl⟩ : ∃ c l, cd.mro = c :: l := by cases q : cd.mro with | nil => rw [q] at e4; cases e4 | cons c l => exact ⟨c, l, rfl⟩
    have made : Looks M h (Bind.madeBy (.ref C)) (some "list.__new__") := by
      intro A Q E s k q
      unfold Bind.madeBy
      refine wpAny_bind (hm A _ E s k ?_)
      rw [hl, List.forIn_cons]
      refine wpAny_bind (wpAny_bind (wpAny_bind (wpAny_bind (wpAny_loadPart (k _ _ (X _ _ ho)) (wpAny_pure ?_)))))
      dsimp only
      rw [← Array.getElem?_toList, e3]
      exact wpAny_pure (wpAny_pure (wpAny_pure q))
    refine ⟨⟨oc, od, cd, sl, X _ _ ho, e2, e4⟩, made, ?_, looks_mroIn X ?_, looks_mroIn X ?_, looks_specialIn X e7, looks_instIn X e8⟩
    · intro A Q E s k q
      unfold Bind.staticBase
      refine wpAny_bind (hm A _ E s k ?_)
      rw [hl, List.forIn_cons]
      exact wpAny_bind (wpAny_bind (wpAny_bind (made A _ E s k (wpAny_pure (wpAny_pure (wpAny_pure q))))))
    · unfold mroIn; rw [hc, Option.bind_some, if_neg (by rw [e4]; decide), e5]
    · unfold mroIn; rw [hc, Option.bind_some, if_neg (by rw [e4]; decide), e6]
  · cases e
abbrev pileObj (C dx : Addr) (items : Array Value) (n : Nat) : Obj := { cls := .ref C, dict := some dx, data := .seq items n }

theorem ln_kind : builtinKind "list.__new__" = some .builtinFn := by decide +kernel
theorem ln_split : splitId "list.__new__" = some ("list", "__new__") := by decide +kernel
theorem ln_args (a : Value) : ∀ sig, Manifest.signature? "list.__new__" = some sig → Bind.checkArgs "list.__new__" sig ⟨[a], []⟩ = pure () := by
  intro sig h
  have : argsOk "list.__new__" ⟨[a], []⟩ := by unfold argsOk; kernel_rfl
  simp only [argsOk, h] at this
  exact this

section
variable {prog : Program} {w : World} {A : Around} {K : Frag} {C : Addr} {R : Result → Shared → Prop} {h : Heap} {g : Array GenState} {d : Drawn} {t : Nat} {os : OsState}
theorem newL_K (Y : MakesL (model prog w) h C)
    (hq : R (.ok (.ret (.ref (h.objs.size + 1)))) ⟨(h.push emptyDict).push (pileObj C h.objs.size #[] 0), g, d, t, os⟩) :
    codeAny (model prog w) A (.call (.builtin "list.__new__") ⟨[.ref C], []⟩) R ⟨h, g, d, t, os⟩ := by
  obtain ⟨⟨oc, od, cd, sl, hC, e2, e4⟩, made, base, self, top, call, typ⟩ := Y
  refine codeAny_call_builtin_code (Code.quiet_builtin _ (by decide +kernel)) ?_
  have isT : Looks (model prog w) h (isType (.ref C)) true := ((Looks.ld hC).andThen .now)
  simp only [checkBuiltinCall, ln_kind, ln_split]
  cases hsig : Manifest.signature? "list.__new__" with
  | none => exact absurd hsig (by decide +kernel)
  | some sig =>
    have args := ln_args (.ref C) sig hsig
    dsimp only
    rw [args]
    repeat (first | simp only [bne_self_eq_false, Bool.false_eq_true, if_false, Bool.not_true, if_true, beq_self_eq_true] | lk)
    refine codeAny_builtin_stack F.entry_list_new rfl fun p st => ?_
    have hown := owner_list_new
    simp only [hown]
    repeat (first | simp only [bne_self_eq_false, Bool.false_eq_true, if_false, Bool.not_true, if_true, beq_self_eq_true] | lk)
    refine wpAny_load (Heap.get?_push_of_some _ (Heap.get?_push_of_some _ hC)) (wpAny_pure ?_)
    rw [e2]
    refine wpAny_pure (wpAny_pure ?_)
    show R _ _
    rw [Heap.size_push]
    exact hq

theorem makeL_core {init : Value} (Y : MakesL (model prog w) h C) (hi : Looks (model prog w) h (typeLookup (.ref C) "__init__") (some init))
    (hb : ∀ self, Looks (model prog w) h (bindSpecial init self) (init, [self]))
    (hq : codeAny (model prog w) (A.under (.builtin "type.__call__" ⟨[.ref C], []⟩)) (.call init ⟨[.ref (h.objs.size + 1)], []⟩) (InitBack (h.objs.size + 1) R) ⟨(h.push emptyDict).push (pileObj C h.objs.size #[] 0), g, d, t, os⟩) :
    codeAny (model prog w) A (.call (.ref C) ⟨[], []⟩) R ⟨h, g, d, t, os⟩ := by
  have Y' := Y
  obtain ⟨⟨oc, od, cd, sl, hC, e2, e4⟩, made, base, self, top, call, typ⟩ := Y
  refine codeAny_of_tree ?_
  show wpAny _ _ (callAny (.ref C) _) _ _ _
  refine nd_load hC ?_
  show wpAny _ _ (callAny.viaDunder (.ref C) _) _ _ _
  unfold callAny.viaDunder
  refine wpAny_bind (call.at ?_)
  dsimp only
  rw [tc_bind]
  refine wpAny_bind (wpAny_pure (wpAny_bind (wpAny_pure ?_)))
  refine wpAny_pure (a := Fin.again (.call (.builtin "type.__call__") ⟨[.ref C], []⟩)) (And.intro rfl ?_)
  refine codeAny_call_builtin_at (Code.quiet_builtin _ (by decide +kernel)) entry_typeCall (check_slot tc_kind tc_split typ (tc_args _ _ _) ?_)
  unfold Builtin.«type.__call__»
  have hm : Looks (model prog w) h (mroOf (.ref C)) cd.mro := ((Looks.ld (part := none) hC).andThen .now).andThen .now
  repeat (first | simp only [e4, Bool.false_eq_true, if_false] | with_reducible refine wpAny_call ?_ | lk)
  refine newL_K Y' ?_
  have k : ∀ b o, h.get? b = some o → ((h.push emptyDict).push (pileObj C h.objs.size #[] 0)).get? b = some o := fun b o e => Heap.get?_push_of_some _ (Heap.get?_push_of_some _ e)
  have hx : ((h.push emptyDict).push (pileObj C h.objs.size #[] 0)).get? (h.objs.size + 1) = some (pileObj C h.objs.size #[] 0) := by heap_get
  have t1 : Looks (model prog w) ((h.push emptyDict).push (pileObj C h.objs.size #[] 0)) (typeOf (.ref (h.objs.size + 1))) (.ref C) := (Looks.ld hx).andThen .now
  have s1 := self.keeps k
  have i1 := hi.keeps k
  have b1 := (hb (.ref (h.objs.size + 1))).keeps k
  unfold isInstance callSpecial? specialOf
  repeat (first | with_reducible refine wpAny_call ?_ | lk)
  refine codeAny_mono hq fun r s' z => ?_
  rcases r with e | (v | _ | _ | _) <;> first | exact z | exact z.elim | skip
  obtain ⟨rfl, z⟩ := z
  exact wpAny_pure (wpAny_pure z)
end
section
variable {prog : Program} {w : World} {A : Around} {K : Frag} {C x : Addr} {s : Shared} {h₀ : Heap} {L : Addr} {m : Str → Option Value} {news : List (Addr × Obj)} {R : Result → Shared → Prop}

theorem makeL_K {fI : Addr} (F : Fr h₀ L s.heap m) (N : News h₀ L s.heap news) (X : K.In s.heap) (hm : makesL K C = true)
    (hi : findIn K (.ref C) "__init__" = some (some (.ref fI))) (hf : typeIn K (.ref fI) = some (.type "function"))
    (h : ∀ x dx h', Fr h₀ L h' m → News h₀ L h' ((x, pileObj C dx #[] 0) :: (dx, emptyDict) :: news) → (∀ p ∈ news, p.1 < dx) → dx < x →
      codeAny (model prog w) (A.under (.builtin "type.__call__" ⟨[.ref C], []⟩)) (.call (.ref fI) ⟨[.ref x], []⟩) (InitBack x R) { s with heap := h' }) :
    codeAny (model prog w) A (.call (.ref C) ⟨[], []⟩) R s := by
  obtain ⟨hh, g, d, t, os⟩ := s
  refine makeL_core (makesL_of X hm) (looks_findIn X hi) (fun self => bind_fn X self hf) (h _ hh.objs.size _ ((F.push _).push _) ?_ (fun p hp => Heap.lt_size (N p hp).1) (Nat.lt_succ_self _))
  have := (N.push F emptyDict).push (F.push _) (pileObj C hh.objs.size #[] 0)
  rwa [Heap.size_push] at this
end
theorem makes101 (w : World) : makesL (hd.heap_39 w.params) 101 = true := by
  first | decide +kernel | rfl | (with_unfolding_all rfl)
end Mine
end

section
open PySem PySem.W PyProof.Rows PySem.Spec PySem.Calls Builtin
set_option maxHeartbeats 4000000
namespace Mine
theorem wd_get_slot : Slot "wrapper_descriptor" "__get__" "wrapper_descriptor.__get__" := .of (owner := "wrapper_descriptor") (n := "__get__") (by rw [typeLookup_type, builtinLookup_eq_fast]; kernel_rfl) (by decide +kernel) (by decide +kernel) (by decide +kernel)
  (by first | exact .inl (by decide +kernel) | exact .inr (by decide +kernel)) (by rw [isSubtype_type]; kernel_rfl)
theorem md_get_slot : Slot "method_descriptor" "__get__" "method_descriptor.__get__" := .of (owner := "method_descriptor") (n := "__get__") (by rw [typeLookup_type, builtinLookup_eq_fast]; kernel_rfl) (by decide +kernel) (by decide +kernel) (by decide +kernel)
  (by first | exact .inl (by decide +kernel) | exact .inr (by decide +kernel)) (by rw [isSubtype_type]; kernel_rfl)
theorem wd_get_entry : entryFor table "wrapper_descriptor.__get__" = some Builtin.«wrapper_descriptor.__get__» := entryFor_of_tree (by kernel_rfl)
theorem md_get_entry : entryFor table "method_descriptor.__get__" = some Builtin.«method_descriptor.__get__» := entryFor_of_tree (by kernel_rfl)
theorem wd_get_args (a b c : Value) : argsOk "wrapper_descriptor.__get__" ⟨[a, b, c], []⟩ := by unfold argsOk; kernel_rfl
theorem md_get_args (a b c : Value) : argsOk "method_descriptor.__get__" ⟨[a, b, c], []⟩ := by unfold argsOk; kernel_rfl

theorem sub_of {M : Model} {h : Heap} {C : Addr} {V : Value} (e : V = .type "list") (k : Looks M h (isSubtype (.ref C) (.type "list")) true) : Looks M h (isSubtype (.ref C) V) true := e ▸ k
/-- what the descriptor's get gives -/
structure Gets (i T gid bt : String) : Prop where
  typ : typeOf (.builtin i) = pure (.type T)
  slot : Slot T "__get__" gid
  run : ∃ b, entryFor table gid = some b ∧ (∀ a c d : Value, argsOk gid ⟨[a, c, d], []⟩) ∧ ∀ (M : Model) (A : Around) (E : Value → Shared → Prop) (x C : Addr) (ox : Obj) (h : Heap) (g : Array GenState) (d : Drawn) (t : Nat) (os : OsState) (Q : Fin → Shared → Prop),
    h.get? x = some ox → ox.cls = .ref C → Looks M h (isSubtype (.ref C) (.type "list")) true → Q (.done (.ret (.ref h.objs.size))) ⟨h.push { cls := .type bt, data := .fields #[.builtin i, .ref x] }, g, d, t, os⟩ →
    wpAny M A (b ⟨[.builtin i, .ref x, .ref C], []⟩) Q E ⟨h, g, d, t, os⟩

theorem gets_len : Gets "list.__len__" "wrapper_descriptor" "wrapper_descriptor.__get__" "method-wrapper" := by
  refine ⟨?_, wd_get_slot, _, wd_get_entry, wd_get_args, ?_⟩
  · show builtinType "list.__len__" = _; rw [builtinType_eq_fast]; kernel_rfl
  · intro M A E x C ox h g d t os Q hx hc hi hq
    unfold Builtin.«wrapper_descriptor.__get__»
    repeat (first | (with_reducible refine wpAny_loadPart_at hx ?_; rw [hc]) | (with_reducible refine (sub_of (C := C) ?_ hi).at ?_; · kernel_rfl) | wp_step)
    exact hq
theorem gets_init : Gets "list.__init__" "wrapper_descriptor" "wrapper_descriptor.__get__" "method-wrapper" := by
  refine ⟨?_, wd_get_slot, _, wd_get_entry, wd_get_args, ?_⟩
  · show builtinType "list.__init__" = _; rw [builtinType_eq_fast]; kernel_rfl
  · intro M A E x C ox h g d t os Q hx hc hi hq
    unfold Builtin.«wrapper_descriptor.__get__»
    repeat (first | (with_reducible refine wpAny_loadPart_at hx ?_; rw [hc]) | (with_reducible refine (sub_of (C := C) ?_ hi).at ?_; · kernel_rfl) | wp_step)
    exact hq
theorem told_pop : Manifest.toldItsClass.contains "list.pop" = false := by decide +kernel
theorem gets_pop : Gets "list.pop" "method_descriptor" "method_descriptor.__get__" "builtin_function_or_method" := by
  refine ⟨?_, md_get_slot, _, md_get_entry, md_get_args, ?_⟩
  · show builtinType "list.pop" = _; rw [builtinType_eq_fast]; kernel_rfl
  · intro M A E x C ox h g d t os Q hx hc hi hq
    unfold Builtin.«method_descriptor.__get__»
    have ht := told_pop
    repeat (first | (with_reducible refine wpAny_loadPart_at hx ?_; rw [hc]) | (with_reducible refine (sub_of (C := C) ?_ hi).at ?_; · kernel_rfl) | simp only [ht, Bool.false_eq_true, if_false] | wp_step)
    exact hq

theorem super_ga_b {prog : Program} {w : World} {A : Around} {E : Value → Shared → Prop} {h : Heap} {g : Array GenState} {d : Drawn} {t : Nat} {os : OsState} {i T gid bt : String} (G : Gets i T gid bt)
    {so D x C : Addr} {ox : Obj} {l₀ l : List Value} {K : Frag} {name : Str} {tk : Tok} {Q : Fin → Shared → Prop}
    (hso : h.get? so = some { cls := .type "super", dict := none, data := .fields #[.ref D, .ref x, .ref C], slots := #[] }) (hno : Looks (model prog w) h (opaqueClassAbove (.ref C)) none)
    (hC : Looks (model prog w) h (mroOf (.ref C)) l₀) (hl : (l₀.dropWhile (· != .ref D)).drop 1 = l) (X : K.In h)
    (hf : alongIn K name l = some (some (.builtin i))) (hx : h.get? x = some ox) (hxc : ox.cls = .ref C) (hsub : Looks (model prog w) h (isSubtype (.ref C) (.type "list")) true) (hxC : x ≠ C) (hn : (name == ("__class__" : Str)) = false)
    (hq : Q (.done (.ret (.ref h.objs.size))) ⟨h.push { cls := .type bt, data := .fields #[.builtin i, .ref x] }, g, d, t, os⟩) :
    wpAny (model prog w) A (Builtin.«super.__getattribute__» ⟨[.ref so, .str name tk], []⟩) Q E ⟨h, g, d, t, os⟩ := by
  obtain ⟨b, hb, ha, hrun⟩ := G.run
  have hlk := G.slot.lookup
  have hty := G.typ
  have hne : (Value.ref x == Value.ref C) = false := by simp [hxC]
  have hdt : ({ cls := .type "super", dict := none, data := .fields #[.ref D, .ref x, .ref C], slots := #[] } : Obj).data = .fields #[.ref D, .ref x, .ref C] := rfl
  have f0 : (#[.ref D, .ref x, .ref C] : Array Value)[0]? = some (.ref D) := rfl
  have f1 : (#[.ref D, .ref x, .ref C] : Array Value)[1]? = some (.ref x) := rfl
  have f2 : (#[.ref D, .ref x, .ref C] : Array Value)[2]? = some (.ref C) := rfl
  have hTi : (⟨h, g, d, t, os⟩ : Shared).TypeIs (.builtin i) T := hty
  unfold Builtin.«super.__getattribute__»
  repeat (first
    | (with_reducible refine wpAny_field hso hdt f0 ?_) | (with_reducible refine wpAny_field hso hdt f1 ?_) | (with_reducible refine wpAny_field hso hdt f2 ?_)
    | (with_reducible refine ks_wpAny_notOpaque hno ?_)
    | (with_reducible refine Looks.at hC ?_; rw [hl])
    | (refine ks_forIn_along X (fun _ _ => rfl) rfl ?_ hf)
    | (with_reducible refine wpAny_typeOf hTi ?_)
    | (with_reducible refine wpAny_call_entry G.slot hTi hb ?_ (ha _ _ _))
    | (refine hrun _ _ _ _ _ _ _ _ _ _ _ _ hx hxc hsub ⟨_, rfl, ?_⟩)
    | (with_reducible refine ⟨_, rfl, ?_⟩)
    | (simp only [hn, hne, Bool.or_false, Bool.false_eq_true, if_false])
    | wp_step
    | dsimp only)
  all_goals exact hq

theorem getMethod_super_b {prog : Program} {w : World} {A : Around} {E : Value → Shared → Prop} {h : Heap} {g : Array GenState} {d : Drawn} {t : Nat} {os : OsState} {i T gid bt : String} (G : Gets i T gid bt)
    {so D x C : Addr} {ox : Obj} {l₀ l : List Value} {K : Frag} {name : Str} {pl : Sem Bool} {Q : Value × List Value → Shared → Prop}
    (hso : h.get? so = some { cls := .type "super", dict := none, data := .fields #[.ref D, .ref x, .ref C], slots := #[] }) (hno : Looks (model prog w) h (opaqueClassAbove (.ref C)) none)
    (hC : Looks (model prog w) h (mroOf (.ref C)) l₀) (hl : (l₀.dropWhile (· != .ref D)).drop 1 = l) (X : K.In h)
    (hf : alongIn K name l = some (some (.builtin i))) (hx : h.get? x = some ox) (hxc : ox.cls = .ref C) (hsub : Looks (model prog w) h (isSubtype (.ref C) (.type "list")) true) (hxC : x ≠ C) (hn : (name == ("__class__" : Str)) = false)
    (hq : Q (.ref h.objs.size, []) ⟨h.push { cls := .type bt, data := .fields #[.builtin i, .ref x] }, g, d, t + 1, os⟩) :
    wpAny (model prog w) A (getMethod (.ref so) name pl) Q E ⟨h, g, d, t, os⟩ := by
  have hlk := F.ks_slot_super_ga.lookup
  have hcan := F.ks_canon_super_ga
  have hT : ∀ t', (⟨h, g, d, t', os⟩ : Shared).TypeIs (.ref so) "super" := fun _ => ⟨_, hso, rfl⟩
  unfold getMethod
  refine wpAny_bind (wpAny_specialOf (hT _) hlk ?_)
  show wpAny _ _ (if (Manifest.canonical "super.__getattribute__" != "object.__getattribute__") = true then _ else _) _ _ _
  rw [if_pos hcan]
  unfold getAttr getAttrBy
  refine wpAny_bind (wpAny_bind (wpAny_mkText (wpAny_holding (wpAny_bind (wpAny_typeOf (hT _) (wpAny_bind (wpAny_of_eq hlk ?_)))))))
  show wpAny _ _ (getAttrByItsOwn (.ref so) (.str name t) (.type "super") (.builtin "super.__getattribute__") true false) _ _ _
  unfold getAttrByItsOwn hookBefore callGetattribute boundAndCalled
  refine wpAny_bind (wpAny_of_eq (show (if onTheHeap (.type "super") then typeLookup (.type "super") "__getattr__" else pure none) = pure none from rfl) ?_)
  refine wpAny_bind (wpAny_attempt (wpAny_holding ?_))
  show wpAny _ _ (bindSpecial (.builtin "super.__getattribute__") (.ref so) >>= _) _ _ _
  refine wpAny_bind (wpAny_of_eq (F.ks_slot_super_ga.bind _) ?_)
  refine wpAny_mono (Q := fun v s' => v = .ref h.objs.size ∧ s' = ⟨h.push { cls := .type bt, data := .fields #[.builtin i, .ref x] }, g, d, t + 1, os⟩) (E := fun _ _ => False)
    (wpAny_call_entry F.ks_slot_super_ga (hT _) F.ks_entry_super_ga (super_ga_b G hso hno hC hl X hf hx hxc hsub hxC hn ⟨_, rfl, rfl, rfl⟩) (F.ks_gaArgs_super _ _)) (fun v s' hv => ?_) fun _ _ z => z.elim
  obtain ⟨rfl, rfl⟩ := hv
  exact wpAny_pure (wpAny_pure hq)

abbrev boundB (bt i : String) (x : Addr) : Obj := { cls := .type bt, data := .fields #[.builtin i, .ref x] }
theorem super_method_b {prog : Program} {w : World} {A : Around} {E : Value → Shared → Prop} {s : Shared} {h₀ : Heap} {L : Addr} {m : Str → Option Value} {news : List (Addr × Obj)} {K : Frag} {x C D so : Addr} {ox : Obj} {odx : Option Obj} {i T gid bt : String} (G : Gets i T gid bt)
    {name : Str} {pl : Sem Bool} {Q : Value × List Value → Shared → Prop} (F : Fr h₀ L s.heap m) (X₀ : K.In h₀) (N : News h₀ L s.heap news) (hso : (so, ks_superObj D x C) ∈ news) (I : InstAt s.heap x ox C odx) (ho : nsIn K cStatics "thirdparty.any" = some none)
    (hm : ks_superIn K C D name = some (some (.builtin i))) (hs : mroIn K C (.type "list") = some true) (hn : (name == ("__class__" : Str)) = false)
    (h : ∀ q h', Fr h₀ L h' m → News h₀ L h' ((q, boundB bt i x) :: news) → (∀ p ∈ news, p.1 < q) → Q (.ref q, []) { s with heap := h', toks := s.toks + 1 }) : wpAny (model prog w) A (getMethod (.ref so) name pl) Q E s := by
  have X : K.In s.heap := X₀.keeps F.keep
  obtain ⟨hh, g, d, t, os⟩ := s
  cases hc : clsIn K C with
  | none => unfold ks_superIn at hm; rw [hc] at hm; cases hm
  | some cd =>
    unfold ks_superIn at hm
    rw [hc] at hm
    refine getMethod_super_b G (N _ hso).1 (looks_opaque X ho) (l₀ := cd.mro) ?_ rfl X hm I.at_ I.cls (looks_mroIn X hs) (ks_ne X I hc) hn ?_
    · exact fun A Q E s k q => wpAny_bind ((looks_clsIn X hc) A _ E s k (wpAny_pure q))
    · obtain ⟨F', N', l'⟩ := ks_newsPush (s := ⟨hh, g, d, t, os⟩) (o := boundB bt i x) F N rfl (Heap.get?_push_at rfl rfl) (fun b o e => Heap.get?_push_of_some _ e)
      exact h _ _ F' N' l'
end Mine
end

section
open PySem PySem.W PyProof.Rows PySem.Spec PySem.Calls Builtin Builtin.ObjectAttr Builtin.Getset_descriptor
set_option maxHeartbeats 4000000
namespace Mine
theorem instL {h₀ h : Heap} {L x C dx : Addr} {news : List (Addr × Obj)} {od : Obj} {xs : Array Value} {n : Nat} (N : News h₀ L h news) (h1 : (x, pileObj C dx xs n) ∈ news) (h2 : (dx, od) ∈ news) :
    InstAt h x (pileObj C dx xs n) C (some od) := ⟨(N _ h1).1, rfl, rfl, (N _ h2).1⟩

theorem refuse_list (self : Value) (C : Addr) : refuseLoop self "__setattr__" [.ref C, .type "list", .type "object"] = pure () := by
  rw [refuseLoop_ref]; kernel_rfl

section
variable {prog : Program} {w : World} {A : Around} {E : Value → Shared → Prop} {s : Shared} {K : Frag} {x C dx L : Addr} {h₀ : Heap} {m : Str → Option Value} {R : Result → Shared → Prop}
theorem store_pile {ox od od' : Obj} {cd : ClassData} {name : Str} {tk : Tok} {v : Value} {pre post : List (Addr × Obj)} {es : List DictEntry} {n : Nat} (F : Fr h₀ L s.heap m) (N : News h₀ L s.heap (pre ++ (dx, od) :: post)) (X : K.In s.heap)
    (I : InstAt s.heap x ox C (some od)) (hd : ox.dict = some dx) (hc : clsIn K C = some cd) (hmro : cd.mro = [.ref C, .type "list", .type "object"]) (hd' : cd.hasDict = true) (hsub : subIn K (.ref C) (.type "object") = some true) (ht : takerIn K C name = some none)
    (hl : (lookIn name od).isSome = true) (h1 : ∀ p ∈ pre, p.1 ≠ dx) (h2 : ∀ p ∈ post, p.1 ≠ dx)
    (e : Obj.putName name (PyData.keyHash w.params name) (.str name s.toks) v od = od') (e' : od'.data = .dict es.toArray n) (hz : es.length ≤ 1000)
    (h : ∀ h', Fr h₀ L h' m → News h₀ L h' (pre ++ (dx, od') :: post) → R (.ok (.ret .none)) { s with heap := h', toks := s.toks + 1 }) :
    codeAny (model prog w) A (.call (.builtin "object.__setattr__") ⟨[.ref x, .str name tk, v], []⟩) R s := by
  have SF := PySem.F.store_object
  have hm : Looks (model prog w) s.heap (mroOf (.ref C)) cd.mro := (looks_clsIn X hc).andThen .now
  refine codeAny_call_builtin SF.slot.plain SF.entry (@check_slot (model prog w) _ _ s "object.__setattr__" "object" "__setattr__" (.ref x) [.str name tk, v] [] _ SF.kind SF.split (I.type.andThen (looks_subIn X hsub)) (SF.args (.ref x) (.str name tk) v) ?_)
  obtain ⟨attr, ha, hr⟩ := Option.bind_eq_some_iff.mp ht
  have L3 : Looks (model prog w) s.heap (storeTaker? attr) none := by
    cases attr with
    | none => exact .now
    | some a =>
      obtain ⟨b, hb, hr⟩ := Option.map_eq_some_iff.mp hr
      refine (looks_takesIn X hb).andThen ?_
      cases b
      · exact .now
      · cases hr
  rw [osa_eq, refuse_eq]
  refine wpAny_bind (wpAny_bind (I.type.here (wpAny_bind (hm.here ?_))))
  rw [hmro, refuse_list]
  refine wpAny_pure (wpAny_bind (I.type.here (wpAny_bind ((looks_findIn X ha).here (wpAny_bind (L3.here ?_))))))
  obtain ⟨U1, U2⟩ := news_upd (f := Obj.putName name (PyData.keyHash w.params name) (.str name s.toks) v) F N h1 h2 e (by obtain ⟨_, _, dd, _⟩ := od'; cases e'; rfl)
  have D := (N (dx, od) (by simp)).1
  have D' := (U2 (dx, od') (by simp)).1
  obtain ⟨hx, hcl, hn, -⟩ := I
  obtain ⟨oc, odi, oda, osl⟩ := ox
  dsimp only at hcl hd
  subst hcl hd
  refine wpAny_bind (wpAny_pure (wpAny_bind (wpAny_bind (wpAny_loadPart hx (wpAny_bind ((looks_clsIn X hc).here ?_))))))
  rw [hd']
  refine wpAny_pure (a := some dx) (wpAny_bind (wpAny_pure (wpAny_bind ?_)))
  unfold nsSet
  refine wpAny_bind (wpAny_bind (wpAny_askSetting (wpAny_pure (wpAny_bind (wpAny_mkText (wpAny_bind (wpAny_loadPart D ?_)))))))
  unfold lookIn at hl
  split at hl
  · rename_i es₀ n₀ q
    rw [q]
    dsimp only
    have c : (!es₀.any (·.key.isStr name) && es₀.any (·.refKey)) = false := by
      rw [← Array.any_toList, ← Array.any_toList]
      split at hl
      · rename_i en he
        rw [List.any_eq_true.mpr ⟨en, List.mem_of_find?_eq_some he, List.find?_some he⟩]; rfl
      · split at hl
        · cases hl
        · rename_i z; rw [Bool.not_eq_true] at z; rw [z, Bool.and_false]
    rw [aRefKeyMayBeTheName_at, c]
    refine wpAny_updatePart D ?_
    refine wpAny_bind (wpAny_lookBehind D' (by rw [e']; exact pastItsLine_dict (by rw [List.size_toArray, sizeLine_eq]; omega)) ?_)
    exact wpAny_pure (h _ U1 U2)
  · cases hl
end

/-- the def's own dict after its maker -/
abbrev sizeDict (w : World) (t : Tok) (v : Value) : Obj := dictOf (putL "_initial_size" (PyData.keyHash w.params "_initial_size") (.str "_initial_size" t) v []) (putN "_initial_size" [] 0)

theorem pile_setattr {prog : Program} {w : World} {A : Around} {E : Value → Shared → Prop} {s : Shared} {x dx L : Addr} {h₀ : Heap} {m : Str → Option Value} {xs : Array Value} {n : Nat} {news : List (Addr × Obj)} {v : Value} {Q : Unit → Shared → Prop}
    (F : Fr h₀ L s.heap m) (N : News h₀ L s.heap ((x, pileObj 101 dx xs n) :: (dx, dictOf [] 0) :: news)) (X₀ : (hd.heap_39 w.params).In h₀) (hxd : x ≠ dx) (hdn : ∀ p ∈ news, p.1 ≠ dx)
    (h : ∀ h', Fr h₀ L h' m → News h₀ L h' ((x, pileObj 101 dx xs n) :: (dx, sizeDict w (s.toks + 1) v) :: news) → Q () { s with heap := h', toks := s.toks + 2 }) :
    wpAny (model prog w) A (setAttr (.ref x) "_initial_size" v) Q E s := by
  obtain ⟨cd, hc, hmro, hd'⟩ : ∃ cd, clsIn (hd.heap_39 w.params) 101 = some cd ∧ cd.mro = [.ref 101, .type "list", .type "object"] ∧ cd.hasDict = true := ⟨_, by with_unfolding_all rfl, by with_unfolding_all rfl, by with_unfolding_all rfl⟩
  have X := X₀.keeps F.keep
  have I := instL N (.head _) (.tail _ (.head _))
  refine set_plain X I (by first | decide +kernel | kernel_rfl) ?_
  refine store_pile (s := { s with toks := s.toks + 1 }) (es := putL "_initial_size" (PyData.keyHash w.params "_initial_size") (.str "_initial_size" (s.toks + 1)) v []) (n := putN "_initial_size" [] 0)
    (pre := [(x, pileObj 101 dx xs n)]) (post := news) (dx := dx) (od := dictOf [] 0) (od' := sizeDict w (s.toks + 1) v) F N X I rfl hc hmro hd' (by first | decide +kernel | kernel_rfl) (by first | decide +kernel | kernel_rfl) (by rfl) (by intro p hp; rcases List.mem_singleton.mp hp with rfl; exact hxd) hdn ?_ rfl ?_ ?_
  · rw [putName_dict]
  · exact Nat.le_of_ble_eq_true rfl
  · exact fun h' F' N' => h h' F' N'
end Mine
end

section
open PySem PySem.W PyProof.Rows PySem.Spec PySem.Calls Builtin Builtin.ObjectAttr Builtin.Getset_descriptor
set_option maxHeartbeats 4000000
namespace Mine
theorem check_meth {M : Model} {A : Around} {E : Value → Shared → Prop} {s : Shared} {i owner n : String} {self : Value} {rest : List Value} {kw : List (Str × Value)} {Q : Unit → Shared → Prop}
    (hk : builtinKind i = some .method) (hs : splitId i = some (owner, n)) (hi : Looks M s.heap (isInstance self (.type owner)) true) (ha : argsOk i ⟨self :: rest, kw⟩) (q : Q () s) :
    wpAny M A (checkBuiltinCall i ⟨self :: rest, kw⟩) Q E s := by
  simp only [checkBuiltinCall, hk, hs]
  refine wpAny_bind (hi.here ?_)
  simp only [Bool.not_true, Bool.false_eq_true, if_false]
  cases hsig : Manifest.signature? i with
  | none => exact wpAny_pure q
  | some sig =>
    simp only [argsOk, hsig] at ha
    have h2 : Bind.checkArgs i sig ⟨self :: rest, kw⟩ = pure () := ha
    show wpAny M A (Bind.checkArgs i sig ⟨self :: rest, kw⟩) Q E s
    rw [h2]; exact wpAny_pure q

section
variable {prog : Program} {w : World} {A : Around} {E : Value → Shared → Prop} {s : Shared} {K : Frag} {x C dx L : Addr} {h₀ : Heap} {m : Str → Option Value} {R : Result → Shared → Prop} {news news' : List (Addr × Obj)}

theorem la_kind : builtinKind "list.append" = some .method := by decide +kernel
theorem la_split : splitId "list.append" = some ("list", "append") := by decide +kernel
theorem la_args (a b : Value) : argsOk "list.append" ⟨[a, b], []⟩ := by unfold argsOk; kernel_rfl
theorem la_entry : entryFor table "list.append" = some Builtin.«list.append» := entryFor_of_tree (by kernel_rfl)
theorem la_plain : plainId "list.append" = true := by decide +kernel

theorem append_pile {its : Array Value} {n : Nat} {v : Value} {Q : Value → Shared → Prop} (F : Fr h₀ L s.heap m) (N : News h₀ L s.heap news) (hsub : Looks (model prog w) s.heap (isSubtype (.ref C) (.type "list")) true)
    (U : Upd x (pileObj C dx its n) (pileObj C dx (its.push v) (n + 1)) news news') (hsz : its.size ≤ 1000)
    (h : ∀ h', Fr h₀ L h' m → News h₀ L h' news' → Q .none { s with heap := h' }) : wpAny (model prog w) A (call (.builtin "list.append") [.ref x, v]) Q E s := by
  obtain ⟨pre, post, rfl, rfl, a, b⟩ := U.split
  have z := N (x, pileObj C dx its n) (List.mem_append.mpr (.inr (.head _)))
  have hT : Looks (model prog w) s.heap (typeOf (.ref x)) (.ref C) := (Looks.ld z.1).andThen .now
  refine wpAny_call (codeAny_call_builtin la_plain la_entry (@check_meth (model prog w) _ _ s "list.append" "list" "append" (.ref x) [v] [] _ la_kind la_split (hT.andThen hsub) (la_args _ _) ?_))
  unfold Builtin.«list.append»
  refine wpAny_bind (wpAny_of_eq (show selfAndOne "list.append" ⟨[.ref x, v], []⟩ = pure (.ref x, v) from rfl) ?_)
  show wpAny _ _ (List.listUpdate (.ref x) (·.push v) >>= fun _ => ret .none) _ _ _
  refine wpAny_bind (wpAny_updateSeq z.1 rfl ?_ (by rw [sizeLine_eq]; omega) (by rw [sizeLine_eq, Array.size_push]; omega))
  obtain ⟨U1, U2⟩ := news_upd (f := Obj.mapSeq (·.push v)) (o' := pileObj C dx (its.push v) (n + 1)) F N a b (by simp [Obj.mapSeq]) rfl
  exact wpAny_pure (h _ U1 U2)

theorem ll_kind : builtinKind "list.__len__" = some .slot := by decide +kernel
theorem ll_entry : entryFor table "list.__len__" = some Builtin.«list.__len__» := entryFor_of_tree (by kernel_rfl)
theorem ll_args (a : Value) : argsOk "list.__len__" ⟨[a], []⟩ := by unfold argsOk; kernel_rfl
theorem li_kind : builtinKind "list.__init__" = some .slot := by decide +kernel
theorem li_entry : entryFor table "list.__init__" = some Builtin.«list.__init__» := entryFor_of_tree (by kernel_rfl)
theorem li_args (a : Value) : argsOk "list.__init__" ⟨[a], []⟩ := by unfold argsOk; kernel_rfl
theorem lp_kind : builtinKind "list.pop" = some .method := by decide +kernel
theorem lp_entry : entryFor table "list.pop" = some Builtin.«list.pop» := entryFor_of_tree (by kernel_rfl)

/-- a bound builtin slot is called -/
theorem call_boundSlot {i bt : String} {b : Builtin} {Q : Value → Shared → Prop} {q : Addr} (hbt : bt = "method-wrapper") (N : News h₀ L s.heap news) (hq : (q, boundB bt i x) ∈ news) (hk : builtinKind i = some .slot)
    (ha : argsOk i ⟨[.ref x], []⟩) (hqt : Code.quiet (.builtin i ⟨[.ref x], []⟩) = true) (hb : entryFor table i = some b)
    (h : wpAny (model prog w) (A.under (.builtin i ⟨[.ref x], []⟩)) (b ⟨[.ref x], []⟩) (fun fin s' => match fin with | .done (.ret v) => Q v s' | _ => False) (fun e s' => E e s') s) :
    wpAny (model prog w) A (call (.ref q) []) Q E s := by
  subst hbt
  refine wpAny_call (codeAny_of_tree ?_)
  show wpAny _ A.in1 (callAny (.ref q) ⟨[], []⟩) _ _ _
  unfold callAny
  refine wpAny_bind (wpAny_load (N _ hq).1 ?_)
  dsimp only
  have c1 : (Value.type "method-wrapper" == Value.type "method" || Value.type "method-wrapper" == Value.type "builtin_function_or_method" || Value.type "method-wrapper" == Value.type "method-wrapper") = true := by decide +kernel
  have c2 : (Value.type "method-wrapper" != Value.type "method") = true := by decide +kernel
  simp only [c1, c2, if_true]
  show wpAny _ _ (checkBoundCall i ⟨[.ref x], []⟩ >>= fun _ => again (.builtin i ⟨[.ref x], []⟩)) _ _ _
  have hc : checkBoundCall i ⟨[.ref x], []⟩ = pure () := by
    unfold checkBoundCall
    cases hsig : Manifest.signature? i with
    | none => rfl
    | some sig =>
      simp only [argsOk, hsig] at ha
      have h2 : Bind.checkArgs i sig ⟨[.ref x], []⟩ = pure () := ha
      simp only [hk]
      exact h2
  rw [hc]
  refine wpAny_pure ⟨hqt, codeAny_builtin hb (wpAny_mono h (fun fin s' z => ?_) fun _ _ z => z)⟩
  rcases fin with (_ | _ | _ | _) | _ <;> first | exact z | exact z.elim

theorem len_pile {its : Array Value} {n : Nat} {q : Addr} {Q : Value → Shared → Prop} (N : News h₀ L s.heap news) (hq : (q, boundB "method-wrapper" "list.__len__" x) ∈ news) (hx : (x, pileObj C dx its n) ∈ news)
    (h : Q (.int its.size s.toks) { s with toks := s.toks + 1 }) : wpAny (model prog w) A (call (.ref q) []) Q E s := by
  refine call_boundSlot rfl N hq ll_kind (ll_args _) (Code.quiet_builtin _ (by decide +kernel)) ll_entry ?_
  unfold Builtin.«list.__len__»
  have z := (N _ hx).1
  refine wpAny_bind (wpAny_of_eq (show slotArgs "__len__" 0 ⟨[.ref x], []⟩ = pure (.ref x, []) from rfl) ?_)
  show wpAny _ _ (seqSize x >>= fun n => retInt n) _ _ _
  refine wpAny_bind (wpAny_bind (wpAny_loadPart z ?_))
  exact wpAny_pure (wpAny_bind (wpAny_mkInt (wpAny_pure h)))

theorem init_pile {q : Addr} {Q : Value → Shared → Prop} (F : Fr h₀ L s.heap m) (N : News h₀ L s.heap news) (hq : (q, boundB "method-wrapper" "list.__init__" x) ∈ news) (hx : (x, pileObj C dx #[] 0) ∈ news)
    (U : Upd x (pileObj C dx #[] 0) (pileObj C dx #[] 0) news news')
    (h : ∀ h', Fr h₀ L h' m → News h₀ L h' news' → Q .none { s with heap := h' }) : wpAny (model prog w) A (call (.ref q) []) Q E s := by
  refine call_boundSlot rfl N hq li_kind (li_args _) (Code.quiet_builtin _ (by decide +kernel)) li_entry ?_
  unfold Builtin.«list.__init__»
  have z := (N _ hx).1
  obtain ⟨pre, post, rfl, rfl, a, b⟩ := U.split
  show wpAny _ _ (List.listItems (.ref x) >>= fun old => List.listUpdate (.ref x) (fun _ => #[]) >>= fun _ => letGo old.toList.reverse >>= fun _ => ret .none) _ _ _
  refine wpAny_bind (wpAny_bind (wpAny_seqItems z rfl (wpAny_pure ?_)))
  refine wpAny_bind (wpAny_updateSeq z rfl ?_)
  obtain ⟨U1, U2⟩ := news_upd (f := Obj.mapSeq (fun _ => #[])) (o' := pileObj C dx #[] 0) F N a b (by simp [Obj.mapSeq]) rfl
  exact wpAny_bind (wpAny_pure (wpAny_pure (h _ U1 U2)))

theorem seqIndex_last (n : Nat) (hn : 0 < n) : seqIndex? (-1) n = some (n - 1) := by
  unfold seqIndex?
  simp
  omega

theorem erase_last {α : Type} (xs : Array α) (v : α) : (xs.push v).eraseIdxIfInBounds xs.size = xs := by
  rw [Array.eraseIdxIfInBounds, dif_pos (by simp)]
  apply Array.ext'
  simp [List.eraseIdx_append_of_length_le]
theorem lp_sig (x : Addr) : (match Manifest.signature? "list.pop" with | some sig => Bind.checkArgs "list.pop" { sig with full := s!"{"_Accumulator"}.{Bind.lastOf "list.pop"}" } ⟨[.ref x], []⟩ | none => pure ()) = pure () := by kernel_rfl
theorem lp_var : Manifest.varargsMethods.contains "list.pop" = false := by decide +kernel
theorem pop_pile {its : Array Value} {n : Nat} {q : Addr} {v : Value} {Q : Value → Shared → Prop} (F : Fr h₀ L s.heap m) (N : News h₀ L s.heap news) (hq : (q, boundB "builtin_function_or_method" "list.pop" x) ∈ news) (hx : (x, pileObj C dx (its.push v) n) ∈ news)
    (hC : ∃ oc cd, s.heap.get? C = some oc ∧ oc.cls = .type "type" ∧ oc.data = .cls cd ∧ cd.qualname.toString = "_Accumulator") (hsz : its.size ≤ 1000) (hmod : Looks (model prog w) s.heap (isSubtype (.ref C) (.type "module")) false)
    (U : Upd x (pileObj C dx (its.push v) n) (pileObj C dx its (n + 1)) news news')
    (h : ∀ h', Fr h₀ L h' m → News h₀ L h' news' → Q v { s with heap := h' }) : wpAny (model prog w) A (call (.ref q) []) Q E s := by
  have z := (N _ hx).1
  have hT : Looks (model prog w) s.heap (typeOf (.ref x)) (.ref C) := (Looks.ld z).andThen .now
  refine wpAny_call (codeAny_of_tree ?_)
  show wpAny _ A.in1 (callAny (.ref q) ⟨[], []⟩) _ _ _
  unfold callAny
  refine wpAny_bind (wpAny_load (N _ hq).1 ?_)
  dsimp only
  have c1 : (Value.type "builtin_function_or_method" == Value.type "method" || Value.type "builtin_function_or_method" == Value.type "builtin_function_or_method" || Value.type "builtin_function_or_method" == Value.type "method-wrapper") = true := by decide +kernel
  have c2 : (Value.type "builtin_function_or_method" != Value.type "method") = true := by decide +kernel
  simp only [c1, c2, if_true]
  show wpAny _ _ (checkBoundCall "list.pop" ⟨[.ref x], []⟩ >>= fun _ => again (.builtin "list.pop" ⟨[.ref x], []⟩)) _ _ _
  refine wpAny_bind ?_
  obtain ⟨oc, cd, hC1, hC2, hC3, hC4⟩ := hC
  have hnt : Looks (model prog w) s.heap (isType (.ref x)) false := (Looks.ld z).andThen .now
  have hcd : Looks (model prog w) s.heap (classData C) cd := (Looks.ld hC1).andThen (by rw [hC3]; exact .now)
  have hcc : Looks (model prog w) s.heap (typeOf (.ref C)) (.type "type") := (Looks.ld hC1).andThen (by rw [hC2]; exact .now)
  have hb : wpAny (model prog w) (A.under (.builtin "list.pop" ⟨[.ref x], []⟩)) (Builtin.«list.pop» ⟨[.ref x], []⟩) (fun fin s' => match fin with | .done (.ret v) => Q v s' | _ => False) (fun e s' => E e s') s := by
    unfold Builtin.«list.pop»
    refine wpAny_bind (wpAny_of_eq (show selfAndSome "list.pop" "pop" 0 1 ⟨[.ref x], []⟩ = pure (.ref x, []) from rfl) ?_)
    show wpAny _ _ (List.listItems (.ref x) >>= _) _ _ _
    refine wpAny_bind (wpAny_bind (wpAny_seqItems z rfl (wpAny_pure ?_)))
    have he : (its.push v).isEmpty = false := by simp
    have hsx : (seqIndex? (-1) (its.push v).size).bind (fun k => (its.push v)[k]?.map (k, ·)) = some (its.size, v) := by
      rw [seqIndex_last _ (by simp)]; simp
    rw [he]
    show wpAny _ _ (match (seqIndex? (-1) (its.push v).size).bind (fun k => (its.push v)[k]?.map (k, ·)) with
      | some (k, y) => List.listUpdate (.ref x) (·.eraseIdxIfInBounds k) >>= fun _ => ret y
      | none => rule "list.pop.out-of-range" >>= fun _ => raiseErrorWords "IndexError" "pop index out of range") _ _ _
    rw [hsx]
    refine wpAny_bind (wpAny_updateSeq z rfl ?_ (by rw [sizeLine_eq, Array.size_push]; omega) (by rw [sizeLine_eq]; simp [Array.eraseIdxIfInBounds]; omega))
    obtain ⟨pre, post, rfl, rfl, a, b⟩ := U.split
    obtain ⟨U1, U2⟩ := news_upd (f := Obj.mapSeq (·.eraseIdxIfInBounds its.size)) (o' := pileObj C dx its (n + 1)) F N a b (by simp only [Obj.mapSeq, erase_last]; simp) rfl
    exact wpAny_pure (h _ U1 U2)
  refine wpAny_mono (Q := fun _ s' => s' = s) (E := fun _ _ => False) ?_ (fun _ s' e => ?_) fun _ _ z => z.elim
  · unfold checkBoundCall
    have hs0 := lp_sig x
    have hv := lp_var
    cases hsig : Manifest.signature? "list.pop" with
    | none => exact absurd hsig (by decide +kernel)
    | some sig =>
      rw [hsig] at hs0
      dsimp only at hs0 ⊢
      simp only [lp_kind]
      rw [if_neg (by decide)]
      refine wpAny_bind ((hT.andThen hmod).here ?_)
      rw [hv, if_neg (by decide)]
      refine wpAny_bind (hnt.here ?_)
      rw [if_neg (by decide)]
      refine wpAny_bind (hT.here ?_)
      refine wpAny_bind (hcd.here (wpAny_bind (hcc.here ?_)))
      rw [if_pos (by decide), hC4]
      refine wpAny_of_eq hs0 ?_
      rfl
  · subst e
    refine wpAny_pure ⟨Code.quiet_builtin _ (by decide +kernel), codeAny_builtin lp_entry (wpAny_mono hb (fun fin s' z => ?_) fun _ _ z => z)⟩
    rcases fin with (_ | _ | _ | _) | _ <;> first | exact z | exact z.elim

theorem callWith_B0 {M : Model} {env : Env} {pos : Pos} {q : Addr} {bt i : String} {first : List Value} {Q : Value → Shared → Prop} (hbt : bt = "method-wrapper" ∨ bt = "builtin_function_or_method") (X : s.heap.get? q = some (boundB bt i x))
    (h : wpAny M A (call (.ref q) (first ++ [])) Q E s) : wpAny M A (callWith pos (.ref q) first (backTo pos (starEach [] env)) []) Q E s :=
  callWith_of (P := fun h => h.get? q = some (boundB bt i x)) rfl (fun h e => ⟨.machine, .inr (.inl rfl), by
    rcases hbt with rfl | rfl
    · exact (Looks.ld (part := none) e).andThen .now
    · exact (Looks.ld (part := none) e).andThen .now⟩) (evalArgs_nil3 ⟨X, h⟩)
end
end Mine
end

section
open PySem PySem.W PyProof.Rows PySem.Spec PySem.Calls Builtin
set_option maxHeartbeats 4000000
namespace Mine
/-- an object that holds items as a list does, of whatever class -/
def HoldsSeq (h : Heap) (a : Addr) (items : Array Value) : Prop := ∃ o, h.get? a = some o ∧ ∃ n, o.data = .seq items n

section
variable {prog : Program} {w : World} {A : Around} {E : Value → Shared → Prop} {s : Shared}
theorem next_seq_item {it l : Addr} {i : Nat} {items} {x : Value} {Q : Option Value → Shared → Prop} (hit : s.heap.IsListIter it l i)
    (hl : HoldsSeq s.heap l items) (hx : items[i]? = some x)
    (hQ : ∀ h', h'.IsListIter it l (i + 1) → Heap.SameBut it s.heap h' → Q (some x) { s with heap := h' }) :
    wpAny (model prog w) A (pyNext (.ref it)) Q E s := by
  obtain ⟨o, ho, hc, hd⟩ := id hit
  obtain ⟨ol, hol, nl, hdl⟩ := hl
  unfold pyNext
  refine wpAny_bind (wpAny_attempt (wpAny_callSpecial?_slot (name := Str.ofString "__next__") hit.typeIs slot_listiter_next
    (wpAny_call_entry slot_listiter_next hit.typeIs entry_listiter_next ?_ (args_listiter_next _))))
  show wpAny _ _ (field (.ref it) 0 >>= _) _ _ s
  refine wpAny_bind (wpAny_field ho hd (x := .ref l) rfl ?_)
  show wpAny _ _ (if (Value.ref l == Value.none) = true then _ else _) _ _ s
  rw [if_neg (show ¬ ((Value.ref l == Value.none) = true) from Bool.false_ne_true)]
  show wpAny _ _ (field (.ref it) 1 >>= _) _ _ s
  refine wpAny_bind (wpAny_field ho hd (x := .int i 0) rfl ?_)
  show wpAny _ _ (seqItems? (.ref l) >>= _) _ _ s
  refine wpAny_bind (wpAny_seqItems hol hdl ?_)
  simp only [Int.toNat_natCast, hx]
  refine wpAny_bind (wpAny_setField ho hd (by simp) (wpAny_pure ⟨x, rfl, wpAny_pure (hQ _ ?_ (Heap.SameBut.update ..))⟩))
  exact ⟨_, Heap.get?_update_self _ ho (Obj.isFreed_of_fields (Obj.data_mapFields hd _)), (Obj.cls_mapFields ..).trans hc, by
    rw [Obj.data_mapFields hd]; simp [rawInt]⟩

theorem next_seq_end {it l : Addr} {i : Nat} {items} {Q : Option Value → Shared → Prop} (hh : A.handled = none)
    (hit : s.heap.IsListIter it l i) (hl : HoldsSeq s.heap l items) (hx : items[i]? = none)
    (hQ : ∀ h', Heap.ExtBut it s.heap h' → Q none { s with heap := h' }) : wpAny (model prog w) A (pyNext (.ref it)) Q E s := by
  obtain ⟨o, ho, hc, hd⟩ := id hit
  obtain ⟨ol, hol, nl, hdl⟩ := hl
  unfold pyNext
  refine wpAny_bind (wpAny_attempt (wpAny_callSpecial?_slot (name := Str.ofString "__next__") hit.typeIs slot_listiter_next
    (wpAny_call_entry slot_listiter_next hit.typeIs entry_listiter_next ?_ (args_listiter_next _))))
  show wpAny _ _ (field (.ref it) 0 >>= _) _ _ s
  refine wpAny_bind (wpAny_field ho hd (x := .ref l) rfl ?_)
  show wpAny _ _ (if (Value.ref l == Value.none) = true then _ else _) _ _ s
  rw [if_neg (show ¬ ((Value.ref l == Value.none) = true) from Bool.false_ne_true)]
  show wpAny _ _ (field (.ref it) 1 >>= _) _ _ s
  refine wpAny_bind (wpAny_field ho hd (x := .int i 0) rfl ?_)
  show wpAny _ _ (seqItems? (.ref l) >>= _) _ _ s
  refine wpAny_bind (wpAny_seqItems hol hdl ?_)
  simp only [Int.toNat_natCast, hx]
  refine wpAny_bind (wpAny_rule (wpAny_bind (wpAny_setField ho hd (by simp) ?_)))
  show wpAny _ _ (newExc (.type "StopIteration") [] >>= _) _ _ _
  refine wpAny_bind ?_
  simp only [newExc, newTuple]
  refine wpAny_bind (wpAny_newObj_type ?_ (by size_fits))
  refine wpAny_bind (m := firstArgMember _ _) (wpAny_of_eq (a := Value.none) (by first | rfl | (simp only [firstArgMember]; rfl)) ?_)
  refine wpAny_newObj_type ?_ (by size_fits)
  simp only [raiseNew]
  refine wpAny_bind (wpAny_handled ?_)
  rw [show A.in1.handled = none from hh]
  refine wpAny_bind (wpAny_pure (wpAny_throw ?_))
  refine wpAny_bind (wpAny_isInstance (T := "StopIteration") (b := true) ⟨_, Heap.get?_push_size _ rfl, rfl⟩ isSubtype_stop ?_)
  exact wpAny_pure (hQ _ (((Heap.SameBut.update ..).extBut.push _).push _))
end

theorem HoldsSeq.at {h h' : Heap} {a : Addr} {items : Array Value} (x : HoldsSeq h a items) (k : ∀ o, h.get? a = some o → h'.get? a = some o) : HoldsSeq h' a items := let ⟨o, ho, r⟩ := x; ⟨o, k o ho, r⟩

theorem walksPile {prog : Program} {w : World} {A : Around} (hh : A.handled = none) (I ax : Addr) (hne : ax ≠ I) (items : Array Value) (Ts : Nat → Addr) (vals : Nat → Array Value)
    (hit : ∀ j, j < items.size → items[j]? = some (.ref (Ts j))) (hTI : ∀ j, j < items.size → Ts j ≠ I) :
    WalksU prog w A I (I :: ax :: (List.range items.size).map Ts) [I] items.size (fun j v => v = vals j)
      (fun j h => h.IsListIter I ax j ∧ HoldsSeq h ax items ∧ ∀ k, k < items.size → h.IsTuple (Ts k) (vals k))
      (fun j T h => (j < items.size ∧ T = Ts j) ∧ h.IsListIter I ax (j + 1) ∧ HoldsSeq h ax items ∧ ∀ k, k < items.size → h.IsTuple (Ts k) (vals k)) where
  sub := fun b hb => by simp at hb; simp [hb]
  frame := fun _ _ _ st hk => ⟨st.1.at fun o e => hk I (by simp) o e, st.2.1.at fun o e => hk ax (by simp) o e,
    fun k hk' => (st.2.2 k hk').at fun o e => hk (Ts k) (List.mem_cons_of_mem _ (List.mem_cons_of_mem _ (List.mem_map.mpr ⟨k, List.mem_range.mpr hk', rfl⟩))) o e⟩
  item := fun i s Q E hi st hQ => by
    refine next_seq_item st.1 st.2.1 (x := .ref (Ts i)) (hit i hi) fun h' hit' hs' => ?_
    have tup : ∀ k, k < items.size → h'.IsTuple (Ts k) (vals k) := fun k hk' => (st.2.2 k hk').extBut hs'.extBut (hTI k hk')
    exact hQ (Ts i) (vals i) h' s.toks rfl (tup i hi) ⟨⟨hi, rfl⟩, hit', st.2.1.at fun o e => hs'.extBut ax o hne e, tup⟩ fun b o hb e => hs'.extBut b o (fun h => hb (by simp [h])) e
  go := fun _ _ _ _ _ s Q _ hm hQ => wpAny_letOwnedTupleGo_listiter hm.2.1 (hQ s.heap hm.2 fun _ _ _ e => e)
  apart := fun j T _ hm hmem => by
    rcases List.mem_cons.mp hmem with e | e
    · exact hTI j hm.1.1 (hm.1.2 ▸ e)
    · cases e
  done := fun s Q E st hQ => next_seq_end hh st.1 st.2.1 (by simp) fun h' he' => hQ h' s.toks fun b o hb e => he' b o (fun h => hb (by simp [h])) e
  self := fun _ _ _ _ st hQ => wpAny_pyIter_listiter st.1 hQ

section
variable {prog : Program} {w : World} {A : Around} {E : Value → Shared → Prop} {s : Shared} {K : Frag} {x C : Addr} {ox : Obj} {od : Option Obj}
theorem callIter_pile {refuse : Sem Value} {Q : Option Value → Shared → Prop} (X : K.In s.heap) (I : InstAt s.heap x ox C od) (hf : findIn K (.ref C) "__iter__" = some (some (.builtin "list.__iter__")))
    (hc : wpAny (model prog w) A (call (.builtin "list.__iter__") [.ref x]) (fun v => Q (some v)) E s) : wpAny (model prog w) A (callSpecialIfBoundUnlessNone? (.ref x) "__iter__" refuse) Q E s := by
  simp only [callSpecialIfBoundUnlessNone?, bindSpecialIfBound?, specialOf]
  refine wpAny_holding (wpAny_bind (wpAny_bind (wpAny_bind (I.type.here ((looks_findIn X hf).here ?_)))))
  simp only [slot_list_iter.bind]
  refine wpAny_bind (wpAny_askSetting (wpAny_ite ?_))
  have fin : wpAny (model prog w) A (if (Value.builtin "list.__iter__" == Value.none) = true then (refuse >>= fun v => pure (some v)) else (call (.builtin "list.__iter__") [.ref x] >>= fun v => pure (some v))) Q E s := by
    simp only [builtin_beq_none, Bool.false_eq_true, if_false]
    exact wpAny_bind (wpAny_mono hc (fun v s' h' => wpAny_pure h') fun _ _ h' => h')
  split
  · exact wpAny_bind (wpAny_pure (wpAny_pure fin))
  · exact wpAny_tryCatch (wpAny_bind (wpAny_pure (wpAny_pure fin)))

theorem lit_kind : builtinKind "list.__iter__" = some .slot := by decide +kernel
theorem lit_split : splitId "list.__iter__" = some ("list", "__iter__") := by decide +kernel
theorem iter_pile {Q : Value → Shared → Prop} (X : K.In s.heap) (I : InstAt s.heap x ox C od) (hf : findIn K (.ref C) "__iter__" = some (some (.builtin "list.__iter__"))) (hsub : subIn K (.ref C) (.type "list") = some true)
    (hQ : Q (.ref s.heap.objs.size) { s with heap := s.heap.push { cls := .type "list_iterator", data := .fields #[.ref x, .int 0 0] } }) :
    wpAny (model prog w) A (pyIter (.ref x)) Q E s := by
  unfold pyIter specialOf
  refine wpAny_bind (wpAny_bind (I.type.here ((looks_findIn X hf).here ?_)))
  dsimp only
  refine wpAny_bind (callIter_pile X I hf (wpAny_call (codeAny_call_builtin slot_list_iter.plain entry_list_iter (@check_slot (model prog w) _ _ s "list.__iter__" "list" "__iter__" (.ref x) [] [] _ lit_kind lit_split (I.type.andThen (looks_subIn X hsub)) (args_list_iter _) ?_))))
  show wpAny _ _ (do ret (← newFields "list_iterator" [.ref x, rawInt 0])) _ _ s
  refine wpAny_bind (wpAny_newObj_type (wpAny_pure ?_))
  dsimp only
  refine wpAny_bind (wpAny_specialOf (T := "list_iterator") ⟨_, Heap.get?_push_size _ rfl, rfl⟩ slot_listiter_next.lookup (wpAny_pure hQ))
end
end Mine
end

section
open PySem PySem.W PyProof.Rows PySem.Spec PySem.Calls Builtin
set_option maxHeartbeats 4000000
namespace Mine
abbrev tblOf (ps : Array Value) : Obj := { cls := .none, data := .fields ps }
def TabOk (pos : Pos) (ps : Array Value) : Prop := ps = #[] ∨ ∃ c', ps = #[rawInt pos.line, rawInt pos.col, .ref c']

theorem code74 (P : Params) : ∃ d vs sl file tf flags tg inF text tt, (hd.heap_39 P).lookup 74 = some ⟨.type "code", d, .fields vs, sl⟩ ∧ vs.getD 11 .none = .ref 70 ∧ vs[11]? = some (.ref 70) ∧ vs.getD 18 .none = .str file tf ∧
    vs.getD 7 .none = .int flags tg ∧ vs.getD 9 .none = .bool inF ∧ vs.getD 10 .none = .int text tt :=
  ⟨_, _, _, _, _, _, _, _, _, _, by with_unfolding_all rfl, by with_unfolding_all rfl, by with_unfolding_all rfl, by with_unfolding_all rfl, by with_unfolding_all rfl, by with_unfolding_all rfl, by with_unfolding_all rfl⟩

theorem gen_code {M : Model} {A : Around} {E : Value → Shared → Prop} {s : Shared} {P : Params} {env : Env} {pos : Pos} {q : Str} {scope : Scope} {ps : Array Value} {Q : Value → Shared → Prop} (hc : env.code = .ref 74) (X : (hd.heap_39 P).In s.heap)
    (h70 : s.heap.get? 70 = some (tblOf ps)) (ht : TabOk pos ps)
    (hQ : ∀ c' h' tk ps', Heap.ExtBut 70 s.heap h' → s.heap.objs.size ≤ h'.objs.size → h'.get? 70 = some (tblOf ps') → TabOk pos ps' → Q (.ref c') { s with heap := h', toks := tk }) :
    wpAny M A (genexprCode env pos q scope) Q E s := by
  obtain ⟨d, vs, sl, file, tf, flags, tg, inF, text, tt, h74, v11, v11', v18, v7, v9, v10⟩ := code74 P
  have o74 := X _ _ h74
  rcases ht with rfl | ⟨c', rfl⟩
  · refine wpAny_genexprCodeX hc ⟨_, vs, file, tf, flags, tg, inF, text, tt, _, o74, rfl, v11, v18, v7, v9, v10, h70, rfl, by exact trivial, by decide⟩ ⟨⟨_, vs, o74, rfl, rfl, v11'⟩, h70⟩ rfl fun c' h' tk hx hge hlt hcode hrec htab _ => ?_
    refine hQ c' h' tk _ hx (Nat.le_of_lt (Nat.lt_of_le_of_lt hge hlt)) htab.2 (.inr ⟨c', ?_⟩)
    rfl
  · unfold genexprCode codeAt
    rw [hc, if_neg (show ¬ ((Value.ref 74 == Value.none) = true) from Bool.false_ne_true)]
    refine wpAny_bind (wpAny_fieldsOf o74 rfl ?_)
    rw [v11]
    refine wpAny_bind (wpAny_fieldsOf h70 rfl ?_)
    have e : codeAmong pos (#[rawInt pos.line, rawInt pos.col, Value.ref c'] : Array Value).toList = some (.ref c') := by
      show (if ((pos.line : Int) == (pos.line : Int) && (pos.col : Int) == (pos.col : Int)) = true then some (Value.ref c') else codeAmong pos []) = _
      rw [if_pos (by simp)]
    rw [e]
    refine wpAny_pure ?_
    obtain ⟨hp, g, dr, tk, os⟩ := s
    exact hQ c' hp tk _ (fun _ _ _ e => e) (Nat.le_refl _) h70 (.inr ⟨c', rfl⟩)

/-- a thing on the pile: the tuple's address, its two texts' marks, the letter -/
structure Ent where
  addr : Addr
  t1 : Tok
  c : Str
  t2 : Tok
  deriving Inhabited
abbrev entObj (e : Ent) : Obj := { cls := .type "tuple", data := .seq #[.str (Str.ofString "") e.t1, .str e.c e.t2] }
def entVals (e : Ent) : Array Value := #[.str (Str.ofString "") e.t1, .str e.c e.t2]
def entRefs (es : List Ent) : Array Value := (es.map fun e => Value.ref e.addr).toArray
theorem TabOk.line {pos : Pos} {ps : Array Value} (h : TabOk pos ps) : TabOk pos ps := h
end Mine
end

section
open PySem PySem.W PyProof.Rows PySem.Spec PySem.Calls Builtin
set_option maxHeartbeats 4000000
namespace Mine
theorem empty_in (P : Params) : ∃ e t, nsIn (hd.heap_39 P) mainGlobals "EMPTYSTRING" = some (some (.str e t)) ∧ e = Str.ofString "" := ⟨_, _, by with_unfolding_all rfl, by decide +kernel⟩
theorem join_letter (c : Str) : Txt.join (Str.ofString "") [Str.ofString "", c] = c := by
  have h : Str.ofString "" = ⟨#[]⟩ := by decide +kernel
  rw [h]
  obtain ⟨cs⟩ := c
  rw [show Txt.join (⟨#[]⟩ : Str) [⟨#[]⟩, ⟨cs⟩] = Str.join ⟨#[]⟩ [⟨#[]⟩, ⟨cs⟩] from StrLaws.glued_eq_join _ _]
  show (⟨#[] ++ #[] ++ cs⟩ : Str) = ⟨cs⟩
  simp

def methBody (i j : Nat) : List Stmt := match PySem.Challenge.pw_tc0006_01.main.body[i]? with
  | some (.ClassDef _ _ _ b _ _ _ _ _ _ _) => (match b[j]? with | some (.FunctionDef _ _ b _ _ _ _ _ _ _) => b | _ => [])
  | _ => []
def callArg : Expr → Expr
  | .Call _ (a :: _) _ _ => a
  | e => e
def retExpr : Stmt → Expr
  | .Return (some e) _ => e
  | _ => .Name default default
def genElt : Expr → Expr
  | .GeneratorExp e _ _ _ => e
  | e => e
/-- the generator expression of __str__ -/
def strGen : Expr := callArg (retExpr (stmtAt (methBody 3 5) 0))
def strElt : Expr := genElt strGen
theorem elt_pile {w : World} {A : Around} {E : Value → Shared → Prop} {s : Shared} {P : Params} {env : Env} {m : Str → Option Value} {c : Str} {t1 t2 : Tok} {Q : Value → Shared → Prop}
    (X : (hd.heap_39 P).In s.heap) (hg : env.globals = mainGlobals) (hk : env.scope.kind = .function) (h1 : env.kindOf "EMPTYSTRING" = some .globalImplicit) (h2 : env.kindOf "fws" = some .local) (h3 : env.kindOf "part" = some .local)
    (hn : s.heap.Ns env.locals m) (m1 : m "fws" = some (.str (Str.ofString "") t1)) (m2 : m "part" = some (.str c t2)) (hc : c.length ≤ 1000)
    (hQ : ∀ t h' tk, (∀ b o, s.heap.get? b = some o → h'.get? b = some o) → Q (.str c t) { s with heap := h', toks := tk }) :
    wpAny (model PySem.Challenge.rw_tc0006_01.row.prog w) A (eval strElt env) Q E s := by
  obtain ⟨e, te, he, rfl⟩ := empty_in P
  obtain ⟨p1, p2, p3, p4, p5, p6, k5, pl, hE⟩ : ∃ p1 p2 p3 p4 p5 p6 k5 pl, strElt = .Call (.Attribute (.Name "EMPTYSTRING" p1) "join" p2) [.Tuple [.Name "fws" p3, .Name "part" p4] k5 p5] [] p6 ∧ (eval (.Call (.Attribute (.Name "EMPTYSTRING" p1) "join" p2) [.Tuple [.Name "fws" p3, .Name "part" p4] k5 p5] [] p6) env = (do
      let ov ← eval (.Name "EMPTYSTRING" p1) env
      standAt p2.atName
      let (f, first) ← holding [ov] (getMethod ov "join" pl)
      callWith p6 f first (backTo p6 (starEach [.Tuple [.Name "fws" p3, .Name "part" p4] k5 p5] env)) [])) := ⟨_, _, _, _, _, _, _, _, rfl, rfl⟩
  obtain ⟨hE, hE2⟩ := hE
  rw [hE]
  refine MethodCall_ (Name_function_global hk h1 ?_) hE2
  unfold loadGlobal
  rw [hg]
  refine wpAny_bind ((looks_nsIn X he).here ?_)
  refine wpAny_pure ?_
  refine GM.join ?_
  refine callWith_method1 ?_
  refine spliced_cons (wpAny_Tuple (k := k5) (pos := p5) ?_)
  refine spliced_cons (wpAny_Name (x := "fws") (pos := p3) (wpAny_loadName_local hk h2 hn m1 ?_) (by decide))
  refine spliced_cons (wpAny_Name (x := "part") (pos := p4) (wpAny_loadName_local hk h3 hn m2 ?_) (by decide))
  refine spliced_nil ⟨(by decide : (2 : Nat) ≤ sizeLine), ?_⟩
  refine spliced_nil ?_
  refine join_tuple (D := s.heap.objs.size) (items := #[.str (Str.ofString "") t1, .str c t2]) (ys := [Str.ofString "", c]) ⟨_, Heap.get?_push_size _ rfl, rfl, _, rfl⟩ (.cons _ _ (.cons _ _ .nil)) ?_ fun t' k => ?_
  · have : (Str.ofString "").length = 0 := by decide +kernel
    simp [this]; omega
  · rw [join_letter]
    exact hQ t' _ k fun b o e => Heap.get?_push_of_some _ e
end Mine
end

section
open PySem PySem.W PyProof.Rows PySem.Spec PySem.Calls Builtin
set_option maxHeartbeats 4000000
namespace Mine
def genParts : Expr → Pos × Scope × Expr × Pos × Pos × Nat × Pos
  | .GeneratorExp _ [⟨.Tuple [.Name _ pa, .Name _ pb] kt pt, it, _, _⟩] sc pos => (pos, sc, it, pa, pb, kt, pt)
  | _ => default
abbrev strPos : Pos := (genParts strGen).1
abbrev strScope : Scope := (genParts strGen).2.1
abbrev strIter : Expr := (genParts strGen).2.2.1
theorem strGen_eq : strGen = .GeneratorExp strElt [⟨.Tuple [.Name "fws" (genParts strGen).2.2.2.1, .Name "part" (genParts strGen).2.2.2.2.1] (genParts strGen).2.2.2.2.2.1 (genParts strGen).2.2.2.2.2.2, strIter, [], 0⟩] strScope strPos := by rfl

theorem passing_all (n i : Nat) : passing (fun _ => true) n i = (List.range n).drop i := by
  unfold passing; rw [List.filter_eq_self.mpr]; intros; rfl

theorem gen_pile {w : World} {p : Program} {loose : List Str} {mean : ExcName → Option Value} {mg mb : Str → Option Value} {A : Around} {E : Value → Shared → Prop} {s : Shared} {env : Env} {h₀ : Heap} {L : Addr} {m : Str → Option Value} {news : List (Addr × Obj)}
    {es : List Ent} {x dx : Addr} {n : Nat} {tt tv : Tok} {ps : Array Value} {Q : Value → Shared → Prop}
    (hh : A.handled = none) (hroom : A.depth < recursionLimit) (F : Fr h₀ L s.heap m) (N : News h₀ L s.heap ((70, tblOf ps) :: news)) (hx : (x, pileObj 101 dx (entRefs es) n) ∈ news) (hdx : (dx, sizeDict w tt (.int 0 tv)) ∈ news)
    (he : ∀ e ∈ es, (e.addr, entObj e) ∈ news) (h70 : ∀ q ∈ news, q.1 ≠ 70) (X : (hd.heap_39 w.params).In h₀) (T : Top p loose mean mg mb h₀) (ht : TabOk strPos ps) (hcs : ∀ e ∈ es, e.c.length ≤ 1000)
    (hcode : env.code = .ref 74) (hg : env.globals = mainGlobals) (hself : ∀ Q' : Value → Shared → Prop, Q' (.ref x) s → wpAny (model PySem.Challenge.rw_tc0006_01.row.prog w) A (eval strIter env) Q' E s)
    (hclos : closureFor strScope env = pure []) (hs : ∀ x, genFold strIter env x = pure x)
    (hQ : ∀ a s₅ ps', Fr h₀ L s₅.heap m → News h₀ L s₅.heap ((70, tblOf ps') :: news) → TabOk strPos ps' → GUp s.gens s₅.gens → s₅.drawn = s.drawn → s₅.os = s.os → s.heap.objs.size ≤ s₅.heap.objs.size →
      Gen PySem.Challenge.rw_tc0006_01.row.prog w A (s.heap.objs.size - 1) a es.length (fun j y => ∃ e u, es[j]? = some e ∧ y = .str e.c u) s₅ → Q (.ref a) s₅) :
    wpAny (model PySem.Challenge.rw_tc0006_01.row.prog w) A (eval strGen env) Q E s := by
  have N70 := N _ (.head _)
  have Nr : News h₀ L s.heap news := fun q hq => N q (.tail _ hq)
  rw [strGen_eq]
  refine wpAny_GeneratorExp_walksQT (xa := "fws") (xb := "part") (cl := []) hh (by rfl) hclos (by decide) (by rfl) (by rfl) (by rfl) (by decide) (by rfl) hroom (hself _ ?_) hs
  have XX := X.keeps F.keep
  refine iter_pile XX (instL Nr hx hdx) (by with_unfolding_all rfl) (by with_unfolding_all rfl) ?_
  have hI : ∀ b o, s.heap.get? b = some o → (s.heap.push { cls := .type "list_iterator", data := .fields #[.ref x, .int 0 0] }).get? b = some o := fun b o e => Heap.get?_push_of_some _ e
  refine ⟨(T.nolimit.keeps F.keep).keeps hI, gen_code hcode (XX.keeps hI) (hI _ _ N70.1) ht fun c' h₃ tk₃ ps' hx₃ hsz₃ h70₃ ht' => ?_⟩
  have hsz3 : s.heap.objs.size + 1 ≤ h₃.objs.size := by
    have : (s.heap.push { cls := .type "list_iterator", data := .fields #[.ref x, .int 0 0] }).objs.size ≤ h₃.objs.size := hsz₃
    rwa [Heap.size_push] at this
  have up : ∀ b o, b ≠ 70 → s.heap.get? b = some o → h₃.get? b = some o := fun b o hb e => hx₃ b o hb (hI b o e)
  have no70 : ∀ b o, h₀.get? b = some o → b ≠ 70 := fun b o e q => by subst q; rw [N70.2.2] at e; cases e
  have keep₃ : ∀ b o, h₀.get? b = some o → h₃.get? b = some o := fun b o e => up b o (no70 b o e) (F.keep b o e)
  obtain ⟨bm, ob, hb1, hb2, hb3, hb4, hb5, hb6⟩ := T.bmain
  refine wpAny_builtinsFor (by rw [hg]; exact T.g.keeps keep₃) hb1 hb2 (keep₃ _ _ hb3) hb4 hb5 hb6 ?_
  have h70s : 70 < s.heap.objs.size := Heap.lt_size N70.1
  have hxs : x < s.heap.objs.size := Heap.lt_size (Nr _ hx).1
  have hIne : s.heap.objs.size ≠ 70 := Nat.ne_of_gt h70s
  have hLlt : L < s.heap.objs.size := F.ns.lt
  have hsize : (entRefs es).size = es.length := by simp [entRefs]
  have hget : ∀ j, j < (entRefs es).size → ∃ e, es[j]? = some e ∧ es.getD j default = e ∧ e ∈ es := by
    intro j hj
    rw [hsize] at hj
    exact ⟨es[j], by simp [hj], by simp [hj], List.getElem_mem hj⟩
  have hit : ∀ j, j < (entRefs es).size → (entRefs es)[j]? = some (.ref (es.getD j default).addr) := by
    intro j hj
    obtain ⟨e, e1, e2, _⟩ := hget j hj
    rw [e2]
    simp [entRefs, e1]
  have hTs : ∀ j, j < (entRefs es).size → (es.getD j default).addr < s.heap.objs.size ∧ h₃.get? (es.getD j default).addr = some (entObj (es.getD j default)) := by
    intro j hj
    obtain ⟨e, e1, e2, e3⟩ := hget j hj
    rw [e2]
    exact ⟨Heap.lt_size (Nr _ (he e e3)).1, up _ _ (h70 _ (he e e3)) (Nr _ (he e e3)).1⟩
  have hTI : ∀ j, j < (entRefs es).size → (es.getD j default).addr ≠ s.heap.objs.size := fun j hj => Nat.ne_of_lt (hTs j hj).1
  have hit3 : h₃.IsListIter s.heap.objs.size x 0 := ⟨_, hx₃ _ _ hIne (Heap.get?_push_size _ rfl), rfl, rfl⟩
  have hseq3 : HoldsSeq h₃ x (entRefs es) := ⟨_, up _ _ (h70 _ hx) (Nr _ hx).1, _, rfl⟩
  refine ⟨s.heap.objs.size, s.heap.objs.size :: x :: (List.range (entRefs es).size).map (fun j => (es.getD j default).addr), [s.heap.objs.size], (entRefs es).size, fun j v => j < (entRefs es).size ∧ v = entVals (es.getD j default), _, _, fun _ => true,
    fun i y => ∃ e u, es[i]? = some e ∧ y = .str e.c u, rfl, fun A' hA => (walksPile hA _ x (Nat.ne_of_lt hxs) (entRefs es) (fun j => (es.getD j default).addr) (fun j => entVals (es.getD j default)) hit hTI).bound, fun i vals hv => ⟨_, _, hv.2⟩,
    ⟨hit3, hseq3, fun k hk => ⟨_, (hTs k hk).2, rfl, _, rfl⟩⟩, ?_, T.nolimit.keeps keep₃, ?_, fun href hhref => ?_, fun a h₅ tk gs hgb hag hsz₅ hk₅ W hat => ?_⟩
  · intro b hb
    show b < h₃.objs.size
    rcases List.mem_cons.mp hb with rfl | hb
    · exact hsz3
    · rcases List.mem_cons.mp hb with rfl | hb
      · exact Nat.lt_of_lt_of_le (Nat.lt_succ_of_lt hxs) hsz3
      · obtain ⟨j, hj, rfl⟩ := List.mem_map.mp hb
        exact Nat.lt_of_lt_of_le (Nat.lt_succ_of_lt (hTs j (List.mem_range.mp hj)).1) hsz3
  · intro hm
    rw [List.mem_singleton] at hm
    have := (T.nolimit.keeps F.keep)
    obtain ⟨mc, hns, _⟩ := this
    exact Nat.lt_irrefl _ (hm ▸ hns.lt)
  · have toS : ∀ {s₂ : Shared}, (∀ b ∈ List.range h₃.objs.size, b ∉ [s.heap.objs.size] → ∀ o, href.get? b = some o → s₂.heap.get? b = some o) → ∀ b o, h₀.get? b = some o → s₂.heap.get? b = some o := by
      intro s₂ hk b o e
      have h3 := keep₃ b o e
      refine hk b (List.mem_range.mpr (Heap.lt_size h3)) ?_ o (hhref b o h3)
      intro q
      rw [List.mem_singleton] at q
      have := Nat.lt_of_lt_of_le (Heap.lt_size e) F.above
      rw [q] at this
      exact Nat.lt_irrefl _ (Nat.lt_trans this hLlt)
    refine ⟨fun A' E' i va vb s₂ m₂ _ _ _ _ _ _ => wpAny_pure ⟨rfl, s₂.heap, s₂.toks, rfl, fun _ _ e => e⟩, fun A' E' i va vb s₂ m₂ _ hv _ hn ha hb hk => ?_⟩
    obtain ⟨hi, hv⟩ := hv
    obtain ⟨e, e1, e2, e3⟩ := hget i hi
    rw [e2] at hv
    have hv1 : va = .str (Str.ofString "") e.t1 ∧ vb = .str e.c e.t2 := by
      have h1 := congrArg (fun a : Array Value => a[0]?) hv
      have h2 := congrArg (fun a : Array Value => a[1]?) hv
      exact ⟨Option.some.inj h1, Option.some.inj h2⟩
    obtain ⟨rfl, rfl⟩ := hv1
    exact elt_pile (X.keeps (toS hk)) hg rfl rfl rfl rfl hn ha hb (hcs e e3) fun t h' tk hk' => ⟨⟨e, t, e1, rfl⟩, h', tk, rfl, hk'⟩
  · have e1 : (passing (fun _ => true) (entRefs es).size 0).length = es.length := by rw [passing_all]; simp [hsize]
    have e2 : (fun (j : Nat) (y : Value) => ∃ i, (passing (fun _ => true) (entRefs es).size 0)[j]? = some i ∧ ∃ e u, es[i]? = some e ∧ y = Value.str e.c u) = fun j y => ∃ e u, es[j]? = some e ∧ y = Value.str e.c u := by
      funext j y
      rw [passing_all, List.drop_zero]
      apply propext
      constructor
      · rintro ⟨i, hi, e, u, h1, h2⟩
        have : i = j := by
          obtain ⟨_, hj⟩ := List.getElem?_eq_some_iff.mp hi
          simpa using hj.symm
        subst this
        exact ⟨e, u, h1, h2⟩
      · rintro ⟨e, u, h1, h2⟩
        have hj : j < es.length := (List.getElem?_eq_some_iff.mp h1).1
        exact ⟨j, by simp [hsize, hj], e, u, h1, h2⟩
    rw [e1, e2] at W
    refine hQ a _ ps' ⟨F.ns.at' fun o e => hk₅ _ _ (up L o (Ne.symm N70.2.1) e), fun b o e => hk₅ _ _ (keep₃ b o e), F.above⟩ (fun q hq => ?_) ht' (GUp.push hgb) rfl rfl ?_ ⟨_, _, _, _, W, hat, (fun i s' st => st.1.typeIs), List.mem_cons_self, ?_, ?_⟩
    · rcases List.mem_cons.mp hq with rfl | hq
      · exact ⟨hk₅ _ _ h70₃, N70.2⟩
      · exact ⟨hk₅ _ _ (up _ _ (h70 q hq) (Nr q hq).1), (Nr q hq).2⟩
    · show s.heap.objs.size ≤ h₅.objs.size
      have hag' : h₃.objs.size < a := hag
      rw [hsz₅]
      exact Nat.le_trans (Nat.le_of_succ_le (Nat.le_trans hsz3 (Nat.le_of_lt hag'))) (Nat.le_succ _)
    · intro b hb
      show b < h₅.objs.size
      have hag' : h₃.objs.size < a := hag
      rw [hsz₅]
      rcases List.mem_cons.mp hb with rfl | hb
      · exact Nat.lt_succ_self _
      · rcases List.mem_cons.mp hb with rfl | hb
        · exact Nat.lt_succ_of_lt hag'
        · exact Nat.lt_succ_of_lt (Nat.lt_trans (List.mem_range.mp hb) hag')
    · intro b hb
      have h1 : s.heap.objs.size - 1 < s.heap.objs.size := Nat.sub_lt (Nat.lt_of_le_of_lt (Nat.zero_le _) h70s) (by decide)
      rcases List.mem_cons.mp hb with rfl | hb
      · exact Nat.lt_of_lt_of_le h1 (Nat.le_of_succ_le hsz3)
      · rw [List.mem_singleton.mp hb]; exact h1
end Mine
end

section
open PySem PySem.W PyProof.Rows PySem.Spec PySem.Calls Builtin
set_option maxHeartbeats 4000000
namespace Mine
theorem join_pile {prog : Program} {w : World} {A : Around} {E : Value → Shared → Prop} {s : Shared} {h₀ : Heap} {L a z : Addr} {m : Str → Option Value} {news : List (Addr × Obj)} {es : List Ent} {sep : Str} {t : Tok} {Q : Value → Shared → Prop}
    (F : Fr h₀ L s.heap m) (N : News h₀ L s.heap news) (hz : ∀ q ∈ news, q.1 ≤ z) (hLz : L ≤ z) (G : Gen prog w A z a es.length (fun j y => ∃ e u, es[j]? = some e ∧ y = .str e.c u) s)
    (hok : ((es.map (·.c)).map (·.length)).sum + es.length * sep.length ≤ 1000000) (hsz : es.length ≤ 1000)
    (hQ : ∀ h' tk gs t', Fr h₀ L h' m → News h₀ L h' news → GUp s.gens gs → Q (.str (Txt.join sep (es.map (·.c))) t') { s with heap := h', toks := tk, gens := gs }) :
    wpAny (model prog w) A (call (.builtin "str.join") [.str sep t, .ref a]) Q E s := by
  obtain ⟨fp, wr, g, St, W, hst, hT, ha, hfp, hwr⟩ := G
  have W := W.in4_2
  refine SC.joinGen W hT hst hfp ha (fun j v hv => let ⟨e, u, _, h⟩ := hv; ⟨_, u, h⟩) (fun s' lt hm hacc => ?_) (by rw [sizeLine_eq]; omega)
  have hl : lt.map (·.1) = es.map (·.c) := by
    apply List.ext_getElem?
    intro j
    have hsz : lt.length = es.length := by simpa [strValues] using hacc.1
    by_cases hj : j < es.length
    · have hj' : j < lt.length := hsz ▸ hj
      obtain ⟨e, u, h1, hv⟩ := hacc.2 j (.str lt[j].1 lt[j].2) (by simp [strValues, List.getElem?_eq_getElem hj'])
      injection hv with h2 _
      simp [List.getElem?_eq_getElem hj', h1, h2]
    · rw [List.getElem?_eq_none (by simpa [hsz] using Nat.le_of_not_lt hj), List.getElem?_eq_none (by simpa using Nat.le_of_not_lt hj)]
  rw [hl]
  refine ⟨joinOk_of (by simp only [List.length_map] at hok ⊢; omega), fun t' k => ?_⟩
  obtain ⟨hh, hg, hd, ho, _⟩ := hm
  have hnw : ∀ b, b ≤ z → b ∉ wr := fun b hb hm => Nat.lt_irrefl _ (Nat.lt_of_lt_of_le (hwr b hm) hb)
  have kp : ∀ b o, b ≤ z → s.heap.get? b = some o → s'.heap.get? b = some o := fun b o hb e => hh b o (hnw b hb) e
  have F' : Fr h₀ L s'.heap m := ⟨F.ns.at' fun o e => kp L o hLz e, fun b o e => kp b o (Nat.le_trans (Nat.le_of_lt (Nat.lt_of_lt_of_le (Heap.lt_size e) F.above)) hLz) (F.keep b o e), F.above⟩
  have N' : News h₀ L s'.heap news := fun q hq => ⟨kp _ _ (hz q hq) (N q hq).1, (N q hq).2⟩
  obtain ⟨h', g', d', tk', os'⟩ := s'
  obtain ⟨h1, g1, d1, tk1, os1⟩ := s
  dsimp only at hd ho hg
  subst hd ho
  exact hQ h' k g' t' F' N' (fun H => GenOnlyQ.bare hg H)

theorem ents_sum (es : List Ent) (hcs : ∀ e ∈ es, e.c.length ≤ 1) : ((es.map (·.c)).map (·.length)).sum ≤ es.length := by
  induction es with
  | nil => simp
  | cons e r ih =>
    have h1 := hcs e (.head _)
    have h2 := ih fun e h => hcs e (.tail _ h)
    simp only [List.map_cons, List.sum_cons, List.length_cons]
    omega

theorem str_spec {w : World} {p : Program} {loose : List Str} {mean : ExcName → Option Value} {mg mb : Str → Option Value} (x dx : Addr) (es : List Ent) (n : Nat) (tt : Tok) (tv : Tok) (rest : List (Addr × Obj)) (ps : Array Value)
   (hlen : es.length ≤ 100) (hcs : ∀ e ∈ es, e.c.length ≤ 1) (ht : TabOk strPos ps) (he : ∀ e ∈ es, (e.addr, entObj e) ∈ rest) (h70 : ∀ q ∈ (x, pileObj 101 dx (entRefs es) n) :: (dx, sizeDict w tt (.int 0 tv)) :: rest, q.1 ≠ 70) :
   KClaim w p loose mean mg mb 75 [.ref x] ((70, tblOf ps) :: (x, pileObj 101 dx (entRefs es) n) :: (dx, sizeDict w tt (.int 0 tv)) :: rest) 3 20 True (fun h₀ L m s Q => ∀ t h' tk' gs ps', Fr h₀ L h' m →
     News h₀ L h' ((70, tblOf ps') :: (x, pileObj 101 dx (entRefs es) n) :: (dx, sizeDict w tt (.int 0 tv)) :: rest) → TabOk strPos ps' → GUp s.gens gs → Q (.str (Txt.join (Str.ofString "") (es.map (·.c))) t) { s with heap := h', toks := tk', gens := gs }) := by
  unfold KClaim; k_fill
  intro dp un gd cn cs a ccd cl outer A₀ base h₀ L m s Q E hB hF hX hN hT hk _ hdp hun hret
  refine wpAny_call ?_
  k_dflt cell_enter
  repeat' (first | (k_unfold; (try dsimp only)) | ((fail_if_success (with_reducible show wpAny _ _ (eval (Expr.GeneratorExp _ _ _ _) _) _ _ _)); walk1))
  rename Fr _ _ _ _ => hF'
  rename News _ _ _ _ => hN'
  rename Top _ _ _ _ _ _ => hT'
  rename Frag.In _ _ => hX'
  have hlt' := fun q hq => Heap.lt_size (hN' q hq).1
  have hLz' := hF'.ns.lt
  refine gen_pile (es := es) (x := x) (dx := dx) (n := n) (tt := tt) (tv := tv) (ps := ps) rfl (show dp + 1 < recursionLimit by omega) hF' hN' (.head _) (.tail _ (.head _)) (fun e h => .tail _ (.tail _ (he e h))) h70 hX' hT' ht (fun e h => Nat.le_trans (hcs e h) (by decide)) rfl rfl
    (fun Q' hq => wpAny_Name (wpAny_loadName_local rfl rfl hF'.ns (by with_unfolding_all rfl) hq) (by decide)) rfl (fun _ => rfl) ?_
  intro a5 s5 ps5 F5 N5 ht5 hG5 hd5 ho5 hsz5 G5
  obtain ⟨h5, g5, d5, tk5, os5⟩ := s5
  dsimp only at hd5 ho5 F5 N5 hG5 hsz5 G5 ⊢
  subst hd5 ho5
  repeat' (first | (k_unfold; (try dsimp only)) | ((fail_if_success (with_reducible show wpAny _ _ (call _ _ _) _ _ _)); walk1))
  have hsum := ents_sum es hcs
  have hsep : (Str.ofString "").length = 0 := by decide +kernel
  refine join_pile (es := es) F5 (fun q hq => N5 q hq) (fun q hq => ?_) (Nat.le_sub_one_of_lt hLz') G5 (by rw [hsep]; omega) (by omega) ?_
  · rcases List.mem_cons.mp hq with rfl | hq
    · exact Nat.le_sub_one_of_lt (hlt' (70, tblOf ps) (.head _))
    · exact Nat.le_sub_one_of_lt (hlt' _ (.tail _ hq))
  intro h6 tk6 gs6 t6 F6 N6 hG6
  k_unfold
  dsimp only
  exact leaveK_ F6 N6 fun kF kN => hret _ _ _ _ _ kF kN ht5 (hG5.trans hG6)
end Mine
end

section
open PySem PySem.W PyProof.Rows PySem.Spec PySem.Calls
set_option maxHeartbeats 4000000
namespace Mine
local macro_rules | `(tactic| walk_at "setAttr ref") => `(tactic| (k_here; k_dflt (refine' pile_setattr ?k1 ?k2 ?k3 ?k4 ?k5 ?_; (case k1 => k_asm); (case k2 => assumption); (case k3 => k_asm); (case k4 => assumption); (case k5 => assumption); intro h' F' N')))
theorem new_spec {w : World} {p : Program} {loose : List Str} {mean : ExcName → Option Value} {mg mb : Str → Option Value} (news : List (Addr × Obj)) :
   KClaim w p loose mean mg mb 101 [] news 2 10 True (fun h₀ L m s Q => ∀ x dx tv tt h' tk', Fr h₀ L h' m → News h₀ L h' ((x, pileObj 101 dx #[] 0) :: (dx, sizeDict w tt (.int 0 tv)) :: news) → (∀ q ∈ news, q.1 < dx) → dx < x →
     Q (.ref x) { s with heap := h', toks := tk' }) := by
  unfold KClaim; k_fill
  intro dp un gd cn cs a ccd cl outer A₀ base h₀ L m s Q E hB hF hX hN hT hk _ hdp hun hret
  refine wpAny_call ?_
  refine makeL_K hF hN (hX.keeps hF.keep) (makes101 w) (fI := 38) (by k_dflt k_is) (by k_dflt k_is) ?_
  intro x dx h1 F1 N1 lt1 lt2
  have hdv : ∃ o, (hd.heap_39 w.params).lookup 30 = some o ∧ ∃ t, o.data = .seq #[.int 0 t] 0 := ⟨_, by with_unfolding_all rfl, _, by with_unfolding_all rfl⟩
  obtain ⟨odv, hdv1, tdv, hdv2⟩ := hdv
  refine ks_code_super hB F1 hX N1 hT rfl rfl hk (by k_dflt k_is) (by k_dflt k_is) (show dp + 1 < recursionLimit by omega) (BindsTo.of_defaults rfl (hX.keeps F1.keep _ _ hdv1) hdv2 rfl rfl) (locs rfl) ?_ (by decide) rfl rfl rfl
  intro g' L' h' FG' F' N' B' X' T' l1
  dsimp only
  have hxd : x ≠ dx := Nat.ne_of_gt lt2
  have hdn : ∀ p ∈ news, p.1 ≠ dx := fun p hp => Nat.ne_of_lt (lt1 p hp)
  refine ks_wpAt_execs_cons (wpAt_of_wpAny ?_)
  repeat' (first | (k_unfold; (try dsimp only)) | ((fail_if_success (with_reducible show PySem.wpAt _ _ _ _ _ _ _)); walk1))
  refine ks_wpAt_execs_cons (ks_wpAt_Expr_any (ks_wpAt_MethodCall ?_))
  k_dflt (refine ks_node (x := x) (C := 101) (D := 101) (by k_asm) (by k_asm) (by k_asm) (by k_asm) (by k_is) (by rfl) (by rfl) (instL (by k_asm) (by k_mem) (by k_mem)) (by k_is) (by rfl) (by first | rfl | decide +kernel) (by k_is) (by k_is) (by k_is) (by k_is) (by decide) (by rfl) (by rfl) (by rfl) (by rfl) (by decide +kernel) (by first | boot_by_name | rfl | kernel_rfl) ?_)
  intro so' h2 F2 N2 l2
  k_dflt (refine' super_method_b gets_init ?k1 ?k2 ?k3 ?k4 ?k5 ?k6 ?k7 ?k8 ?k9 ?_; (case k1 => k_asm); (case k2 => k_asm); (case k3 => k_asm); (case k4 => k_mem); (case k5 => exact instL (by k_asm) (by k_mem) (by k_mem)); (case k6 => k_is); (case k7 => ks_is); (case k8 => k_is); (case k9 => decide))
  intro q3 h3 F3 N3 l3
  dsimp only
  have hdx : ∀ od : Obj, ∀ p ∈ (dx, od) :: news, p.1 ≠ x := by
    intro od p hp
    rcases List.mem_cons.mp hp with rfl | hp
    · exact hxd.symm
    · exact Nat.ne_of_lt (Nat.lt_trans (lt1 p hp) lt2)
  refine callWith_B0 (.inl rfl) (N3 _ (.head _)).1 ?_
  dsimp only [List.nil_append]
  have hq3 : q3 ≠ x := Nat.ne_of_gt (l3 _ (.tail _ (.head _)))
  have hso : so' ≠ x := Nat.ne_of_gt (l2 _ (.head _))
  refine' init_pile (x := x) ?k1 ?k2 ?k3 ?k4 ?k5 ?_
  case k1 => exact F3
  case k2 => exact N3
  case k3 => exact .head _
  case k4 => exact .tail _ (.tail _ (.head _))
  case k5 => exact .tail hq3 (.tail hso (.head (hdx _)))
  intro h4 F4 N4
  dsimp only
  repeat' (first | (k_unfold; (try dsimp only)) | ((fail_if_success (with_reducible show wpAny _ _ (call _ _ _) _ _ _)); walk1))
  rename_i kF kN _ _
  exact hret _ _ _ _ _ _ kF (fun p hp => kN p (.tail _ (.tail _ hp))) lt1 lt2
end Mine
end

section
open PySem PySem.W PyProof.Rows PySem.Spec PySem.Calls Builtin
set_option maxHeartbeats 4000000
namespace Mine
section
variable {prog : Program} {w : World} {A : Around} {E : Value → Shared → Prop} {s : Shared} {x dx L : Addr} {h₀ : Heap} {m : Str → Option Value} {news : List (Addr × Obj)}
theorem method_pile {its : Array Value} {n : Nat} {tt tv : Tok} {name : Str} {v t : Value} {pl : Sem Bool} {Q : Value × List Value → Shared → Prop} (F : Fr h₀ L s.heap m) (X₀ : (hd.heap_39 w.params).In h₀) (N : News h₀ L s.heap news)
    (hx : (x, pileObj 101 dx its n) ∈ news) (hdx : (dx, sizeDict w tt (.int 0 tv)) ∈ news)
    (hf : findIn (hd.heap_39 w.params) (.ref 101) name = some (some v)) (ht : typeIn (hd.heap_39 w.params) v = some t)
    (htt : (t != .type "function" && t != .type "method_descriptor" && t != .type "wrapper_descriptor") = false)
    (hl : getL name (putL "_initial_size" (PyData.keyHash w.params "_initial_size") (.str "_initial_size" tt) (.int 0 tv) []) = some none) (h : Q (v, [.ref x]) s) :
    wpAny (model prog w) A (getMethod (.ref x) name pl) Q E s := by
  have hcan : (Manifest.canonical "list.__getattribute__" != "object.__getattribute__") = false := by decide +kernel
  have X := X₀.keeps F.keep
  have I : InstAt s.heap x (pileObj 101 dx its n) 101 (some (sizeDict w tt (.int 0 tv))) := instL N hx hdx
  have hga : findIn (hd.heap_39 w.params) (.ref 101) "__getattribute__" = some (some (.builtin "list.__getattribute__")) := by with_unfolding_all rfl
  have hk : findIn (hd.heap_39 w.params) (.ref 101) "__getattr__" = some none := by with_unfolding_all rfl
  unfold getMethod specialOf
  refine wpAny_bind (wpAny_bind (I.type.here ((looks_findIn X hga).here ?_)))
  dsimp only
  rw [hcan, if_neg (by decide)]
  refine wpAny_bind (wpAny_bind (I.type.here ((looks_findIn X hk).here ?_)))
  refine wpAny_bind (wpAny_bind (I.type.here ((looks_findIn X hf).here (wpAny_bind ((looks_typeIn X ht).here ?_)))))
  rw [if_neg (by rw [htt]; decide)]
  refine wpAny_bind (wpAny_loadPart I.at_ ?_)
  refine wpAny_bind (wpAny_bind (wpAny_loadPart (N _ hdx).1 ?_))
  rw [nsLook_of (r := none) (by show lookIn name (dictOf _ _) = _; rw [lookIn_dict, hl])]
  exact wpAny_pure (wpAny_bind (wpAny_rule (wpAny_pure h)))
end
end Mine
end

section
open PySem PySem.W PyProof.Rows PySem.Spec PySem.Calls
set_option maxHeartbeats 4000000
namespace Mine
theorem push_spec {w : World} {p : Program} {loose : List Str} {mean : ExcName → Option Value} {mg mb : Str → Option Value} (x dx : Addr) (its : Array Value) (n : Nat) (tt : Tok) (tv : Tok) (f c : Str) (t1 t2 : Tok) (rest : List (Addr × Obj))
   (hsz : its.size ≤ 1000) (hxd : ∀ q ∈ (dx, sizeDict w tt (.int 0 tv)) :: rest, q.1 ≠ x) :
   KClaim w p loose mean mg mb 45 [.ref x, .str f t1, .str c t2] ((x, pileObj 101 dx its n) :: (dx, sizeDict w tt (.int 0 tv)) :: rest) 2 10 True (fun h₀ L m s Q => ∀ T h' tk', Fr h₀ L h' m →
     News h₀ L h' ((T, { cls := .type "tuple", data := .seq #[.str f t1, .str c t2] }) :: (x, pileObj 101 dx (its.push (.ref T)) (n + 1)) :: (dx, sizeDict w tt (.int 0 tv)) :: rest) → (∀ q ∈ (x, pileObj 101 dx its n) :: (dx, sizeDict w tt (.int 0 tv)) :: rest, q.1 < T) →
     Q .none { s with heap := h', toks := tk' }) := by
  unfold KClaim; k_fill
  intro dp un gd cn cs a ccd cl outer A₀ base h₀ L m s Q E hB hF hX hN hT hk _ hdp hun hret
  refine wpAny_call ?_
  k_dflt cell_enter
  repeat' (first | (k_unfold; (try dsimp only)) | ((fail_if_success (with_reducible show wpAny _ _ (getMethod _ _ _) _ _ _)); walk1))
  refine method_pile (by assumption) (by assumption) (by assumption) (.head _) (.tail _ (.head _)) (v := .builtin "list.append") (t := .type "method_descriptor") (by with_unfolding_all rfl) (by kernel_rfl) (by decide +kernel) (by k_dflt k_get) ?_
  (try dsimp only)
  repeat' (first | (k_unfold; (try dsimp only)) | ((fail_if_success (with_reducible show wpAny _ _ (call _ _ _) _ _ _)); walk1))
  rename_i T h2 F2 N2 lt2
  have hX2 := hX
  refine' append_pile (C := 101) (dx := dx) (its := its) (n := n) ?k1 ?k2 ?k3 ?k4 hsz ?_
  case k1 => exact F2
  case k2 => exact N2
  case k3 => exact looks_mroIn (K := hd.heap_39 w.params) (Frag.In.keeps (by assumption) F2.keep) (by with_unfolding_all rfl)
  case k4 =>
    refine Upd.tail ?_ (Upd.head hxd)
    exact Nat.ne_of_gt lt2.1
  intro h3 F3 N3
  dsimp only
  repeat' (first | (k_unfold; (try dsimp only)) | ((fail_if_success (with_reducible show wpAny _ _ (call _ _ _) _ _ _)); walk1))
  rename_i kF kN _ _
  refine hret T _ _ kF kN fun q hq => ?_
  rcases List.mem_cons.mp hq with rfl | hq
  · exact lt2.1
  · rcases List.mem_cons.mp hq with rfl | hq
    · exact lt2.2.1
    · exact allLt_mem lt2.2.2 q hq

theorem pc_spec {w : World} {p : Program} {loose : List Str} {mean : ExcName → Option Value} {mg mb : Str → Option Value} (x dx : Addr) (its : Array Value) (n : Nat) (tt : Tok) (tv : Tok) (rest : List (Addr × Obj))  :
   KClaim w p loose mean mg mb 98 [.ref x] ((x, pileObj 101 dx its n) :: (dx, sizeDict w tt (.int 0 tv)) :: rest) 2 10 True (fun h₀ L m s Q => ∀ t h' tk', Fr h₀ L h' m →
     News h₀ L h' ((x, pileObj 101 dx its n) :: (dx, sizeDict w tt (.int 0 tv)) :: rest) → Q (.int its.size t) { s with heap := h', toks := tk' }) := by
  unfold KClaim; k_fill
  intro dp un gd cn cs a ccd cl outer A₀ base h₀ L m s Q E hB hF hX hN hT hk _ hdp hun hret
  refine wpAny_call ?_
  refine ks_code_super hB hF hX hN hT rfl rfl hk (by k_dflt k_is) (by k_dflt k_is) (show dp < recursionLimit by omega) (BindsTo.of_eq rfl) (locs rfl) ?_ (by decide) rfl rfl rfl
  intro g' L' h1 FG' F1 N1 B' X' T' l1
  dsimp only
  refine ks_wpAt_execs_cons (ks_wpAt_Return_some (ks_wpAt_MethodCall ?_))
  k_dflt (refine ks_node (x := x) (C := 101) (D := 101) (by k_asm) (by k_asm) (by k_asm) (by k_asm) (by k_is) (by rfl) (by rfl) (instL (by k_asm) (by k_mem) (by k_mem)) (by k_is) (by rfl) (by first | rfl | decide +kernel) (by k_is) (by k_is) (by k_is) (by k_is) (by decide) (by rfl) (by rfl) (by rfl) (by rfl) (by decide +kernel) (by first | boot_by_name | rfl | kernel_rfl) ?_)
  intro so' h2 F2 N2 l2
  k_dflt (refine' super_method_b gets_len ?k1 ?k2 ?k3 ?k4 ?k5 ?k6 ?k7 ?k8 ?k9 ?_; (case k1 => k_asm); (case k2 => k_asm); (case k3 => k_asm); (case k4 => k_mem); (case k5 => exact instL (by k_asm) (by k_mem) (by k_mem)); (case k6 => k_is); (case k7 => ks_is); (case k8 => k_is); (case k9 => decide))
  intro q3 h3 F3 N3 l3
  dsimp only
  refine callWith_B0 (.inl rfl) (N3 _ (.head _)).1 ?_
  dsimp only [List.nil_append]
  refine' len_pile (x := x) ?k1 ?k2 ?k3 ?_
  case k1 => exact N3
  case k2 => exact .head _
  case k3 => exact .tail _ (.tail _ (.head _))
  dsimp only
  repeat' (first | (k_unfold; (try dsimp only)) | ((fail_if_success (with_reducible show wpAny _ _ (call _ _ _) _ _ _)); walk1))
  rename_i kF kN _ _
  exact hret _ _ _ kF (fun p hp => kN p (.tail _ (.tail _ hp)))
end Mine
end

section
open PySem PySem.W PyProof.Rows PySem.Spec PySem.Calls
set_option maxHeartbeats 4000000
namespace Mine
theorem pop_spec {w : World} {p : Program} {loose : List Str} {mean : ExcName → Option Value} {mg mb : Str → Option Value} (x dx : Addr) (its : Array Value) (n : Nat) (tt : Tok) (tv : Tok) (rest : List (Addr × Obj))
   (hsz : its.size ≤ 1000) (hxd : ∀ q ∈ (dx, sizeDict w tt (.int 0 tv)) :: rest, q.1 ≠ x) :
   KClaim w p loose mean mg mb 61 [.ref x] ((x, pileObj 101 dx its n) :: (dx, sizeDict w tt (.int 0 tv)) :: rest) 4 20 True (fun h₀ L m s Q => ∀ v n' h' tk', Fr h₀ L h' m →
     News h₀ L h' ((x, pileObj 101 dx its.pop n') :: (dx, sizeDict w tt (.int 0 tv)) :: rest) → Q v { s with heap := h', toks := tk' }) := by
  unfold KClaim; k_fill
  intro dp un gd cn cs a ccd cl outer A₀ base h₀ L m s Q E hB hF hX hN hT hk _ hdp hun hret
  refine wpAny_call ?_
  refine ks_code_super hB hF hX hN hT rfl rfl hk (by k_dflt k_is) (by k_dflt k_is) (show dp < recursionLimit by omega) (BindsTo.of_eq rfl) (locs rfl) ?_ (by decide) rfl rfl rfl
  intro g' L' h1 FG' F1 N1 B' X' T' l1
  dsimp only
  refine ks_wpAt_execs_cons (wpAt_of_wpAny ?_)
  repeat' (first | (k_unfold; (try dsimp only)) | ((fail_if_success (with_reducible show wpAny _ _ (getMethod _ _ _) _ _ _)); (fail_if_success (with_reducible show PySem.wpAt _ _ _ _ _ _ _)); walk1))
  refine method_pile (by assumption) (by assumption) (by assumption) (.head _) (.tail _ (.head _)) (v := .ref 98) (t := .type "function") (by with_unfolding_all rfl) (by with_unfolding_all rfl) (by decide +kernel) (by k_dflt k_get) ?_
  repeat' (first | (k_unfold; (try dsimp only)) | ((fail_if_success (with_reducible show wpAny _ _ (call _ _ _) _ _ _)); (fail_if_success (with_reducible show PySem.wpAt _ _ _ _ _ _ _)); walk1))
  dsimp only [List.append_nil]
  refine (pc_spec x dx its n tt tv rest) _ _ _ _ _ _ _ _ _ _ _ _ _ _ _ _ _ (by assumption) (by assumption) (by assumption) (by assumption) (by assumption) rfl trivial (show dp + 1 + 2 < recursionLimit by omega) (show un + 3 + 10 < cLine by omega) ?_
  intro t2 h2 tk2 F2 N2
  dsimp only at F2 N2 ⊢
  repeat' (first | (k_unfold; (try dsimp only)) | ((fail_if_success (with_reducible show wpAny _ _ (call _ _ _) _ _ _)); (fail_if_success (with_reducible show PySem.wpAt _ _ _ _ _ _ _)); walk1))
  · rename_i hz _ _ _ _ _ _ kF kN _ _
    have hz' : its.size = 0 := by omega
    have e : its = #[] := Array.eq_empty_of_size_eq_zero hz'
    subst e
    exact hret _ n _ _ kF (fun p hp => kN p (.tail _ hp))
  · rename_i hz _
    obtain ⟨ys, v, rfl⟩ : ∃ (ys : Array Value) (v : Value), its = ys.push v := by
      have hz' : 0 < its.size := by omega
      obtain ⟨l⟩ := its
      rcases List.eq_nil_or_concat l with rfl | ⟨l', v, rfl⟩
      · simp at hz'
      · exact ⟨l'.toArray, v, by simp⟩
    rw [Array.size_push] at hsz
    dsimp only
    refine ks_wpAt_execs_cons (ks_wpAt_Return_some (ks_wpAt_MethodCall ?_))
    k_dflt (refine ks_node (x := x) (C := 101) (D := 101) (by k_asm) (by k_asm) (by k_asm) (by k_asm) (by k_is) (by rfl) (by rfl) (instL (by k_asm) (by k_mem) (by k_mem)) (by k_is) (by rfl) (by first | rfl | decide +kernel) (by k_is) (by k_is) (by k_is) (by k_is) (by decide) (by rfl) (by rfl) (by rfl) (by rfl) (by decide +kernel) (by first | boot_by_name | rfl | kernel_rfl) ?_)
    intro so' h3 F3 N3 l3
    k_dflt (refine' super_method_b gets_pop ?k1 ?k2 ?k3 ?k4 ?k5 ?k6 ?k7 ?k8 ?k9 ?_; (case k1 => k_asm); (case k2 => k_asm); (case k3 => k_asm); (case k4 => k_mem); (case k5 => exact instL (by k_asm) (by k_mem) (by k_mem)); (case k6 => k_is); (case k7 => ks_is); (case k8 => k_is); (case k9 => decide))
    intro q3 h4 F4 N4 l4
    dsimp only
    refine callWith_B0 (.inr rfl) (N4 _ (.head _)).1 ?_
    dsimp only [List.nil_append]
    have hX4 := X'.keeps F4.keep
    have hq3 : q3 ≠ x := Nat.ne_of_gt (l4 _ (.tail _ (.head _)))
    have hso : so' ≠ x := Nat.ne_of_gt (l3 _ (.head _))
    have hcls : ∃ oc cd, (hd.heap_39 w.params).lookup 101 = some oc ∧ oc.cls = .type "type" ∧ oc.data = .cls cd ∧ cd.qualname.toString = "_Accumulator" := ⟨_, _, by with_unfolding_all rfl, by with_unfolding_all rfl, by with_unfolding_all rfl, by decide +kernel⟩
    obtain ⟨oc, cd, hc1, hc2, hc3, hc4⟩ := hcls
    refine' pop_pile (x := x) (C := 101) (dx := dx) (its := ys) (v := v) (n := n) ?k1 ?k2 ?k3 ?k4 ?k5 (by omega) ?k6 ?k7 ?_
    case k1 => exact F4
    case k2 => exact N4
    case k3 => exact .head _
    case k4 => exact .tail _ (.tail _ (.head _))
    case k5 => exact ⟨oc, cd, hX4 _ _ hc1, hc2, hc3, hc4⟩
    case k6 => exact looks_mroIn hX4 (by with_unfolding_all rfl)
    case k7 => exact .tail hq3 (.tail hso (.head hxd))
    intro h5 F5 N5
    dsimp only
    repeat' (first | (k_unfold; (try dsimp only)) | ((fail_if_success (with_reducible show wpAny _ _ (call _ _ _) _ _ _)); walk1))
    rename_i kF kN _ _
    rw [Array.pop_push] at hret
    exact hret _ _ _ _ kF (fun p hp => kN p (.tail _ (.tail _ hp)))
end Mine
end

section
open PySem PySem.W PyProof.Rows PySem.Spec PySem.Calls
set_option maxHeartbeats 4000000
namespace Mine
section
variable {prog : Program} {w : World} {A : Around} {s : Shared} {E : Value → Shared → Prop}
theorem for_strG {R : Result → Shared → Prop} {env : Env} {xv : Str} {px : Pos} {body : List Stmt} {x : Str} {t : Tok}
    {h₀ : Heap} {m₀ : Str → Option Value} {news₀ : List (Addr × Obj)} (J : Nat → (Str → Option Value) → List (Addr × Obj) → Prop)
    (hh : A.handled = none) (ha : x.cps.all (· < 128) = true) (hx : env.kindOf xv = some .local)
    (hp : (env.scope.kind == .class || (env.scope.kind == .module && env.locals != env.globals)) = false)
    (F : Fr h₀ env.locals s.heap m₀) (N : News h₀ env.locals s.heap news₀) (hJ : J 0 m₀ news₀)
    (turn : ∀ i c u m₁ news₁ own off h tk gs, x.cps[i]? = some c → J i m₁ news₁ → (∀ p ∈ news₁, p.1 ∉ off) → (∀ p ∈ own, p.1 ∈ off) → (∀ b ∈ off, ∃ q ∈ own, b ≤ q.1) →
      Fr h₀ env.locals h (fun y => if y = xv then some (.str ⟨#[c]⟩ u) else m₁ y) → News h₀ env.locals h (news₁ ++ own) → GUp s.gens gs →
      wpAny (model prog w) A (execs body env) (fun f s₂ => match f with
        | .next | .cont => TurnEndG h₀ env.locals own off (J (i + 1)) { s with heap := h, toks := tk, gens := gs } s₂
        | .brk => R (.ok .next) s₂
        | .ret v => R (.ok (.ret v)) s₂) (fun _ _ => False) { s with heap := h, toks := tk, gens := gs })
    (done : ∀ m₁ news₁ h tk gs, J x.cps.size m₁ news₁ → Fr h₀ env.locals h m₁ → News h₀ env.locals h news₁ → GUp s.gens gs → R (.ok .next) { s with heap := h, toks := tk, gens := gs }) :
    wpAny (model prog w) A (pyIter (.str x t)) (fun it s₂ => codeAny (model prog w) A (.forLoop (.Name xv px) it body [] env) R s₂) E s := by
  have hLz : env.locals < s.heap.objs.size := F.ns.lt
  refine wpAny_pyIter_ascii ha ?_
  have kp : ∀ b o, s.heap.get? b = some o → (s.heap.push { cls := .type "str_ascii_iterator", data := .fields #[.str x t, .int 0 0] }).get? b = some o := fun b o y => Heap.get?_push_of_some _ y
  refine forLoop_walkG (s := { s with heap := s.heap.push { cls := .type "str_ascii_iterator", data := .fields #[.str x t, .int 0 0] } }) J (Walks.strAscii (prog := prog) (w := w) hh s.heap.objs.size x t) hx hp (F.keeps kp) (N.grown kp)
    ⟨_, Heap.get?_push_size _ rfl, rfl, rfl⟩ ?_ ?_ ?_ hJ (fun i v m₁ news₁ own h tk gs _ hP hJ' a b F N hG hst hal => ?_) done
  · intro z
    rw [List.mem_singleton] at z
    exact absurd (z ▸ hLz) (Nat.lt_irrefl _)
  · intro b hb
    rw [List.mem_singleton] at hb
    subst hb
    cases q : h₀.get? s.heap.objs.size with
    | none => rfl
    | some o => exact absurd (Nat.lt_of_lt_of_le (Nat.lt_of_lt_of_le (Heap.lt_size q) F.above) (Nat.le_of_lt hLz)) (Nat.lt_irrefl _)
  · intro p hp z
    rw [List.mem_singleton] at z
    exact absurd (z ▸ Heap.lt_size (N p hp).1) (Nat.lt_irrefl _)
  · obtain ⟨c, u, hc, rfl⟩ := hP
    refine turn i c u m₁ news₁ own _ h tk gs hc hJ' a b (fun b hb => ?_) F N hG
    rw [List.mem_singleton] at hb
    subst hb
    obtain ⟨o, ho, _⟩ := hst
    exact ⟨_, hal _ (.head _) _ ho, Nat.le_refl _⟩
end
end Mine
end

section
open PySem PySem.W PyProof.Rows PySem.Spec PySem.Calls
set_option maxHeartbeats 4000000
namespace Mine
def goneStep (sg : Str) (st : List Str) (p : Int × Str) : List Str := if p.2 = ⟨#[40]⟩ then st ++ [sg] else if p.2 = ⟨#[41]⟩ then st.dropLast else st
def goneInit : List Str := [⟨#[97]⟩, ⟨#[98]⟩, ⟨#[99]⟩, ⟨#[100]⟩, ⟨#[101]⟩]
def goneRun (sg : Str) (x : Str) : List Str := (escF false 0 (stripF x).cps.toList).foldl (goneStep sg) goneInit
def goneTxt (sg : Str) (x : Str) : Str := Txt.join (Str.ofString "") (goneRun sg x)

theorem gone_len (sg : Str) (l : List (Int × Str)) (st : List Str) : (l.foldl (goneStep sg) st).length ≤ st.length + l.length := by
  induction l generalizing st with
  | nil => simp
  | cons p r ih =>
    refine Nat.le_trans (ih _) ?_
    have : (goneStep sg st p).length ≤ st.length + 1 := by
      unfold goneStep
      split
      · simp
      · split <;> simp <;> omega
    simp only [List.length_cons]; omega
theorem gone_mem (sg : Str) (l : List (Int × Str)) (st : List Str) (h : ∀ c ∈ st, c.length ≤ 1) (hs : sg.length ≤ 1) : ∀ c ∈ l.foldl (goneStep sg) st, c.length ≤ 1 := by
  induction l generalizing st with
  | nil => exact h
  | cons p r ih =>
    refine ih _ ?_
    intro c hc
    unfold goneStep at hc
    split at hc
    · rcases List.mem_append.mp hc with hc | hc
      · exact h c hc
      · rw [List.mem_singleton.mp hc]; exact hs
    · split at hc
      · exact h c (List.dropLast_subset _ hc)
      · exact h c hc

def PileJ (w : World) (x dx : Addr) (tt tv : Tok) (tb : Addr × Obj) (news : List (Addr × Obj)) (st : List Str) (news₁ : List (Addr × Obj)) : Prop :=
  ∃ es n rest, news₁ = tb :: (x, pileObj 101 dx (entRefs es) n) :: (dx, sizeDict w tt (.int 0 tv)) :: rest ∧ (∀ e ∈ es, (e.addr, entObj e) ∈ rest) ∧ (∀ q ∈ news, q ∈ rest) ∧
    (∀ q ∈ (dx, sizeDict w tt (.int 0 tv)) :: rest, q.1 ≠ x) ∧ x ≠ 70 ∧ (∀ q ∈ rest, q.1 ≠ 70) ∧ dx ≠ 70 ∧ es.map (·.c) = st

theorem entRefs_push (es : List Ent) (e : Ent) : entRefs (es ++ [e]) = (entRefs es).push (.ref e.addr) := by simp [entRefs]
theorem entRefs_pop (es : List Ent) : entRefs es.dropLast = (entRefs es).pop := by
  apply Array.ext'
  simp [entRefs]

theorem push_J {w : World} {p : Program} {loose : List Str} {mean : ExcName → Option Value} {mg mb : Str → Option Value} {x dx : Addr} {tt tv : Tok} {ps : Array Value} {news news₁ own : List (Addr × Obj)} {off : List Addr} {st : List Str} {c : Str} {t1 t2 : Tok}
    {dp un : Nat} {gd : Option (List Code)} {cn : Str} {cs : Scope} {a : Addr} {ccd : Value} {cl : List (Str × Addr)} {outer : List Env} {A₀ : Around} {base h₀ : Heap} {L : Addr} {m : Str → Option Value} {s : Shared} {Q E : Value → Shared → Prop}
    (J : PileJ w x dx tt tv (70, tblOf ps) news st news₁) (hoff : ∀ q ∈ news₁, q.1 ∉ off) (hown : ∀ q ∈ own, q.1 ∈ off) (hlt : ∀ b ∈ off, ∃ q ∈ own, b ≤ q.1) (hst : st.length ≤ 900)
    (hB : Below A₀ base outer h₀) (hF : Fr h₀ L s.heap m) (hX : (hd.heap_39 w.params).In h₀) (hN : News h₀ L s.heap (news₁ ++ own)) (hT : Top p loose mean mg mb h₀) (hk : cs.kind = .function) (hdp : dp + 2 < recursionLimit) (hun : un + 10 < cLine)
    (hret : ∀ h' tk' news₂, Fr h₀ L h' m → News h₀ L h' (news₂ ++ own) → (∀ q ∈ news₂, q.1 ∉ off) → PileJ w x dx tt tv (70, tblOf ps) news (st ++ [c]) news₂ → Q .none { s with heap := h', toks := tk' }) :
    wpAny (model PySem.Challenge.rw_tc0006_01.row.prog w) (ktrTop dp un gd cn cs L a ccd cl outer) (call (.ref 45) [.ref x, .str (Str.ofString "") t1, .str c t2]) Q E s := by
  obtain ⟨es, n, rest, rfl, he, hn, hx, hx7, hr7, hd7, hes⟩ := J
  have hlen : es.length = st.length := by rw [← hes]; simp
  have hxo : x ∉ off := hoff (x, pileObj 101 dx (entRefs es) n) (.tail _ (.head _))
  have h7o : 70 ∉ off := hoff (70, tblOf ps) (.head _)
  refine (push_spec x dx (entRefs es) n tt tv (Str.ofString "") c t1 t2 ((70, tblOf ps) :: (rest ++ own)) (by simp [entRefs]; omega) ?_) dp un gd cn cs a ccd cl outer A₀ base h₀ L m s Q E hB hF hX (fun q hq => ?_) hT hk trivial hdp hun ?_
  · intro q hq
    rcases List.mem_cons.mp hq with rfl | hq
    · exact hx _ (.head _)
    · rcases List.mem_cons.mp hq with rfl | hq
      · exact hx7.symm
      · rcases List.mem_append.mp hq with hq | hq
        · exact hx q (.tail _ hq)
        · exact fun e => hxo (e ▸ hown q hq)
  · refine hN q ?_
    rcases List.mem_cons.mp hq with rfl | hq
    · exact .tail _ (.head _)
    · rcases List.mem_cons.mp hq with rfl | hq
      · exact .tail _ (.tail _ (.head _))
      · rcases List.mem_cons.mp hq with rfl | hq
        · exact .head _
        · exact .tail _ (.tail _ (.tail _ hq))
  · intro T h' tk' F' N' hlt'
    have hT7 : T ≠ 70 := Nat.ne_of_gt (hlt' (70, tblOf ps) (.tail _ (.tail _ (.head _))))
    have hTx : T ≠ x := Nat.ne_of_gt (hlt' (x, pileObj 101 dx (entRefs es) n) (.head _))
    have hTo : T ∉ off := by
      intro hm
      obtain ⟨q, hq, hle⟩ := hlt T hm
      exact Nat.lt_irrefl _ (Nat.lt_of_le_of_lt hle (hlt' q (.tail _ (.tail _ (.tail _ (List.mem_append_right _ hq))))))
    refine hret h' tk' ((70, tblOf ps) :: (x, pileObj 101 dx (entRefs (es ++ [⟨T, t1, c, t2⟩])) (n + 1)) :: (dx, sizeDict w tt (.int 0 tv)) :: (T, entObj ⟨T, t1, c, t2⟩) :: rest) F' (fun q hq => ?_) (fun q hq => ?_) ?_
    · rw [entRefs_push] at hq
      refine N' q ?_
      simp only [List.cons_append, List.mem_cons, List.mem_append] at hq ⊢
      rcases hq with h | h | h | h | h | h
      · exact .inr (.inr (.inr (.inl h)))
      · exact .inr (.inl h)
      · exact .inr (.inr (.inl h))
      · exact .inl h
      · exact .inr (.inr (.inr (.inr (.inl h))))
      · exact .inr (.inr (.inr (.inr (.inr h))))
    · rcases List.mem_cons.mp hq with rfl | hq
      · exact h7o
      · rcases List.mem_cons.mp hq with rfl | hq
        · exact hxo
        · rcases List.mem_cons.mp hq with rfl | hq
          · exact hoff (dx, sizeDict w tt (.int 0 tv)) (.tail _ (.tail _ (.head _)))
          · rcases List.mem_cons.mp hq with rfl | hq
            · exact hTo
            · exact hoff q (.tail _ (.tail _ (.tail _ hq)))
    · refine ⟨es ++ [⟨T, t1, c, t2⟩], n + 1, (T, entObj ⟨T, t1, c, t2⟩) :: rest, rfl, fun e hem => ?_, fun q hq => .tail _ (hn q hq), fun q hq => ?_, hx7, fun q hq => ?_, hd7, by simp [hes]⟩
      · rcases List.mem_append.mp hem with hem | hem
        · exact .tail _ (he e hem)
        · rw [List.mem_singleton.mp hem]; exact .head _
      · rcases List.mem_cons.mp hq with rfl | hq
        · exact hx _ (.head _)
        · rcases List.mem_cons.mp hq with rfl | hq
          · exact hTx
          · exact hx q (.tail _ hq)
      · rcases List.mem_cons.mp hq with rfl | hq
        · exact hT7
        · exact hr7 q hq
end Mine
end

section
open PySem PySem.W PyProof.Rows PySem.Spec PySem.Calls
set_option maxHeartbeats 4000000
namespace Mine
theorem pop_J {w : World} {p : Program} {loose : List Str} {mean : ExcName → Option Value} {mg mb : Str → Option Value} {x dx : Addr} {tt tv : Tok} {ps : Array Value} {news news₁ own : List (Addr × Obj)} {off : List Addr} {st : List Str}
    {dp un : Nat} {gd : Option (List Code)} {cn : Str} {cs : Scope} {a : Addr} {ccd : Value} {cl : List (Str × Addr)} {outer : List Env} {A₀ : Around} {base h₀ : Heap} {L : Addr} {m : Str → Option Value} {s : Shared} {Q E : Value → Shared → Prop}
    (J : PileJ w x dx tt tv (70, tblOf ps) news st news₁) (hoff : ∀ q ∈ news₁, q.1 ∉ off) (hown : ∀ q ∈ own, q.1 ∈ off) (hst : st.length ≤ 900)
    (hB : Below A₀ base outer h₀) (hF : Fr h₀ L s.heap m) (hX : (hd.heap_39 w.params).In h₀) (hN : News h₀ L s.heap (news₁ ++ own)) (hT : Top p loose mean mg mb h₀) (hk : cs.kind = .function) (hdp : dp + 4 < recursionLimit) (hun : un + 20 < cLine)
    (hret : ∀ v h' tk' news₂, Fr h₀ L h' m → News h₀ L h' (news₂ ++ own) → (∀ q ∈ news₂, q.1 ∉ off) → PileJ w x dx tt tv (70, tblOf ps) news st.dropLast news₂ → Q v { s with heap := h', toks := tk' }) :
    wpAny (model PySem.Challenge.rw_tc0006_01.row.prog w) (ktrTop dp un gd cn cs L a ccd cl outer) (call (.ref 61) [.ref x]) Q E s := by
  obtain ⟨es, n, rest, rfl, he, hn, hx, hx7, hr7, hd7, hes⟩ := J
  have hlen : es.length = st.length := by rw [← hes]; simp
  have hxo : x ∉ off := hoff (x, pileObj 101 dx (entRefs es) n) (.tail _ (.head _))
  have h7o : 70 ∉ off := hoff (70, tblOf ps) (.head _)
  refine (pop_spec x dx (entRefs es) n tt tv ((70, tblOf ps) :: (rest ++ own)) (by simp [entRefs]; omega) ?_) dp un gd cn cs a ccd cl outer A₀ base h₀ L m s Q E hB hF hX (fun q hq => ?_) hT hk trivial hdp hun ?_
  · intro q hq
    rcases List.mem_cons.mp hq with rfl | hq
    · exact hx _ (.head _)
    · rcases List.mem_cons.mp hq with rfl | hq
      · exact hx7.symm
      · rcases List.mem_append.mp hq with hq | hq
        · exact hx q (.tail _ hq)
        · exact fun e => hxo (e ▸ hown q hq)
  · refine hN q ?_
    rcases List.mem_cons.mp hq with rfl | hq
    · exact .tail _ (.head _)
    · rcases List.mem_cons.mp hq with rfl | hq
      · exact .tail _ (.tail _ (.head _))
      · rcases List.mem_cons.mp hq with rfl | hq
        · exact .head _
        · exact .tail _ (.tail _ (.tail _ hq))
  · intro v n' h' tk' F' N'
    refine hret v h' tk' ((70, tblOf ps) :: (x, pileObj 101 dx (entRefs es.dropLast) n') :: (dx, sizeDict w tt (.int 0 tv)) :: rest) F' (fun q hq => ?_) (fun q hq => ?_) ?_
    · rw [entRefs_pop] at hq
      refine N' q ?_
      simp only [List.cons_append, List.mem_cons, List.mem_append] at hq ⊢
      rcases hq with h | h | h | h | h
      · exact .inr (.inr (.inl h))
      · exact .inl h
      · exact .inr (.inl h)
      · exact .inr (.inr (.inr (.inl h)))
      · exact .inr (.inr (.inr (.inr h)))
    · rcases List.mem_cons.mp hq with rfl | hq
      · exact h7o
      · rcases List.mem_cons.mp hq with rfl | hq
        · exact hxo
        · exact hoff q (.tail _ (.tail _ hq))
    · refine ⟨es.dropLast, n', rest, rfl, fun e hem => he e (List.dropLast_subset _ hem), hn, hx, hx7, hr7, hd7, by rw [List.map_dropLast, hes]⟩

theorem abc_take {i c : Nat} (h : (Str.ofString "abcde").cps[i]? = some c) : goneInit.take i ++ [⟨#[c]⟩] = goneInit.take (i + 1) ∧ i < 5 := by
  have e : (Str.ofString "abcde").cps = #[97, 98, 99, 100, 101] := by decide +kernel
  rw [e] at h
  rcases i with _ | _ | _ | _ | _ | i
  · cases h; exact ⟨rfl, by decide⟩
  · cases h; exact ⟨rfl, by decide⟩
  · cases h; exact ⟨rfl, by decide⟩
  · cases h; exact ⟨rfl, by decide⟩
  · cases h; exact ⟨rfl, by decide⟩
  · simp at h
theorem abc_all : goneInit.take (Str.ofString "abcde").cps.size = goneInit := by decide +kernel

theorem gone_spec {w : World} {p : Program} {loose : List Str} {mean : ExcName → Option Value} {mg mb : Str → Option Value} (x sg : Str) (tx ts : Tok) (news : List (Addr × Obj)) (ps : Array Value)
   (hx : x.length ≤ 50) (hs : (stripF x).length ≤ 50) (hsg : sg.length ≤ 1) (ht : TabOk strPos ps) (h70 : ∀ q ∈ news, q.1 ≠ 70) :
   KClaim w p loose mean mg mb 152 [.str x tx, .str sg ts] ((70, tblOf ps) :: news) 9 90 True (fun h₀ L m s Q => ∀ t h' tk' gs ps', Fr h₀ L h' m →
     News h₀ L h' ((70, tblOf ps') :: news) → TabOk strPos ps' → GUp s.gens gs → Q (.str (goneTxt sg x) t) { s with heap := h', toks := tk', gens := gs }) := by
  unfold KClaim; k_fill
  intro dp un gd cn cs a ccd cl outer A₀ base h₀ L m s Q E hB hF hX hN hT hk _ hdp hun hret
  refine wpAny_call ?_
  k_dflt cell_enter
  repeat' (first | (k_unfold; (try dsimp only)) | ((fail_if_success (with_reducible show wpAny _ _ (call _ _ _) _ _ _)); walk1))
  dsimp only [List.append_nil]
  refine (new_spec _) _ _ _ _ _ _ _ _ _ _ _ _ _ _ _ _ _ (by assumption) (by assumption) (by assumption) (by assumption) (by assumption) rfl trivial (show dp + 1 + 2 < recursionLimit by omega) (show un + 3 + 10 < cLine by omega) ?_
  intro x1 dx tv tt h1 tk1 F1 N1 lt1 lt2
  dsimp only at F1 N1 ⊢
  repeat' (first | (k_unfold; (try dsimp only)) | ((fail_if_success (with_reducible show wpAny _ _ (exec (Stmt.For _ _ _ _ _) _) _ _ _)); walk1))
  refine wpAny_For ?_
  repeat' (first | (k_unfold; (try dsimp only)) | ((fail_if_success (with_reducible show wpAny _ _ (pyIter _) _ _ _)); walk1))
  rename Fr _ _ _ _ => F2
  rename News _ _ _ _ => N2
  have h7x : (70 : Nat) < dx := lt1 (70, tblOf ps) (.head _)
  refine for_strG (fun i m₁ news₁ => (∀ q ∈ [(("text" : Str), Value.str x tx), ("sign", .str sg ts), ("pile", .ref x1)], m₁ q.1 = some q.2) ∧ PileJ w x1 dx tt tv (70, tblOf ps) news (goneInit.take i) news₁)
    (news₀ := (70, tblOf ps) :: (x1, pileObj 101 dx #[] 0) :: (dx, sizeDict w tt (.int 0 tv)) :: news) rfl (by decide +kernel) rfl rfl F2 (fun q hq => N2 q ?_) ⟨?_, ?_⟩ ?_ ?_
  · simp only [List.mem_cons] at hq ⊢
    rcases hq with h | h | h | h
    · exact .inr (.inr (.inl h))
    · exact .inl h
    · exact .inr (.inl h)
    · exact .inr (.inr (.inr h))
  · exact all_cons (by with_unfolding_all rfl) (all_cons (by with_unfolding_all rfl) (all_cons (by with_unfolding_all rfl) all_nil))
  · refine ⟨[], 0, news, rfl, (fun e h => by cases h), fun q h => h, fun q hq => ?_, Nat.ne_of_gt (Nat.lt_trans h7x lt2), h70, Nat.ne_of_gt h7x, rfl⟩
    rcases List.mem_cons.mp hq with rfl | hq
    · exact Nat.ne_of_lt lt2
    · exact Nat.ne_of_lt (Nat.lt_trans (lt1 q (.tail _ hq)) lt2)
  · rintro i c u m₁ news₁ own off h tk4 gs hc ⟨hm, J⟩ hoff hown hlt F4 N4 hG4
    obtain ⟨habc, hi5⟩ := abc_take hc
    rw [kstB_self hm] at F4
    dsimp only [kstB] at F4
    repeat' (first | (k_unfold; (try dsimp only)) | ((fail_if_success (with_reducible show wpAny _ _ (getMethod _ _ _) _ _ _)); walk1))
    have J0 := J
    obtain ⟨es, n, rest, hn1, _⟩ := J0
    refine method_pile (F := F4) (X₀ := by assumption) (N := N4) (its := entRefs es) (n := n) (dx := dx) (tt := tt) (tv := tv) (by rw [hn1]; exact .tail _ (.head _)) (by rw [hn1]; exact .tail _ (.tail _ (.head _))) (v := .ref 45) (t := .type "function") (by with_unfolding_all rfl) (by with_unfolding_all rfl) (by decide +kernel) (by k_dflt k_get) ?_
    dsimp only
    repeat' (first | (k_unfold; (try dsimp only)) | ((fail_if_success (with_reducible show wpAny _ _ (call _ _ _) _ _ _)); walk1))
    refine push_J J hoff hown hlt (by rw [List.length_take]; exact Nat.le_trans (Nat.min_le_right _ _) (by decide)) (by assumption) F4 (by assumption) N4 (by assumption) rfl (show dp + 1 + 2 < recursionLimit by omega) (show un + 3 + 10 < cLine by omega) ?_
    intro h5 tk5 news2 F5 N5 hoff5 J5
    rw [habc] at J5
    dsimp only
    repeat' (first | (k_unfold; (try dsimp only)) | ((fail_if_success (with_reducible show wpAny _ _ (call _ _ _) _ _ _)); walk1))
    exact turnEndG_of F5 N5 (GUp.refl _) hoff5 ⟨all_cons (by with_unfolding_all rfl) (all_cons (by with_unfolding_all rfl) (all_cons (by with_unfolding_all rfl) all_nil)), J5⟩
  · rintro m₁ news₁ h tk4 gs ⟨hm, J⟩ F4 N4 hG4
    rw [abc_all] at J
    rw [kstB_self hm] at F4
    dsimp only [kstB] at F4
    dsimp only
    repeat' (first | (k_unfold; (try dsimp only)) | ((fail_if_success (with_reducible show wpAny _ _ (exec (Stmt.For _ _ _ _ _) _) _ _ _)); walk1))
    refine wpAny_For ?_
    repeat' (first | (k_unfold; (try dsimp only)) | ((fail_if_success (with_reducible show wpAny _ _ (call _ _ _) _ _ _)); walk1))
    refine (strip_spec x tx news₁ (by omega)) _ _ _ _ _ _ _ _ _ _ _ _ _ _ _ _ _ (by assumption) F4 (by assumption) N4 (by assumption) rfl trivial (show dp + 1 + 3 < recursionLimit by omega) (show un + 3 + 16 < cLine by omega) ?_
    intro t5 h5 tk5 gs5 F5 N5 hG5
    dsimp only at F5 N5 hG5 ⊢
    repeat' (first | (k_unfold; (try dsimp only)) | ((fail_if_success (with_reducible show wpAny _ _ (call _ _ _) _ _ _)); walk1))
    refine esc_for (fun j m₁ news₁ => (∀ q ∈ [(("text" : Str), Value.str x tx), ("sign", .str sg ts), ("pile", .ref x1)], m₁ q.1 = some q.2) ∧ PileJ w x1 dx tt tv (70, tblOf ps) news (((escF false 0 (stripF x).cps.toList).take j).foldl (goneStep sg) goneInit) news₁)
      rfl (show dp + 1 < recursionLimit by omega) rfl rfl rfl F5 N5 (by assumption) (by assumption) ⟨?_, J⟩ ?_ ?_
    · exact all_cons (by with_unfolding_all rfl) (all_cons (by with_unfolding_all rfl) (all_cons (by with_unfolding_all rfl) all_nil))
    · rintro j x' t u m₁ news₁ own off h tk₁ gs hx' ⟨hm, J⟩ hoff hown hlt F6 N6 hG6
      have hj : j < (stripF x).length := by
        have h1 := (List.getElem?_eq_some_iff.mp hx').1
        have h2 := escF_length (stripF x).cps.toList false 0
        have h3 : (stripF x).cps.toList.length = (stripF x).length := by simp [Str.length]
        simp only [Bool.false_eq_true, if_false] at h2
        omega
      have hlen : (((escF false 0 (stripF x).cps.toList).take j).foldl (goneStep sg) goneInit).length ≤ 900 := by
        refine Nat.le_trans (gone_len _ _ _) ?_
        have h1 : ((escF false 0 (stripF x).cps.toList).take j).length ≤ j := by rw [List.length_take]; exact Nat.min_le_left _ _
        have h2 : goneInit.length = 5 := rfl
        omega
      have hsnoc : ((escF false 0 (stripF x).cps.toList).take (j + 1)).foldl (goneStep sg) goneInit = goneStep sg (((escF false 0 (stripF x).cps.toList).take j).foldl (goneStep sg) goneInit) x' := by
        rw [List.take_add_one, hx', List.foldl_append]; rfl
      rw [kstB_self hm] at F6
      dsimp only [kstB] at F6
      have J0 := J
      obtain ⟨es, n, rest, hn1, _⟩ := J0
      obtain ⟨xp, xc⟩ := x'
      repeat' (first | (k_unfold; (try dsimp only)) | ((fail_if_success (with_reducible show wpAny _ _ (getMethod _ _ _) _ _ _)); walk1))
      · rename_i hc
        have hc' : xc = ⟨#[40]⟩ := open_eq hc
        refine method_pile (F := F6) (X₀ := by assumption) (N := N6) (its := entRefs es) (n := n) (dx := dx) (tt := tt) (tv := tv) (by rw [hn1]; exact .tail _ (.head _)) (by rw [hn1]; exact .tail _ (.tail _ (.head _))) (v := .ref 45) (t := .type "function") (by with_unfolding_all rfl) (by with_unfolding_all rfl) (by decide +kernel) (by k_dflt k_get) ?_
        dsimp only
        repeat' (first | (k_unfold; (try dsimp only)) | ((fail_if_success (with_reducible show wpAny _ _ (call _ _ _) _ _ _)); walk1))
        refine push_J J hoff hown hlt hlen (by assumption) F6 (by assumption) N6 (by assumption) rfl (show dp + 1 + 2 < recursionLimit by omega) (show un + 3 + 10 < cLine by omega) ?_
        intro h7 tk7 news2 F7 N7 hoff7 J7
        dsimp only
        repeat' (first | (k_unfold; (try dsimp only)) | ((fail_if_success (with_reducible show wpAny _ _ (call _ _ _) _ _ _)); walk1))
        refine turnEnd_of F7 N7 hoff7 ⟨all_cons (by with_unfolding_all rfl) (all_cons (by with_unfolding_all rfl) (all_cons (by with_unfolding_all rfl) all_nil)), ?_⟩
        rw [hsnoc]
        simp only [goneStep, hc', if_true]
        exact J7
      · have hc1' : xc ≠ ⟨#[40]⟩ := open_ne (by assumption)
        have hc2' : xc = ⟨#[41]⟩ := shut_eq (by assumption)
        refine method_pile (F := F6) (X₀ := by assumption) (N := N6) (its := entRefs es) (n := n) (dx := dx) (tt := tt) (tv := tv) (by rw [hn1]; exact .tail _ (.head _)) (by rw [hn1]; exact .tail _ (.tail _ (.head _))) (v := .ref 61) (t := .type "function") (by with_unfolding_all rfl) (by with_unfolding_all rfl) (by decide +kernel) (by k_dflt k_get) ?_
        dsimp only
        repeat' (first | (k_unfold; (try dsimp only)) | ((fail_if_success (with_reducible show wpAny _ _ (call _ _ _) _ _ _)); walk1))
        (try dsimp only [List.append_nil])
        refine pop_J J hoff hown hlen (by assumption) F6 (by assumption) N6 (by assumption) rfl (show dp + 1 + 4 < recursionLimit by omega) (show un + 3 + 20 < cLine by omega) ?_
        intro v7 h7 tk7 news2 F7 N7 hoff7 J7
        dsimp only
        repeat' (first | (k_unfold; (try dsimp only)) | ((fail_if_success (with_reducible show wpAny _ _ (call _ _ _) _ _ _)); walk1))
        refine turnEnd_of F7 N7 hoff7 ⟨all_cons (by with_unfolding_all rfl) (all_cons (by with_unfolding_all rfl) (all_cons (by with_unfolding_all rfl) all_nil)), ?_⟩
        rw [hsnoc]
        simp only [goneStep]
        rw [if_neg hc1', if_pos hc2']
        exact J7
      · have hc1' : xc ≠ ⟨#[40]⟩ := open_ne (by assumption)
        have hc2' : xc ≠ ⟨#[41]⟩ := shut_ne (by assumption)
        refine turnEnd_of F6 N6 hoff ⟨all_cons (by with_unfolding_all rfl) (all_cons (by with_unfolding_all rfl) (all_cons (by with_unfolding_all rfl) all_nil)), ?_⟩
        rw [hsnoc]
        simp only [goneStep]
        rw [if_neg hc1', if_neg hc2']
        exact J
    · rintro m₁ news₁ h tk₁ gs ⟨hm, J⟩ F6 N6 hG6
      rw [List.take_length] at J
      rw [kstB_self hm] at F6
      dsimp only [kstB] at F6
      dsimp only
      repeat' (first | (k_unfold; (try dsimp only)) | ((fail_if_success (with_reducible show wpAny _ _ (call _ _ _) _ _ _)); walk1))
      obtain ⟨es, n, rest, rfl, he, hn, hxr, hx7, hr7, hd7, hes⟩ := J
      have hcs : ∀ e ∈ es, e.c.length ≤ 1 := fun e hem => by
        have h1 : e.c ∈ es.map (·.c) := List.mem_map.mpr ⟨e, hem, rfl⟩
        rw [hes] at h1
        exact gone_mem sg _ _ (by decide) hsg _ h1
      have hlen : es.length ≤ 100 := by
        have h1 : es.length = (es.map (·.c)).length := by simp
        rw [h1, hes]
        refine Nat.le_trans (gone_len _ _ _) ?_
        have h2 := escF_length (stripF x).cps.toList false 0
        have h3 : (stripF x).cps.toList.length = (stripF x).length := by simp [Str.length]
        have h4 : goneInit.length = 5 := rfl
        simp only [Bool.false_eq_true, if_false] at h2
        omega
      have h70' : ∀ q ∈ (x1, pileObj 101 dx (entRefs es) n) :: (dx, sizeDict w tt (.int 0 tv)) :: rest, q.1 ≠ 70 := fun q hq => by
        rcases List.mem_cons.mp hq with rfl | hq
        · exact hx7
        · rcases List.mem_cons.mp hq with rfl | hq
          · exact hd7
          · exact hr7 q hq
      refine kso_call (x := x1) (C := 101) (f := 75) (show un + 3 + 1 + 1 < cLine by omega) (Frag.In.keeps (by assumption) F6.keep) (instL N6 (.tail _ (.head _)) (.tail _ (.tail _ (.head _)))) (by with_unfolding_all rfl) (by with_unfolding_all rfl) ?_
      refine (str_spec x1 dx es n tt tv rest ps hlen hcs ht he h70') (dp + 1) (un + 3 + 1 + 1) _ _ _ _ _ _ _ _ _ _ _ _ _ _ _ (by assumption) F6 (by assumption) N6 (by assumption) rfl trivial (show dp + 1 + 3 < recursionLimit by omega) (show un + 3 + 1 + 1 + 20 < cLine by omega) ?_
      intro t8 h8 tk8 gs8 ps8 F8 N8 ht8 hG8
      dsimp only [StrBack]
      k_unfold
      dsimp only
      refine leaveK_ F8 N8 fun kF kN => ?_
      have hfin := hret t8 _ tk8 gs8 ps8 kF (fun q hq => kN q ?_) ht8 ?_
      · unfold goneTxt goneRun at hfin
        rw [← hes] at hfin
        exact hfin
      · rcases List.mem_cons.mp hq with rfl | hq
        · exact .head _
        · exact .tail _ (.tail _ (.tail _ (hn q hq)))
      · exact hG4.trans (hG5.trans (hG6.trans hG8))
end Mine
end

section
open PySem PySem.W PyProof.Rows PySem.Spec PySem.Calls
set_option maxHeartbeats 4000000
namespace Mine
abbrev lawCells (L : Addr) : List (Str × Addr) := [("begin", L + 1 + 1 + 1 + 1), ("far", L + 1 + 1 + 1), ("two", L + 1 + 1), ("cells", L + 1)]
abbrev lawEnv (L a : Addr) (cd : Value) : Env := envX (fnName 19) (fnScope 19) L a cd (lawCells L)
def lawIx : Nat → Stmt := stmtAt (fnBody 19)
theorem ints_pick {vs : List Value} {zs : List Int} (h : IntsAre vs zs) : ∀ l : List Nat, ∃ zs', IntsAre (l.filterMap (vs.toArray[·]?)) zs' ∧ zs'.length ≤ l.length
  | [] => ⟨[], .nil, Nat.le_refl _⟩
  | i :: l => by
    obtain ⟨zs', h1, h2⟩ := ints_pick h l
    by_cases hi : i < zs.length
    · obtain ⟨t, ht⟩ := h.get i zs[i] (by simp [hi])
      refine ⟨zs[i] :: zs', ?_, Nat.succ_le_succ h2⟩
      rw [List.filterMap_cons, show vs.toArray[i]? = some (Value.int zs[i] t) by simpa using ht]
      exact .cons _ _ h1
    · refine ⟨zs', ?_, Nat.le_succ_of_le h2⟩
      rw [List.filterMap_cons, show vs.toArray[i]? = none by simp [h.length]; omega]
      exact h1
theorem ints_slice {vs : List Value} {zs : List Int} (h : IntsAre vs zs) (p : Nat) (hz : zs.length ≤ 20) : ∃ zs', IntsAre (slicePick vs.toArray (some (p : Int)) none (some 10)).toList zs' ∧ zs'.length ≤ 20 := by
  obtain ⟨zs', h1, h2⟩ := ints_pick h (sliceRange (sliceBounds (some (p : Int)) none (some 10) vs.toArray.size).1 (sliceBounds (some (p : Int)) none (some 10) vs.toArray.size).2.1 (sliceBounds (some (p : Int)) none (some 10) vs.toArray.size).2.2)
  have hl : vs.toArray.size ≤ 20 := by rw [List.size_toArray, h.length]; exact hz
  refine ⟨zs', h1, Nat.le_trans h2 (Nat.le_trans (sliceRange_length_le _ _ _ vs.toArray.size (fun _ => ?_) fun hc => ?_) hl)⟩
  · simp only [sliceBounds, Option.getD_some]
    refine ⟨?_, ?_⟩
    · simp only [show ((10 : Int) > 0) = True by simp, if_true]; omega
    · simp
  · exact absurd (show (10 : Int) > 0 by decide) hc
theorem ints_snoc {vs : List Value} {zs : List Int} (h : IntsAre vs zs) (n : Int) (t : Tok) : IntsAre (vs ++ [.int n t]) (zs ++ [n]) := by
  induction h with
  | nil => exact .cons _ _ .nil
  | cons a ta _ ih => exact .cons _ _ ih
theorem law_s1 {w : World} {p : Program} {loose : List Str} {mean : ExcName → Option Value} {mg mb : Str → Option Value} {zs : List Int} {ys : List Value} {D : Addr}
    {dp un : Nat} {gd : Option (List Code)} {outer : List Env} {A₀ : Around} {base h₀ : Heap} {L a : Addr} {cd : Value} {m : Str → Option Value} {s : Shared} {Q : Flow → Shared → Prop} {E : Value → Shared → Prop}
    {o1 o2 o3 o4 : Obj} {ps : List Value}
    (h70 : @LT.lt Nat instLTNat 70 L) (hI : IntsAre ys zs) (hlen : zs.length ≤ 20)
    (hB : Below A₀ base outer h₀) (F : Fr h₀ L s.heap m) (hX : (hd.heap_39 w.params).In h₀) (N : News h₀ L s.heap [(L + 1 + 1 + 1 + 1, o4), (L + 1 + 1 + 1, o3), (L + 1 + 1, o2), (L + 1, o1), (D, LCg.lst ys), (70, tblOf ps.toArray)])
    (d1 : o1.data = .cell (some (.ref D)))
    (hT : Top p loose mean mg mb h₀) (hdp : dp + 20 < recursionLimit) (hun : un + 200 < cLine)
    (hQ : ∀ D2 ns ys' h' tk' gs', IntsAre ys' ns → ns.length = 10 → (∀ u ∈ ns, 0 ≤ u ∧ u < 6) → Fr h₀ L h' (fun z => if z = "numbers" then some (.ref D2) else m z) →
      News h₀ L h' ((D2, LCg.lst ys') :: [(L + 1 + 1 + 1 + 1, o4), (L + 1 + 1 + 1, o3), (L + 1 + 1, o2), (L + 1, o1), (D, LCg.lst ys), (70, tblOf ps.toArray)]) → (∀ p ∈ [(L + 1 + 1 + 1 + 1, o4), (L + 1 + 1 + 1, o3), (L + 1 + 1, o2), (L + 1, o1), (D, LCg.lst ys), (70, tblOf ps.toArray)], p.1 ≠ D2) → GUp s.gens gs' → Q .next { s with heap := h', toks := tk', gens := gs' }) :
    wpAny (model PySem.Challenge.rw_tc0006_01.row.prog w) (ktrTop dp un gd (fnName 19) (fnScope 19) L a cd (lawCells L) outer) (exec (lawIx 1) (lawEnv L a cd)) Q E s := by
  have hX' := hX
  revert hX; k_fill; intro hX
  obtain ⟨h, g, d, tk, os⟩ := s
  dsimp only at F N
  show wpAny _ _ (exec (.Assign [.Name _ _] (.ListComp _ [⟨.Tuple [.Name _ _, .Name _ _] _ _, _, [], 0⟩] _ _) _) _) _ _ _
  refine comp_use (cl := [("cells", L + 1)]) (by with_unfolding_all rfl) (by with_unfolding_all rfl) rfl (by decide) ?_
  repeat' (first | (k_unfold; (try dsimp only)) | ((fail_if_success (with_reducible show wpAny _ _ (pyIter _) _ _ _)); walk1))
  rename Fr _ _ _ _ => F2
  rename News _ _ _ _ => N2
  rename_i l' h2 l1
  obtain ⟨items, N2', hs10, hin⟩ : ∃ items : Array Value, News h₀ L h2 ((l', listOf items 0) :: [(L + 1 + 1 + 1 + 1, o4), (L + 1 + 1 + 1, o3), (L + 1 + 1, o2), (L + 1, o1), (D, LCg.lst ys), (70, tblOf ps.toArray)]) ∧ items.size = 10 ∧ IntsAre items.toList [1, 4, 0, 5, 4, 1, 1, 0, 0, 5] := ⟨_, N2, rfl, by repeat constructor⟩
  clear N2
  refine call_enumerate_1 (N2' _ (.head _)).1 fun h3 he hit hsz3 hk3 => ?_
  dsimp only
  have hl3 := (N2' _ (.head _)).1
  have F3 := F2.keeps hk3
  have N3 : News h₀ L h3 [(L + 1 + 1 + 1 + 1, o4), (L + 1 + 1 + 1, o3), (L + 1 + 1, o2), (L + 1, o1), (D, LCg.lst ys), (70, tblOf ps.toArray)] := fun p hp => N2'.grown hk3 p (.tail _ hp)
  have hL2 : @LT.lt Nat instLTNat L h2.objs.size := F2.ns.lt
  have hl2 : @LT.lt Nat instLTNat l' h2.objs.size := Heap.lt_size hl3
  have fresh : ∀ b, h2.objs.size ≤ b → h₀.get? b = none := fun b hb => by
    cases e : h₀.get? b with
    | none => rfl
    | some o => exact absurd (Heap.lt_size (F2.keep b o e)) (Nat.not_lt.mpr hb)
  have n1 : h2.objs.size + 1 ≠ h2.objs.size := Nat.succ_ne_self _
  have n2 : l' ≠ h2.objs.size + 1 := Nat.ne_of_lt (Nat.lt_succ_of_lt hl2)
  have n3 : l' ≠ h2.objs.size := Nat.ne_of_lt hl2
  have W0 := (WalksT.enumerate (prog := PySem.Challenge.rw_tc0006_01.row.prog) (w := w) (A := ktrTop dp un gd (fnName 19) (fnScope 19) L a cd (lawCells L) outer) rfl (h2.objs.size + 1) h2.objs.size l' n1 n2 n3 items).toU
  rw [hs10] at W0
  refine wpAny_pyIter_enum he ?_
  refine comp_pair (s₂ := ⟨h3, _, _, _, _⟩) (fun i ys' news => ∃ ns, IntsAre ys' ns ∧ ns.length = i ∧ (∀ u ∈ ns, 0 ≤ u ∧ u < 6) ∧ news = [(L + 1 + 1 + 1 + 1, o4), (L + 1 + 1 + 1, o3), (L + 1 + 1, o2), (L + 1, o1), (D, LCg.lst ys), (70, tblOf ps.toArray)])
    W0 rfl (by decide) (by rintro i vals ⟨t, x, _, rfl⟩; exact ⟨_, _, rfl⟩) (by decide) rfl rfl rfl (by decide) rfl rfl ?_ ?_ ?_ ?_ ⟨⟨_, he⟩, hit, ⟨_, hk3 _ _ hl3, rfl, _, rfl⟩⟩ F3 N3 ⟨[], .nil, rfl, (by simp), rfl⟩ ?_ ?_
  · intro b hb
    show b < h3.objs.size
    rw [hsz3]
    simp only [List.mem_cons, List.not_mem_nil, or_false] at hb
    rcases hb with rfl | rfl | rfl
    · exact Nat.lt_succ_self _
    · exact Nat.lt_succ_of_lt (Nat.lt_succ_self _)
    · exact Nat.lt_succ_of_lt (Nat.lt_succ_of_lt hl2)
  · intro b hb
    simp only [List.mem_cons, List.not_mem_nil, or_false] at hb
    rcases hb with rfl | rfl | rfl
    · exact fresh _ (Nat.le_succ _)
    · exact fresh _ (Nat.le_refl _)
    · exact (N2' _ (.head _)).2.2
  · intro hb
    simp only [List.mem_cons, List.not_mem_nil, or_false] at hb
    rcases hb with e | e | e
    · exact absurd (show @LT.lt Nat instLTNat L (h2.objs.size + 1) from Nat.lt_succ_of_lt hL2) (e ▸ Nat.lt_irrefl _)
    · exact absurd hL2 (e ▸ Nat.lt_irrefl _)
    · exact (N2' _ (.head _)).2.1 e.symm
  · intro p hp hb
    have h1 : @LT.lt Nat instLTNat p.1 h2.objs.size := Heap.lt_size (N2' p (.tail _ hp)).1
    have h2' : p.1 ≠ l' := by
      simp only [List.mem_cons, List.not_mem_nil, or_false] at hp
      rcases hp with rfl | rfl | rfl | rfl | rfl | rfl
      · exact Nat.ne_of_lt l1.1
      · exact Nat.ne_of_lt l1.2.1
      · exact Nat.ne_of_lt l1.2.2.1
      · exact Nat.ne_of_lt l1.2.2.2.1
      · exact Nat.ne_of_lt l1.2.2.2.2.1
      · exact Nat.ne_of_lt l1.2.2.2.2.2
    simp only [List.mem_cons, List.not_mem_nil, or_false] at hb
    rcases hb with e | e | e
    · exact absurd (Nat.lt_succ_of_lt h1) (e ▸ Nat.lt_irrefl _)
    · exact absurd h1 (e ▸ Nat.lt_irrefl _)
    · exact h2' e
  · rintro i v₁ v₂ C oC D2 ys' news own m' h5 tk5 gs5 E' hi ⟨ti, x, hx, hv⟩ ⟨ns, hns, hnl, hnb, rfl⟩ hoC hm1 hm2 F5 N5 hCD off hown hCf hDf hG5
    obtain ⟨rfl, rfl⟩ : v₁ = .int i ti ∧ v₂ = x := by injection hv with hv; injection hv with e1 e2; injection e2 with e2 e3; exact ⟨e1, e2⟩
    obtain ⟨st, tst, rfl, hst⟩ : ∃ st tst, v₂ = Value.int st tst ∧ (0 ≤ st ∧ st < 6) := by
      have hin' : ∀ (l : List Int), IntsAre items.toList l → (∀ z ∈ l, 0 ≤ z ∧ z < 6) → i < l.length → ∃ st tst, v₂ = Value.int st tst ∧ (0 ≤ st ∧ st < 6) := by
        intro l hl hb hil
        obtain ⟨t, ht⟩ := hl.get i l[i] (by simp [hil])
        rw [Array.getElem?_toList, hx] at ht
        exact ⟨l[i], t, Option.some.inj ht, hb _ (List.getElem_mem hil)⟩
      exact hin' _ hin (by decide) hi
    clear F2 F3 N3 N2'
    dsimp only at F5 N5 ⊢
    repeat' (first | (k_unfold; (try dsimp only)) | ((fail_if_success (with_reducible show wpAny _ _ (subscriptTail _ _ _ _) _ _ _)); walk1))
    have hml : (D, LCg.lst ys) ∈ (C, oC) :: (D2, LCg.lst ys') :: ([(L + 1 + 1 + 1 + 1, o4), (L + 1 + 1 + 1, o3), (L + 1 + 1, o2), (L + 1, o1), (D, LCg.lst ys), (70, tblOf ps.toArray)] ++ own) := by simp
    have hl5 : h5.IsList D ys.toArray := ⟨_, (N5 _ hml).1, rfl, _, rfl⟩
    obtain ⟨zs', hzs, hzl⟩ := ints_slice hI i hlen
    generalize hws : (slicePick ys.toArray (some (i : Int)) none (some 10)).toList = ws at hzs
    refine kmk_slice3_lit (s := ⟨h5, gs5, _, _, _⟩) F5 N5 hl5 (.int _ _) .none (.int _ _) (by decide) hws ?_ (by with_unfolding_all rfl) (by intro _; with_unfolding_all rfl) (by rw [List.size_toArray, hI.length, sizeLine_eq]; omega)
    intro D3 h6 F6 N6 l3
    dsimp only
    repeat' (first | (k_unfold; (try dsimp only)) | ((fail_if_success (with_reducible show CompTurn _ _ _ _ _ _ _ _ _ _ _ _ _)); walk1))
    rename Fr _ _ _ _ => F7
    rename News _ _ _ _ => N7
    refine ⟨_, _, gs5, _, [(L + 1 + 1 + 1 + 1, o4), (L + 1 + 1 + 1, o3), (L + 1 + 1, o2), (L + 1, o1), (D, LCg.lst ys), (70, tblOf ps.toArray)], rfl, GUp.refl _, F7, N7, ⟨.tail _ (.head _), .tail _ (.tail _ (.head _))⟩, fun p hp => .tail _ (.tail _ (.tail _ (List.mem_append_right _ hp))), fun p hp => .tail _ (.tail _ (.tail _ (List.mem_append_left _ hp))), off,
      ns ++ [(st + zs'.sum).fmod 6], ints_snoc hns _ _, by simp [hnl], ?_, rfl⟩
    intro u hu
    rcases List.mem_append.mp hu with hu | hu
    · exact hnb u hu
    · rw [List.mem_singleton.mp hu]
      exact ⟨Int.fmod_nonneg_of_pos _ (by decide), Int.fmod_lt_of_pos _ (by decide)⟩
  · rintro D2 ys' news h5 tk5 gs5 ⟨ns, hns, hnl, hnb, rfl⟩ F5 N5 hoff hG5
    exact hQ D2 ns ys' h5 tk5 gs5 hns hnl hnb F5 N5 hoff hG5
end Mine
end

section
open PySem PySem.W PyProof.Rows PySem.Spec PySem.Calls
set_option maxHeartbeats 4000000
namespace Mine
def flipU (u : Int) : Int := if u < 4 then u + 1 - 2 * u.fmod 2 else u
def wayOf (one two : List Int) : List Int := one.reverse.map flipU ++ two
theorem law_s3 {w : World} {p : Program} {loose : List Str} {mean : ExcName → Option Value} {mg mb : Str → Option Value} {ns : List Int} {ys : List Value} {D : Addr}
    {dp un : Nat} {gd : Option (List Code)} {outer : List Env} {A₀ : Around} {base h₀ : Heap} {L a : Addr} {cd : Value} {m : Str → Option Value} {s : Shared} {Q : Flow → Shared → Prop} {E : Value → Shared → Prop}
    {o1 o2 o3 o4 : Obj} {ps : List Value}
    (h70 : @LT.lt Nat instLTNat 70 L) (hI : IntsAre ys ns) (hlen : ns.length = 10) (hb : ∀ u ∈ ns, 0 ≤ u ∧ u < 6)
    (hB : Below A₀ base outer h₀) (F : Fr h₀ L s.heap m) (hX : (hd.heap_39 w.params).In h₀) (N : News h₀ L s.heap [(D, LCg.lst ys), (L + 1 + 1 + 1 + 1, o4), (L + 1 + 1 + 1, o3), (L + 1 + 1, o2), (L + 1, o1), (70, tblOf ps.toArray)])
    (d2 : o2.data = .cell none) (n1 : @Ne Nat (L + 1 + 1 + 1 + 1) D) (n2 : @Ne Nat (L + 1 + 1 + 1) D) (n3 : @Ne Nat (L + 1 + 1) D) (n4 : @Ne Nat (L + 1) D) (n5 : @Ne Nat 70 D)
    (hT : Top p loose mean mg mb h₀) (hdp : dp + 20 < recursionLimit) (hun : un + 200 < cLine)
    (hm : ∀ q ∈ [(("numbers" : Str), Value.ref D)], m q.1 = some q.2)
    (rest : ∀ A1 v1 A2 v2 A3 v3 o2' m' h' tk', IntsAre v1 (ns.take 5) → IntsAre v2 (ns.drop 5) → IntsAre v3 (wayOf (ns.take 5) (ns.drop 5)) → o2'.data = .cell (some (.ref A2)) → Fr h₀ L h' m' →
      News h₀ L h' [(A3, listOf v3.toArray 0), (A1, listOf v1.toArray 0), (A2, listOf v2.toArray 0), (L + 1 + 1 + 1 + 1, o4), (L + 1 + 1 + 1, o3), (L + 1 + 1, o2'), (L + 1, o1), (70, tblOf ps.toArray)] → 
      @LT.lt Nat instLTNat (L + 1 + 1 + 1 + 1) A1 → @LT.lt Nat instLTNat A1 A2 → @LT.lt Nat instLTNat A2 A3 → (∀ q ∈ [(("one" : Str), Value.ref A1), ("way", .ref A3)], m' q.1 = some q.2) →
      wpAny (model PySem.Challenge.rw_tc0006_01.row.prog w) (ktrTop dp un gd (fnName 19) (fnScope 19) L a cd (lawCells L) outer) (execs ((fnBody 19).drop 4) (lawEnv L a cd)) Q E { s with heap := h', toks := tk' }) :
    wpAny (model PySem.Challenge.rw_tc0006_01.row.prog w) (ktrTop dp un gd (fnName 19) (fnScope 19) L a cd (lawCells L) outer) (execs ((fnBody 19).drop 2) (lawEnv L a cd)) Q E s := by
  have hX' := hX
  revert hX; k_fill; intro hX
  rw [kstB_self hm] at F
  dsimp only [kstB] at F
  obtain ⟨h, g, d, tk, os⟩ := s
  dsimp only at F N
  show wpAny _ _ (execs (_ :: _) _) _ _ _
  repeat' (first | (k_unfold; (try dsimp only)) | ((fail_if_success (with_reducible show wpAny _ _ (execs (Stmt.If _ _ _ _ :: _) _) _ _ _)); walk1))
  rename Fr _ _ _ _ => F9
  rename News _ _ _ _ => N9
  rename IntsAre _ _ => hW
  refine rest _ _ _ _ _ _ _ _ _ _ (by assumption) (by assumption) hW (by assumption) F9 (fun q hq => N9 q ?_) ?_ ?_ ?_ (all_cons (by with_unfolding_all rfl) (all_cons (by with_unfolding_all rfl) all_nil))
  · simp only [List.mem_cons, List.not_mem_nil, or_false] at hq ⊢
    rcases hq with h | h | h | h | h | h | h | h <;> simp [h]
  all_goals omega
end Mine
end

section
open PySem PySem.W PyProof.Rows PySem.Spec PySem.Calls
set_option maxHeartbeats 4000000
namespace Mine
theorem taken_spec' {w : World} {p : Program} {loose : List Str} {mean : ExcName → Option Value} {mg mb : Str → Option Value}
   (l : Addr) (vs : List Value) (ns : List Int) (nn : Nat) (news : List (Addr × Obj)) (hm : (l, listOf vs.toArray nn) ∈ news) (hi : IntsAre vs ns) (hlen : ns.length ≤ 10) (hb : ∀ u ∈ ns, 0 ≤ u ∧ u < 6) :
   KClaim w p loose mean mg mb 166 [.ref l] news 8 80 True (fun h₀ L m s Q => ∀ h' tk' gs, Fr h₀ L h' m → News h₀ L h' news → GUp s.gens gs → Q (.bool true) { s with heap := h', toks := tk', gens := gs }) := by
  unfold KClaim
  intro dp un gd cn cs a ccd cl outer A₀ base h₀ L m s Q E hB hF hX hN hT hk ht hdp hun hret
  exact taken_spec l vs ns nn news hi hlen hb dp un gd cn cs a ccd cl outer A₀ base h₀ L m s Q E hB hF hX (news_dup hN hm) hT hk ht hdp hun (fun h' tk' gs F N hG => hret h' tk' gs F (news_undup N) hG)
theorem law_s4 {w : World} {p : Program} {loose : List Str} {mean : ExcName → Option Value} {mg mb : Str → Option Value} {one two way : List Int} {v1 v2 v3 : List Value} {A1 A2 A3 : Addr}
    {dp un : Nat} {gd : Option (List Code)} {outer : List Env} {A₀ : Around} {base h₀ : Heap} {L a : Addr} {cd : Value} {m : Str → Option Value} {s : Shared} {Q : Flow → Shared → Prop} {E : Value → Shared → Prop}
    {o1 o2 o3 o4 : Obj} {ps : List Value}
    (h70 : @LT.lt Nat instLTNat 70 L) (hI1 : IntsAre v1 one) (hI2 : IntsAre v2 two) (hI3 : IntsAre v3 way) (hl1 : one.length ≤ 5) (hl2 : two.length ≤ 5) (hl3 : way.length ≤ 10) (hb1 : ∀ u ∈ one, 0 ≤ u ∧ u < 6) (hb2 : ∀ u ∈ two, 0 ≤ u ∧ u < 6) (hb3 : ∀ u ∈ way, 0 ≤ u ∧ u < 6)
    (hB : Below A₀ base outer h₀) (F : Fr h₀ L s.heap m) (hX : (hd.heap_39 w.params).In h₀)
    (N : News h₀ L s.heap [(A3, listOf v3.toArray 0), (A1, listOf v1.toArray 0), (A2, listOf v2.toArray 0), (L + 1 + 1 + 1 + 1, o4), (L + 1 + 1 + 1, o3), (L + 1 + 1, o2), (L + 1, o1), (70, tblOf ps.toArray)])
    (d2 : o2.data = .cell (some (.ref A2))) (n1 : @LT.lt Nat instLTNat (L + 1 + 1 + 1 + 1) A1) (n2 : @LT.lt Nat instLTNat A1 A2) (n3 : @LT.lt Nat instLTNat A2 A3)
    (hT : Top p loose mean mg mb h₀) (hdp : dp + 20 < recursionLimit) (hun : un + 200 < cLine)
    (hm : ∀ q ∈ [(("one" : Str), Value.ref A1), ("way", .ref A3)], m q.1 = some q.2)
    (rest : ∀ h' tk' gs', Fr h₀ L h' m → News h₀ L h' [(A3, listOf v3.toArray 0), (A1, listOf v1.toArray 0), (A2, listOf v2.toArray 0), (L + 1 + 1 + 1 + 1, o4), (L + 1 + 1 + 1, o3), (L + 1 + 1, o2), (L + 1, o1), (70, tblOf ps.toArray)] → GUp s.gens gs' →
      wpAny (model PySem.Challenge.rw_tc0006_01.row.prog w) (ktrTop dp un gd (fnName 19) (fnScope 19) L a cd (lawCells L) outer) (execs ((fnBody 19).drop 5) (lawEnv L a cd)) Q E { s with heap := h', toks := tk', gens := gs' }) :
    wpAny (model PySem.Challenge.rw_tc0006_01.row.prog w) (ktrTop dp un gd (fnName 19) (fnScope 19) L a cd (lawCells L) outer) (execs ((fnBody 19).drop 4) (lawEnv L a cd)) Q E s := by
  have hX' := hX
  revert hX; k_fill; intro hX
  rw [kstB_self hm] at F
  dsimp only [kstB] at F
  obtain ⟨h, g, d, tk, os⟩ := s
  dsimp only at F N
  show wpAny _ _ (execs (_ :: _) _) _ _ _
  repeat' (first | (k_unfold; (try dsimp only)) | ((fail_if_success (with_reducible show wpAny _ _ (call _ _ _) _ _ _)); walk1))
  refine (taken_spec' A1 v1 one 0 _ (by simp) hI1 (by omega) hb1) _ _ _ _ _ _ _ _ _ _ _ _ _ _ _ _ _ (by assumption) (by assumption) (by assumption) N (by assumption) rfl trivial (show dp + 8 < recursionLimit by omega) (show un + 80 < cLine by omega) ?_
  intro h2 tk2 gs2 F2 N2 hG2
  dsimp only at F2 N2 hG2 ⊢
  clear N F
  repeat' (first | (k_unfold; (try dsimp only)) | ((fail_if_success (with_reducible show wpAny _ _ (call _ _ _) _ _ _)); walk1))
  refine (taken_spec' A2 v2 two 0 _ (by simp) hI2 (by omega) hb2) _ _ _ _ _ _ _ _ _ _ _ _ _ _ _ _ _ (by assumption) (by assumption) (by assumption) N2 (by assumption) rfl trivial (show dp + 8 < recursionLimit by omega) (show un + 80 < cLine by omega) ?_
  intro h3 tk3 gs3 F3 N3 hG3
  dsimp only at F3 N3 hG3 ⊢
  clear N2 F2
  repeat' (first | (k_unfold; (try dsimp only)) | ((fail_if_success (with_reducible show wpAny _ _ (call _ _ _) _ _ _)); walk1))
  refine (taken_spec' A3 v3 way 0 _ (by simp) hI3 (by omega) hb3) _ _ _ _ _ _ _ _ _ _ _ _ _ _ _ _ _ (by assumption) (by assumption) (by assumption) N3 (by assumption) rfl trivial (show dp + 8 < recursionLimit by omega) (show un + 80 < cLine by omega) ?_
  intro h4 tk4 gs4 F4 N4 hG4
  dsimp only at F4 N4 hG4 ⊢
  clear N3 F3
  repeat' (first | (k_unfold; (try dsimp only)) | ((fail_if_success (with_reducible show wpAny _ _ (execs (Stmt.Assign [Expr.Name "far" _] _ _ :: _) _) _ _ _)); walk1))
  exact rest _ _ _ (by rw [kstB_self hm]; assumption) (by assumption) (hG2.trans (hG3.trans hG4))
end Mine
end

section
open PySem PySem.W PyProof.Rows PySem.Spec PySem.Calls
set_option maxHeartbeats 4000000
namespace Mine
def goneU (sg : Str) (st : List Str) (u : Int) : List Str := if u = 0 ∨ u = 2 then st ++ [sg] else if u = 1 ∨ u = 3 then st.dropLast else st
theorem gone_tok (sg : Str) (st : List Str) (p : Nat) (u : Int) (h : 0 ≤ u ∧ u < 6) (h4 : u ≠ 4) : (toks p u).foldl (goneStep sg) st = goneU sg st u := by
  rcases six_cases h with rfl | rfl | rfl | rfl | rfl | rfl <;> first | exact absurd rfl h4 | simp [toks, goneStep, goneU]
theorem goneU_skip (sg : Str) (us : List Int) (st : List Str) : (us.filter (· ≠ 4)).foldl (goneU sg) st = us.foldl (goneU sg) st := by
  induction us generalizing st with
  | nil => rfl
  | cons u us ih =>
    by_cases h4 : u = 4
    · subst h4
      rw [show (4 :: us).filter (fun z => decide (z ≠ 4)) = us.filter (fun z => decide (z ≠ 4)) by simp, ih, List.foldl_cons]
      rfl
    · rw [show (u :: us).filter (fun z => decide (z ≠ 4)) = u :: us.filter (fun z => decide (z ≠ 4)) by simp [h4], List.foldl_cons, List.foldl_cons, ih]
theorem goneRun_row (sg : Str) (us : List Int) (hb : ∀ u ∈ us, 0 ≤ u ∧ u < 6) : goneRun sg (rowTxt us) = us.foldl (goneU sg) goneInit := by
  unfold goneRun
  rw [strip_row us hb, rowTxt_codes, fold_units (goneStep sg) (goneU sg) (gone_tok sg) _ 0 _ (fun u hu => hb u (List.mem_filter.mp hu).1) (fun u hu => by simpa using (List.mem_filter.mp hu).2), goneU_skip]
theorem lk_snoc' (us : List Int) (u : Int) : (lk (us ++ [u])).1 = (lk us).1 + dU u ∧ (lk (us ++ [u])).2 = min (lk us).2 ((lk us).1 + dU u) := by
  rw [lk_snoc, lkS_eq]; exact ⟨rfl, rfl⟩
theorem dropLast_rep {α : Type} (l : List α) (a : α) (n : Nat) : (l ++ List.replicate (n + 1) a).dropLast = l ++ List.replicate n a := by
  rw [List.replicate_succ', ← List.append_assoc, List.dropLast_concat]
theorem dropLast_take {α : Type} (l : List α) (k : Nat) (hk : k + 1 ≤ l.length) : (l.take (k + 1)).dropLast = l.take k := by
  rw [List.dropLast_eq_take, List.length_take, List.take_take]
  congr 1
  omega
/-- the pile after a row: the letters that stay, then the signs -/
theorem gone_lk (sg : Str) (us : List Int) (hb : ∀ u ∈ us, 0 ≤ u ∧ u < 6) (hl : us.length ≤ 5) :
    ∃ i j : Nat, (i : Int) = -(lk us).2 ∧ (j : Int) = (lk us).1 - (lk us).2 ∧ i + j ≤ us.length ∧ us.foldl (goneU sg) goneInit = goneInit.take (5 - i) ++ List.replicate j sg := by
  obtain ⟨n, hn⟩ : ∃ n, us.length = n := ⟨_, rfl⟩
  induction n generalizing us with
  | zero =>
    have := List.length_eq_zero_iff.mp hn
    subst this
    exact ⟨0, 0, by simp [lk], by simp [lk], by simp, by simp [goneInit]⟩
  | succ n ih =>
    rcases List.eq_nil_or_concat us with rfl | ⟨us, u, rfl⟩
    · simp at hn
    rw [List.concat_eq_append] at hb hl hn ⊢
    obtain ⟨i, j, hi, hj, hij, he⟩ := ih us (fun v hv => hb v (List.mem_append_left _ hv)) (by simp at hl; omega) (by simpa using hn)
    have hu := hb u (List.mem_append_right _ (List.mem_singleton.mpr rfl))
    have k := lk_snoc' us u
    have k0 := lk_low us
    rw [List.length_append, List.length_singleton] at hl ⊢
    rw [k.1, k.2, List.foldl_append, he]
    show ∃ i' j' : Nat, _ ∧ _ ∧ _ ∧ goneU sg (goneInit.take (5 - i) ++ List.replicate j sg) u = _
    rcases dU_cases hu with ⟨h, hd⟩ | ⟨h, hd⟩ | ⟨h, hd⟩
    · rw [hd]
      refine ⟨i, j + 1, by omega, by omega, by omega, ?_⟩
      unfold goneU
      rw [if_pos h, List.append_assoc, List.replicate_succ']
    · rw [hd]
      unfold goneU
      rw [if_neg (by omega), if_pos h]
      cases j with
      | zero =>
        refine ⟨i + 1, 0, by omega, by omega, by omega, ?_⟩
        rw [List.replicate_zero, List.append_nil, List.append_nil, show 5 - i = (5 - (i + 1)) + 1 by omega]
        exact dropLast_take _ _ (by show _ ≤ 5; omega)
      | succ j => exact ⟨i, j, by omega, by omega, by omega, dropLast_rep _ _ _⟩
    · rw [hd]
      refine ⟨i, j, by omega, by omega, by omega, ?_⟩
      unfold goneU
      rw [if_neg (by omega), if_neg (by omega)]

def gtx (i j : Nat) (c : Nat) : Str := ⟨((([97, 98, 99, 100, 101] : List Nat).take (5 - i)) ++ List.replicate j c).toArray⟩
theorem txt_join_codes (l : List Str) : (Txt.join (Str.ofString "") l).cps.toList = l.flatMap (·.cps.toList) := by
  rw [show Txt.join (Str.ofString "") l = Str.join (Str.ofString "") l from StrLaws.glued_eq_join _ _, show Str.ofString "" = ⟨#[]⟩ by decide +kernel]
  exact join_codes l
theorem flat_rep (c j : Nat) : (List.replicate j (⟨#[c]⟩ : Str)).flatMap (·.cps.toList) = List.replicate j c := by
  induction j with
  | zero => rfl
  | succ j ih => rw [List.replicate_succ, List.flatMap_cons, ih, List.replicate_succ]; rfl
theorem goneTxt_row (c : Nat) (us : List Int) (hb : ∀ u ∈ us, 0 ≤ u ∧ u < 6) (hl : us.length ≤ 5) :
    ∃ i j : Nat, (i : Int) = -(lk us).2 ∧ (j : Int) = (lk us).1 - (lk us).2 ∧ i + j ≤ us.length ∧ goneTxt ⟨#[c]⟩ (rowTxt us) = gtx i j c := by
  obtain ⟨i, j, hi, hj, hij, he⟩ := gone_lk ⟨#[c]⟩ us hb hl
  refine ⟨i, j, hi, hj, hij, ?_⟩
  unfold goneTxt
  rw [goneRun_row _ us hb, he]
  apply Str.ext'
  apply Array.toList_inj.mp
  rw [txt_join_codes, List.flatMap_append]
  show _ = (([97, 98, 99, 100, 101] : List Nat).take (5 - i)) ++ List.replicate j c
  congr 1
  · have : ∀ k, k ≤ 5 → (goneInit.take k).flatMap (·.cps.toList) = ([97, 98, 99, 100, 101] : List Nat).take k := by
      intro k hk
      rcases k with _ | _ | _ | _ | _ | _ | k
      all_goals first | rfl | omega
    exact this _ (by omega)
  · exact flat_rep c j
theorem gtx_len (i j c : Nat) : (gtx i j c).length ≤ 5 + j := by
  show ((([97, 98, 99, 100, 101] : List Nat).take (5 - i)) ++ List.replicate j c).toArray.size ≤ _
  rw [List.size_toArray, List.length_append, List.length_replicate, List.length_take]
  omega
end Mine
end

section
open PySem PySem.W PyProof.Rows PySem.Spec PySem.Calls
set_option maxHeartbeats 4000000
namespace Mine
def lkI (ns : List Int) : Int := -(lk ns).2
def lkJ (ns : List Int) : Int := (lk ns).1 - (lk ns).2
section
variable {prog : Program} {w : World} {A : Around} {E : Value → Shared → Prop} {s : Shared}
theorem max_pair {T : Addr} {a b : Int} {t1 t2 : Tok} {Q : Value → Shared → Prop} (hh : A.handled = none) (hT : s.heap.IsTuple T #[.int a t1, .int b t2])
    (h : ∀ t h' tk, (∀ b o, s.heap.get? b = some o → h'.get? b = some o) → Q (.int (if a < b then b else a) t) { s with heap := h', toks := tk }) :
    wpAny (model prog w) A (call (.builtin "max") [.ref T]) Q E s := by
  have hlt : T < s.heap.objs.size := by obtain ⟨_, e, _⟩ := hT; exact Heap.lt_size e
  have hval : ∀ (i : Nat) (v : Value), (#[Value.int a t1, Value.int b t2] : Array Value)[i]? = some v → ∃ t, v = Value.int (if i = 0 then a else b) t := by
    intro i v hv
    rcases i with _ | _ | i
    · exact ⟨t1, (Option.some.inj hv).symm⟩
    · exact ⟨t2, (Option.some.inj hv).symm⟩
    · simp at hv
  refine call_max_walk (wpAny_pyIter_tuple hT ?_)
  refine ⟨_, _, _, _, _, _, _, rfl, Walks.tuple (A := A.in1) hh s.heap.objs.size T (Nat.ne_of_lt hlt) _, ⟨⟨_, Heap.get?_push_size _ rfl, rfl, rfl⟩, hT.push _⟩, ?_, by simp, CmpOf.ints_gt (fun i => if i = 0 then a else b) hval, ?_⟩
  · intro b hb
    show b < (s.heap.push _).objs.size
    rw [Heap.size_push]
    simp only [List.mem_cons, List.not_mem_nil, or_false] at hb
    rcases hb with rfl | rfl
    · exact Nat.lt_succ_self _
    · exact Nat.lt_succ_of_lt hlt
  · intro v h' tk hv hk
    obtain ⟨t, rfl⟩ := hval _ _ hv
    have e : (if argBest (fun i j => decide ((if i = 0 then a else b) > (if j = 0 then a else b))) (#[Value.int a t1, .int b t2].size - 1) = 0 then a else b) = if a < b then b else a := by
      show (if (if decide ((if (0 + 1 : Nat) = 0 then a else b) > (if (0 : Nat) = 0 then a else b)) = true then 0 + 1 else 0) = 0 then a else b) = _
      by_cases hab : a < b
      · simp [hab]
      · simp [hab]
    rw [e]
    exact h t h' tk fun c o ho => hk c o (by simpa using Nat.ne_of_lt (Heap.lt_size ho)) (Heap.get?_push_of_some _ ho)
end
theorem strip_row_len (ns : List Int) (hb : ∀ u ∈ ns, 0 ≤ u ∧ u < 6) : (stripF (rowTxt ns)).length ≤ (rowTxt ns).length := by
  rw [strip_row ns hb, rowTxt_length, rowTxt_length]
  clear hb
  induction ns with
  | nil => simp [codesOf]
  | cons u us ih =>
    by_cases h4 : u = 4
    · rw [show (u :: us).filter (fun z => decide (z ≠ 4)) = us.filter (fun z => decide (z ≠ 4)) by simp [h4], codesOf_cons, List.length_append]
      omega
    · rw [show (u :: us).filter (fun z => decide (z ≠ 4)) = u :: us.filter (fun z => decide (z ≠ 4)) by simp [h4], codesOf_cons, codesOf_cons, List.length_append, List.length_append]
      omega
theorem law_s5 {w : World} {p : Program} {loose : List Str} {mean : ExcName → Option Value} {mg mb : Str → Option Value} {one two way : List Int} {v1 v2 v3 : List Value} {A1 A2 A3 : Addr}
    {dp un : Nat} {gd : Option (List Code)} {outer : List Env} {A₀ : Around} {base h₀ : Heap} {L a : Addr} {cd : Value} {m : Str → Option Value} {s : Shared} {Q : Flow → Shared → Prop} {E : Value → Shared → Prop}
    {o1 o2 o3 o4 : Obj} {ps : List Value}
    (h70 : @LT.lt Nat instLTNat 70 L) (hI1 : IntsAre v1 one) (hI2 : IntsAre v2 two) (hI3 : IntsAre v3 way) (hl1 : one.length ≤ 5) (hl2 : two.length ≤ 5) (hl3 : way.length ≤ 10) (hb1 : ∀ u ∈ one, 0 ≤ u ∧ u < 6) (hb2 : ∀ u ∈ two, 0 ≤ u ∧ u < 6) (hb3 : ∀ u ∈ way, 0 ≤ u ∧ u < 6)
    (hB : Below A₀ base outer h₀) (F : Fr h₀ L s.heap m) (hX : (hd.heap_39 w.params).In h₀)
    (N : News h₀ L s.heap [(A3, listOf v3.toArray 0), (A1, listOf v1.toArray 0), (A2, listOf v2.toArray 0), (L + 1 + 1 + 1 + 1, o4), (L + 1 + 1 + 1, o3), (L + 1 + 1, o2), (L + 1, o1), (70, tblOf ps.toArray)])
    (d2 : o2.data = .cell (some (.ref A2))) (d3 : o3.data = .cell none) (d4 : o4.data = .cell none) (n1 : @LT.lt Nat instLTNat (L + 1 + 1 + 1 + 1) A1) (n2 : @LT.lt Nat instLTNat A1 A2) (n3 : @LT.lt Nat instLTNat A2 A3)
    (hT : Top p loose mean mg mb h₀) (hdp : dp + 20 < recursionLimit) (hun : un + 200 < cLine) (htab : TabOk strPos ps.toArray)
    (hm : ∀ q ∈ [(("one" : Str), Value.ref A1), ("way", .ref A3)], m q.1 = some q.2)
    (rest : ∀ h' tk' gs' o3' o4' t3 t4 ts m' ps', (∀ q ∈ [(("shared" : Str), Value.int (if lkJ two < lkJ one then lkJ two else lkJ one) ts)], m' q.1 = some q.2) →
      o3'.data = .cell (some (.int (2 * (if lkI way < lkJ way then lkJ way else lkI way)) t3)) → o4'.data = .cell (some (.str (goneTxt "x" (rowTxt one)) t4)) → Fr h₀ L h' m' →
      News h₀ L h' [(A2, listOf v2.toArray 0), (L + 1 + 1 + 1 + 1, o4'), (L + 1 + 1 + 1, o3'), (L + 1 + 1, o2), (70, tblOf ps')] → TabOk strPos ps' → GUp s.gens gs' →
      wpAny (model PySem.Challenge.rw_tc0006_01.row.prog w) (ktrTop dp un gd (fnName 19) (fnScope 19) L a cd (lawCells L) outer) (execs ((fnBody 19).drop 8) (lawEnv L a cd)) Q E { s with heap := h', toks := tk', gens := gs' }) :
    wpAny (model PySem.Challenge.rw_tc0006_01.row.prog w) (ktrTop dp un gd (fnName 19) (fnScope 19) L a cd (lawCells L) outer) (execs ((fnBody 19).drop 5) (lawEnv L a cd)) Q E s := by
  have hX' := hX
  revert hX; k_fill; intro hX
  rw [kstB_self hm] at F
  dsimp only [kstB] at F
  obtain ⟨h, g, d, tk, os⟩ := s
  dsimp only at F N
  show wpAny _ _ (execs (_ :: _) _) _ _ _
  repeat' (first | (k_unfold; (try dsimp only)) | ((fail_if_success (with_reducible show wpAny _ _ (call _ _ _) _ _ _)); walk1))
  refine (lacks_spec' A3 v3 way 0 _ (by simp) hI3 (by omega)) _ _ _ _ _ _ _ _ _ _ _ _ _ _ _ _ _ (by assumption) (by assumption) (by assumption) N (by assumption) rfl trivial (show dp + 1 < recursionLimit by omega) (show un + 8 < cLine by omega) ?_
  intro T1 t1 t2 h2 tk2 F2 N2 l2
  replace l2 := allLt_of l2
  dsimp only [AllLt] at l2
  change News h₀ L h2 ((T1, { cls := .type "tuple", data := .seq #[.int (lkI way) t1, .int (lkJ way) t2] }) :: _) at N2
  dsimp only at F2 N2 ⊢
  clear N F
  repeat' (first | (k_unfold; (try dsimp only)) | ((fail_if_success (with_reducible show wpAny _ _ (call (Value.ref 159) _ _) _ _ _)); walk1))
  refine max_pair (s := ⟨h2, _, _, _, _⟩) (T := T1) rfl ⟨_, (N2 _ (.head _)).1, rfl, _, rfl⟩ fun tm h3 tk3 hk3 => ?_
  have F3 := F2.keeps hk3
  have N3 := N2.grown hk3
  clear N2 F2
  dsimp only
  repeat' (first | (k_unfold; (try dsimp only)) | ((fail_if_success (with_reducible show wpAny _ _ (call (Value.ref 159) _ _) _ _ _)); walk1))
  rename Fr _ _ _ _ => F4
  rename News _ _ _ _ => N4
  rename_i h4 o3' d3'
  refine (lacks_spec' A1 v1 one 0 _ (by simp) hI1 (by omega)) _ _ _ _ _ _ _ _ _ _ _ _ _ _ _ _ _ (by assumption) (by assumption) (by assumption) N4 (by assumption) rfl trivial (show dp + 1 < recursionLimit by omega) (show un + 8 < cLine by omega) ?_
  intro T2 t3 t4 h5 tk5 F5 N5 l5
  replace l5 := allLt_of l5
  dsimp only [AllLt] at l5
  change News h₀ L h5 ((T2, { cls := .type "tuple", data := .seq #[.int (lkI one) t3, .int (lkJ one) t4] }) :: _) at N5
  dsimp only at F5 N5 ⊢
  clear N4 F4
  repeat' (first | (k_unfold; (try dsimp only)) | ((fail_if_success (with_reducible show wpAny _ _ (call (Value.ref 159) _ _) _ _ _)); walk1))
  rename Fr _ _ _ _ => F6
  rename News _ _ _ _ => N6
  refine (lacks_spec' A2 v2 two 0 _ (by simp) hI2 (by omega)) _ _ _ _ _ _ _ _ _ _ _ _ _ _ _ _ _ (by assumption) (by assumption) (by assumption) N6 (by assumption) rfl trivial (show dp + 1 < recursionLimit by omega) (show un + 8 < cLine by omega) ?_
  intro T3 t5 t6 h7 tk7 F7 N7 l7
  replace l7 := allLt_of l7
  dsimp only [AllLt] at l7
  change News h₀ L h7 ((T3, { cls := .type "tuple", data := .seq #[.int (lkI two) t5, .int (lkJ two) t6] }) :: _) at N7
  dsimp only at F7 N7 ⊢
  clear N6 F6
  repeat' (first | (k_unfold; (try dsimp only)) | ((fail_if_success (with_reducible show wpAny _ _ (call (Value.ref 145) _ _) _ _ _)); walk1))
  rename Fr _ _ _ _ => F8
  rename News _ _ _ _ => N8
  refine (text_spec' A1 v1 one 0 _ (by simp) hI1 (by omega) hb1) _ _ _ _ _ _ _ _ _ _ _ _ _ _ _ _ _ (by assumption) (by assumption) (by assumption) N8 (by assumption) rfl trivial (show dp + 1 < recursionLimit by omega) (show un + 8 < cLine by omega) ?_
  intro t9 h9 tk9 F9 N9
  dsimp only at F9 N9 ⊢
  clear N8 F8
  repeat' (first | (k_unfold; (try dsimp only)) | ((fail_if_success (with_reducible show wpAny _ _ (call (Value.ref 152) _ _) _ _ _)); walk1))
  have hr1 := rowTxt_len one hb1
  have hr2 := strip_row_len one hb1
  have n70 : ∀ q ∈ [(A2, listOf v2.toArray 0), (L + 1 + 1 + 1 + 1, o4), (L + 1 + 1 + 1, o3'), (L + 1 + 1, o2)], q.1 ≠ 70 := by
    intro q hq
    simp only [List.mem_cons, List.not_mem_nil, or_false] at hq
    rcases hq with rfl | rfl | rfl | rfl
    · exact Nat.ne_of_gt (by omega)
    · exact Nat.ne_of_gt (by omega)
    · exact Nat.ne_of_gt (by omega)
    · exact Nat.ne_of_gt (by omega)
  refine (gone_spec (rowTxt one) "x" _ _ [(A2, listOf v2.toArray 0), (L + 1 + 1 + 1 + 1, o4), (L + 1 + 1 + 1, o3'), (L + 1 + 1, o2)] ps.toArray (by omega) (by omega) (by decide) htab n70) _ _ _ _ _ _ _ _ _ _ _ _ _ _ _ _ _ (by assumption) F9 (by assumption)
    (fun q hq => N9 q (by simp only [List.mem_cons, List.not_mem_nil, or_false] at hq ⊢; rcases hq with h | h | h | h | h <;> simp [h])) (by assumption) rfl trivial (show dp + 9 < recursionLimit by omega) (show un + 90 < cLine by omega) ?_
  intro tb h10 tk10 gs10 ps' F10 N10 htab' hG10
  dsimp only at F10 N10 hG10 ⊢
  clear N9 F9
  repeat' (first | (k_unfold; (try dsimp only)) | ((fail_if_success (with_reducible show wpAny _ _ (execs _ _) _ _ _)); walk1))
  rename Fr _ _ _ _ => F11
  rename News _ _ _ _ => N11
  obtain ⟨ts, hts⟩ : ∃ t, mapOf F11 "shared" = some (.int (if lkJ two < lkJ one then lkJ two else lkJ one) t) := ⟨_, by with_unfolding_all rfl⟩
  rename_i o4' d4'
  exact rest _ _ _ _ _ _ _ _ _ _ (all_cons hts all_nil) d3' d4' F11 (fun q hq => N11 q (by simp only [List.mem_cons, List.not_mem_nil, or_false] at hq ⊢; rcases hq with h | h | h | h | h <;> simp [h])) htab' hG10
end Mine
end

section
open PySem PySem.W PyProof.Rows PySem.Spec PySem.Calls
set_option maxHeartbeats 4000000
namespace Mine
theorem gone_len40 (ns : List Int) (hb : ∀ u ∈ ns, 0 ≤ u ∧ u < 6) (hl : ns.length ≤ 5) (sg : Str) (hsg : ∃ c, sg = ⟨#[c]⟩) : (goneTxt sg (rowTxt ns)).length ≤ 40 := by
  obtain ⟨c, rfl⟩ := hsg
  obtain ⟨i, j, hi, hj, hij, e⟩ := goneTxt_row c ns hb hl
  rw [e]
  have := gtx_len i j c
  omega
def gapOf (one two : List Int) (far : Int) (c : Nat) : Int := levF (goneTxt "x" (rowTxt one)) (goneTxt ⟨#[c]⟩ (rowTxt two)) far
theorem law_s8 {w : World} {p : Program} {loose : List Str} {mean : ExcName → Option Value} {mg mb : Str → Option Value} {one two : List Int} {v2 : List Value} {A2 : Addr} {far : Int}
    {dp un : Nat} {gd : Option (List Code)} {outer : List Env} {A₀ : Around} {base h₀ : Heap} {L a : Addr} {cd : Value} {m : Str → Option Value} {s : Shared} {Q : Flow → Shared → Prop} {E : Value → Shared → Prop}
    {o2 o3 o4 : Obj} {ps : Array Value} {t3 t4 : Tok}
    (h70 : @LT.lt Nat instLTNat 70 L) (hA2 : @LT.lt Nat instLTNat (L + 1 + 1 + 1 + 1) A2) (hI2 : IntsAre v2 two) (hl1 : one.length ≤ 5) (hl2 : two.length ≤ 5) (hb1 : ∀ u ∈ one, 0 ≤ u ∧ u < 6) (hb2 : ∀ u ∈ two, 0 ≤ u ∧ u < 6) (hf0 : 0 ≤ far) (hf1 : far ≤ 1000)
    (hB : Below A₀ base outer h₀) (F : Fr h₀ L s.heap m) (hX : (hd.heap_39 w.params).In h₀)
    (N : News h₀ L s.heap [(A2, listOf v2.toArray 0), (L + 1 + 1 + 1 + 1, o4), (L + 1 + 1 + 1, o3), (L + 1 + 1, o2), (70, tblOf ps)])
    (d2 : o2.data = .cell (some (.ref A2))) (d3 : o3.data = .cell (some (.int far t3))) (d4 : o4.data = .cell (some (.str (goneTxt "x" (rowTxt one)) t4)))
    (hT : Top p loose mean mg mb h₀) (hdp : dp + 20 < recursionLimit) (hun : un + 200 < cLine) (htab : TabOk strPos ps)
    (hQ : ∀ D ys h' tk' gs' ps', IntsAre ys [gapOf one two far 121, gapOf one two far 88, gapOf one two far 120] → Fr h₀ L h' (fun z => if z = "gaps" then some (.ref D) else m z) →
      News h₀ L h' [(D, LCg.lst ys), (L + 1 + 1 + 1, o3), (70, tblOf ps')] → TabOk strPos ps' → GUp s.gens gs' → Q .next { s with heap := h', toks := tk', gens := gs' }) :
    wpAny (model PySem.Challenge.rw_tc0006_01.row.prog w) (ktrTop dp un gd (fnName 19) (fnScope 19) L a cd (lawCells L) outer) (exec (lawIx 8) (lawEnv L a cd)) Q E s := by
  have hX' := hX
  revert hX; k_fill; intro hX
  obtain ⟨h, g, d, tk, os⟩ := s
  dsimp only at F N
  show wpAny _ _ (exec (.Assign [.Name _ _] (.ListComp _ [⟨.Name _ _, _, [], 0⟩] _ _) _) _) _ _ _
  refine comp_use (cl := [("two", L + 1 + 1), ("far", L + 1 + 1 + 1), ("begin", L + 1 + 1 + 1 + 1)]) (by with_unfolding_all rfl) (by with_unfolding_all rfl) rfl (by decide) ?_
  repeat' (first | (k_unfold; (try dsimp only)) | ((fail_if_success (with_reducible show wpAny _ _ (pyIter _) _ _ _)); walk1))
  refine wpAny_pyIter_ascii (by decide +kernel) ?_
  have hLz : @LT.lt Nat instLTNat L h.objs.size := F.ns.lt
  have kp : ∀ b o, h.get? b = some o → (h.push { cls := .type "str_ascii_iterator", data := .fields #[.str (Str.ofString "yXx") tk, .int 0 0] }).get? b = some o := fun b o y => Heap.get?_push_of_some _ y
  dsimp only
  generalize hI0 : h.objs.size = I at hLz ⊢
  refine comp_name (news₀ := [(A2, listOf v2.toArray 0), (L + 1 + 1 + 1 + 1, o4), (L + 1 + 1 + 1, o3), (L + 1 + 1, o2), (70, tblOf ps)]) (fun i ys news => ∃ ps', IntsAre ys (([121, 88, 120] : List Nat).take i |>.map (gapOf one two far)) ∧ TabOk strPos ps' ∧ news = [(A2, listOf v2.toArray 0), (L + 1 + 1 + 1 + 1, o4), (L + 1 + 1 + 1, o3), (L + 1 + 1, o2), (70, tblOf ps')])
    (Walks.strAscii (prog := PySem.Challenge.rw_tc0006_01.row.prog) (w := w) (A := ktrTop dp un gd (fnName 19) (fnScope 19) L a cd (lawCells L) outer) rfl I (Str.ofString "yXx") tk) (by decide +kernel) (by decide) rfl rfl rfl rfl ?_ ?_ ?_ ?_ ?_ (F.keeps kp) (N.grown kp) ⟨ps, .nil, htab, rfl⟩ ?_ ?_
  · intro b hb
    rw [List.mem_singleton.mp hb, ← hI0]
    show _ < (h.push _).objs.size
    rw [Heap.size_push]; exact Nat.lt_succ_self _
  · intro b hb
    rw [List.mem_singleton.mp hb]
    cases e : h₀.get? I with
    | none => rfl
    | some o => exact absurd (Heap.lt_size (F.keep I o e)) (by rw [hI0]; exact Nat.lt_irrefl _)
  · intro hb
    have := List.mem_singleton.mp hb
    exact absurd hLz (this ▸ Nat.lt_irrefl _)
  · intro p hp hb
    have h1 : @LT.lt Nat instLTNat p.1 I := by rw [← hI0]; exact Heap.lt_size (N p hp).1
    exact absurd h1 (List.mem_singleton.mp hb ▸ Nat.lt_irrefl _)
  · rw [← hI0]; exact ⟨_, Heap.get?_push_size _ rfl, rfl, rfl⟩
  · rintro i v C oC D ys news own m' h5 tk5 gs5 E' hi ⟨c, u, hc, rfl⟩ ⟨ps1, hys, htab1, rfl⟩ hoC hv F5 N5 hCD off hown hCf hDf hG5
    clear F N
    dsimp only at F5 N5 ⊢
    repeat' (first | (k_unfold; (try dsimp only)) | ((fail_if_success (with_reducible show wpAny _ _ (call (Value.ref 145) _ _) _ _ _)); walk1))
    have o70 := off (70, tblOf ps1) (by simp)
    have hsg : ([121, 88, 120] : List Nat)[i]? = some c := by
      have : (Str.ofString "yXx").cps = ([121, 88, 120] : List Nat).toArray := by decide +kernel
      rw [this] at hc
      simpa using hc
    refine (text_spec' A2 v2 two 0 _ (by simp) hI2 (by omega) hb2) _ _ _ _ _ _ _ _ _ _ _ _ _ _ _ _ _ (by assumption) F5 (by assumption) N5 (by assumption) rfl trivial (show dp + 1 < recursionLimit by omega) (show un + 8 < cLine by omega) ?_
    intro t6 h6 tk6 F6 N6
    dsimp only at F6 N6 ⊢
    clear N5 F5
    repeat' (first | (k_unfold; (try dsimp only)) | ((fail_if_success (with_reducible show wpAny _ _ (call (Value.ref 152) _ _) _ _ _)); walk1))
    rename Fr _ _ _ _ => F7
    rename News _ _ _ _ => N7
    have hr1 := rowTxt_len two hb2
    have hr2 := strip_row_len two hb2
    have n70 : ∀ q ∈ (C, oC) :: (D, LCg.lst ys) :: (A2, listOf v2.toArray 0) :: (L + 1 + 1 + 1 + 1, o4) :: (L + 1 + 1 + 1, o3) :: (L + 1 + 1, o2) :: own, q.1 ≠ 70 := by
      intro q hq
      simp only [List.mem_cons] at hq
      rcases hq with rfl | rfl | rfl | rfl | rfl | rfl | hq
      · exact Ne.symm o70.1
      · exact Ne.symm o70.2.1
      · exact Nat.ne_of_gt (by omega)
      · exact Nat.ne_of_gt (by omega)
      · exact Nat.ne_of_gt (by omega)
      · exact Nat.ne_of_gt (by omega)
      · intro e
        exact o70.2.2 (e ▸ hown q hq)
    refine (gone_spec (rowTxt two) ⟨#[c]⟩ _ _ ((C, oC) :: (D, LCg.lst ys) :: (A2, listOf v2.toArray 0) :: (L + 1 + 1 + 1 + 1, o4) :: (L + 1 + 1 + 1, o3) :: (L + 1 + 1, o2) :: own) ps1 (by omega) (by omega) (by simp [Str.length]) htab1 n70) _ _ _ _ _ _ _ _ _ _ _ _ _ _ _ _ _ (by assumption) F7 (by assumption)
      (fun q hq => N7 q (by simp only [List.mem_cons, List.mem_append, List.not_mem_nil, or_false] at hq ⊢; rcases hq with h | h | h | h | h | h | h | h <;> simp [h])) (by assumption) rfl trivial (show dp + 9 < recursionLimit by omega) (show un + 90 < cLine by omega) ?_
    intro t8 h8 tk8 gs8 ps8 F8 N8 htab8 hG8
    dsimp only at F8 N8 hG8 ⊢
    clear N7 F7
    repeat' (first | (k_unfold; (try dsimp only)) | ((fail_if_success (with_reducible show wpAny _ _ (call (Value.ref 140) _ _) _ _ _)); walk1))
    rename Fr _ _ _ _ => F9
    rename News _ _ _ _ => N9
    refine (lev_spec (goneTxt "x" (rowTxt one)) (goneTxt ⟨#[c]⟩ (rowTxt two)) _ _ _ far _ (gone_len40 one hb1 hl1 _ ⟨120, by decide +kernel⟩) (gone_len40 two hb2 hl2 _ ⟨c, rfl⟩) hf0 hf1) _ _ _ _ _ _ _ _ _ _ _ _ _ _ _ _ _ (by assumption) F9 (by assumption) N9 (by assumption) rfl trivial (show dp + 3 < recursionLimit by omega) (show un + 30 < cLine by omega) ?_
    intro t10 h10 tk10 gs10 F10 N10 hG10
    dsimp only at F10 N10 hG10 ⊢
    clear N9 F9
    k_unfold
    refine ⟨h10, tk10, gs10, _, [(A2, listOf v2.toArray 0), (L + 1 + 1 + 1 + 1, o4), (L + 1 + 1 + 1, o3), (L + 1 + 1, o2), (70, tblOf ps8)], rfl, hG8.trans hG10, F10, N10, ⟨by simp, by simp⟩, fun p hp => by simp [hp], fun p hp => ?_, fun p hp => ?_, ps8, ?_, htab8, rfl⟩
    · simp only [List.mem_cons, List.not_mem_nil, or_false] at hp ⊢
      rcases hp with h | h | h | h | h <;> simp [h]
    · simp only [List.mem_cons, List.not_mem_nil, or_false] at hp
      rcases hp with rfl | rfl | rfl | rfl | rfl
      · exact off (A2, listOf v2.toArray 0) (by simp)
      · exact off (L + 1 + 1 + 1 + 1, o4) (by simp)
      · exact off (L + 1 + 1 + 1, o3) (by simp)
      · exact off (L + 1 + 1, o2) (by simp)
      · exact o70
    · have : ([121, 88, 120] : List Nat).take (i + 1) = ([121, 88, 120] : List Nat).take i ++ [c] := by
        rw [List.take_add_one, hsg]; rfl
      show IntsAre _ ((([121, 88, 120] : List Nat).take (i + 1)).map _)
      rw [this, List.map_append]
      exact ints_snoc hys _ _
  · rintro D ys news h5 tk5 gs5 ⟨ps', hys, htab', rfl⟩ F5 N5 hoff hG5
    exact hQ D ys h5 tk5 gs5 ps' hys F5 (fun q hq => N5 q (by simp only [List.mem_cons, List.not_mem_nil, or_false] at hq ⊢; rcases hq with h | h | h <;> simp [h])) htab' hG5
end Mine
end

section
open PySem PySem.W PyProof.Rows PySem.Spec PySem.Calls
set_option maxHeartbeats 4000000
namespace Mine
theorem law_s9 {w : World} {p : Program} {loose : List Str} {mean : ExcName → Option Value} {mg mb : Str → Option Value} {ys : List Value} {D : Addr} {far sh : Int}
    {dp un : Nat} {gd : Option (List Code)} {outer : List Env} {A₀ : Around} {base h₀ : Heap} {L a : Addr} {cd : Value} {m : Str → Option Value} {s : Shared} {Q : Flow → Shared → Prop} {E : Value → Shared → Prop}
    {o3 : Obj} {ps : Array Value} {t3 ts : Tok}
    (h70 : @LT.lt Nat instLTNat 70 L) (hI : IntsAre ys [far, far - sh, far - 2 * sh])
    (hB : Below A₀ base outer h₀) (F : Fr h₀ L s.heap m) (hX : (hd.heap_39 w.params).In h₀)
    (N : News h₀ L s.heap [(D, LCg.lst ys), (L + 1 + 1 + 1, o3), (70, tblOf ps)]) (d3 : o3.data = .cell (some (.int far t3)))
    (hT : Top p loose mean mg mb h₀) (hdp : dp + 20 < recursionLimit) (hun : un + 200 < cLine)
    (hm : ∀ q ∈ [(("gaps" : Str), Value.ref D), ("shared", .int sh ts)], m q.1 = some q.2)
    (hQ : ∀ h' tk' m', Fr h₀ L h' m' → News h₀ L h' [(70, tblOf ps)] → Q (.ret (.bool true)) { s with heap := h', toks := tk' }) :
    wpAny (model PySem.Challenge.rw_tc0006_01.row.prog w) (ktrTop dp un gd (fnName 19) (fnScope 19) L a cd (lawCells L) outer) (execs ((fnBody 19).drop 9) (lawEnv L a cd)) Q E s := by
  have hX' := hX
  revert hX; k_fill; intro hX
  rw [kstB_self hm] at F
  dsimp only [kstB] at F
  obtain ⟨h, g, d, tk, os⟩ := s
  dsimp only at F N
  obtain ⟨a1, a2, a3, rfl⟩ : ∃ a1 a2 a3, ys = [Value.int far a1, .int (far - sh) a2, .int (far - 2 * sh) a3] := by
    cases hI with | cons _ a1 h1 => cases h1 with | cons _ a2 h2 => cases h2 with | cons _ a3 h3 => cases h3; exact ⟨_, _, _, rfl⟩
  show wpAny _ _ (execs (_ :: _) _) _ _ _
  repeat' (first | (k_unfold; (try dsimp only)) | ((fail_if_success (with_reducible show wpAny _ _ (compareOp _ _ _) _ _ _)); (fail_if_success (with_reducible show wpAny _ _ (eval (Expr.ListComp _ _ _ _) _) _ _ _)); walk1))
  rename Fr _ _ _ _ => F2
  rename News _ _ _ _ => N2
  rename_i l2 h2 _
  obtain ⟨zs, N3, hJ⟩ : ∃ zs : List Value, News h₀ L h2 [(l2, listOf zs.toArray 0), (D, LCg.lst [Value.int far a1, .int (far - sh) a2, .int (far - 2 * sh) a3]), (L + 1 + 1 + 1, o3), (70, tblOf ps)] ∧ IntsAre zs [far, far - sh, far - 2 * sh] := ⟨_, N2, by repeat constructor⟩
  clear N2
  refine ke_eq_ints (s := ⟨h2, _, _, _, _⟩) (xs := [Value.int far a1, .int (far - sh) a2, .int (far - 2 * sh) a3]) (ys := zs) ⟨_, (N3 _ (.tail _ (.head _))).1, rfl, _, rfl⟩ ⟨_, (N3 _ (.head _)).1, rfl, _, rfl⟩ hI hJ (show un + 64 < cLine by omega) ?_
  rw [decide_eq_true rfl]
  dsimp only
  repeat' (first | (k_unfold; (try dsimp only)) | ((fail_if_success (with_reducible show wpAny _ _ (eval (Expr.ListComp _ _ _ _) _) _ _ _)); walk1))
  iterate 60 (any_goals (try (first | (k_unfold; (try dsimp only)) | ((fail_if_success (with_reducible show Q (Flow.ret _) _)); (fail_if_success (with_reducible show wpAny _ _ (unaryOp _ _) _ _ _)); walk1))))
  rename Fr _ _ _ _ => F4
  rename News _ _ _ _ => N4
  clear N3
  rename_i D4 h4 tk4 _
  refine not_of (wpAny_truthy_list (items := #[]) ⟨_, (N4 _ (.head _)).1, rfl, _, rfl⟩ (by decide) ?_)
  exact hQ _ _ _ F4 (fun q hq => N4 q (by simp only [List.mem_cons, List.not_mem_nil, or_false] at hq ⊢; simp [hq]))
end Mine
end

section
open PySem PySem.W PyProof.Rows PySem.Spec PySem.Calls
set_option maxHeartbeats 4000000
namespace Mine
theorem law_s0 {w : World} {p : Program} {loose : List Str} {mean : ExcName → Option Value} {mg mb : Str → Option Value} {xs : List Int} {vS : List Value} {lS : Addr}
    {dp un : Nat} {gd : Option (List Code)} {outer : List Env} {A₀ : Around} {base h₀ : Heap} {L a : Addr} {cd : Value} {m : Str → Option Value} {s : Shared} {Q : Flow → Shared → Prop} {E : Value → Shared → Prop}
    {o1 o2 o3 o4 : Obj} {ps : List Value}
    (h70 : @LT.lt Nat instLTNat 70 L) (hI : IntsAre vS xs) (hlen : xs.length ≤ 63) (hL : h₀.IsList lS vS.toArray)
    (hB : Below A₀ base outer h₀) (F : Fr h₀ L s.heap m) (hX : (hd.heap_39 w.params).In h₀) (N : News h₀ L s.heap [(L + 1 + 1 + 1 + 1, o4), (L + 1 + 1 + 1, o3), (L + 1 + 1, o2), (L + 1, o1), (70, tblOf ps.toArray)])
    (d1 : o1.data = .cell none) (d2 : o2.data = .cell none) (d3 : o3.data = .cell none) (d4 : o4.data = .cell none)
    (hT : Top p loose mean mg mb h₀) (hdp : dp + 20 < recursionLimit) (hun : un + 200 < cLine)
    (hm : ∀ q ∈ [(("script" : Str), Value.ref lS)], m q.1 = some q.2)
    (rest : ∀ D zs ys o1' h' tk' m', IntsAre ys zs → zs.length ≤ 20 → o1'.data = .cell (some (.ref D)) → Fr h₀ L h' m' → News h₀ L h' [(L + 1 + 1 + 1 + 1, o4), (L + 1 + 1 + 1, o3), (L + 1 + 1, o2), (L + 1, o1'), (D, LCg.lst ys), (70, tblOf ps.toArray)] →
      wpAny (model PySem.Challenge.rw_tc0006_01.row.prog w) (ktrTop dp un gd (fnName 19) (fnScope 19) L a cd (lawCells L) outer) (execs ((fnBody 19).drop 1) (lawEnv L a cd)) Q E { s with heap := h', toks := tk' }) :
    wpAny (model PySem.Challenge.rw_tc0006_01.row.prog w) (ktrTop dp un gd (fnName 19) (fnScope 19) L a cd (lawCells L) outer) (execs (fnBody 19) (lawEnv L a cd)) Q E s := by
  have hX' := hX
  revert hX; k_fill; intro hX
  rw [kstB_self hm] at F
  dsimp only [kstB] at F
  obtain ⟨h, g, d, tk, os⟩ := s
  dsimp only at F N
  show wpAny _ _ (execs (_ :: _) _) _ _ _
  repeat' (first | (k_unfold; (try dsimp only)) | ((fail_if_success (with_reducible show wpAny _ _ (execs (Stmt.Assign [Expr.Name "numbers" _] _ _ :: _) _) _ _ _)); walk1))
  rename Fr _ _ _ _ => F5
  rename News _ _ _ _ => N5
  rename IntsAre _ _ => hI5
  refine rest _ _ _ _ _ _ _ hI5 ?_ (by assumption) F5 (fun q hq => N5 q ?_)
  · simp; omega
  · simp only [List.mem_cons, List.not_mem_nil, or_false] at hq ⊢
    rcases hq with h | h | h | h | h | h <;> simp [h]
end Mine
end

section
open PySem PySem.W PyProof.Rows PySem.Spec PySem.Calls
set_option maxHeartbeats 4000000
namespace Mine
/-! levF over lists of letters, for the kernel's own reckoning -/
def letS : List Nat := [97, 98, 99, 100, 101, 120, 121, 88]
def subT (a b : Nat) : Int := if a = b then 0 else if a = 120 ∧ b = 88 ∨ a = 88 ∧ b = 120 then 1 else 2
theorem subT_all : (letS.all fun a => letS.all fun b => subCost ⟨#[a]⟩ ⟨#[b]⟩ == subT a b) = true := by decide +kernel
theorem subCost_T {a b : Nat} (ha : a ∈ letS) (hb : b ∈ letS) : subCost ⟨#[a]⟩ ⟨#[b]⟩ = subT a b :=
  eq_of_beq (List.all_eq_true.mp (List.all_eq_true.mp subT_all a ha) b hb)
def codesL (x : Str) : List Nat := x.cps.toList
theorem item_code (x : Str) {i : Nat} (hi : i < (codesL x).length) : Txt.item x (i : Int) = ⟨#[(codesL x).getD i 0]⟩ := by
  have h : x.cps[i]? = some ((codesL x).getD i 0) := by
    rw [← Array.getElem?_toList]
    simp only [codesL] at hi ⊢
    rw [List.getD_eq_getElem?_getD, List.getElem?_eq_getElem hi]; rfl
  exact item_meets (by omega) (by simpa using h)
theorem getD_mem_codes (l : List Nat) {i : Nat} (hi : i < l.length) : l.getD i 0 ∈ l := by
  rw [List.getD_eq_getElem?_getD, List.getElem?_eq_getElem hi]; exact List.getElem_mem hi
theorem foldl_range_eq {σ : Type} {f g : σ → Nat → σ} : ∀ (n : Nat), (∀ s i, i < n → f s i = g s i) → ∀ s, (List.range n).foldl f s = (List.range n).foldl g s
  | 0, _, _ => rfl
  | n + 1, h, s => by
    rw [List.range_succ, List.foldl_append, List.foldl_append, foldl_range_eq n (fun s i hi => h s i (Nat.lt_succ_of_lt hi)) s]
    exact h _ n (Nat.lt_succ_self n)
def innerL (bc : Nat) (al : List Nat) (st : LevS) (i : Nat) : LevS :=
  let d := st.row.getD i 0
  let r := minP (minP st.res d + 2) (st.dist + subT bc (al.getD i 0))
  ⟨d, r, if r < st.min then r else st.min, st.row.set i r⟩
theorem innerS_L {a : Str} {bc i : Nat} (hl : ∀ c ∈ codesL a, c ∈ letS) (hbc : bc ∈ letS) (hi : i < (codesL a).length) (st : LevS) : innerS ⟨#[bc]⟩ a st i = innerL bc (codesL a) st i := by
  unfold innerS innerL
  rw [item_code a hi, subCost_T hbc (hl _ (getD_mem_codes _ hi))]
def outerL (al bl : List Nat) (k : Int) (st : Option Int × Int × List Int) (bi : Nat) : Option Int × Int × List Int := match st with
  | (some r, q, row) => (some r, q, row)
  | (none, _, row) =>
    let t := (List.range al.length).foldl (innerL (bl.getD bi 0) al) ⟨(bi : Int) * 2, (bi : Int) * 2, 9223372036854775807, row⟩
    if k < t.min then (some (k + 1), t.res, t.row) else (none, t.res, t.row)
def levRowsL (al bl : List Nat) (k : Int) : Int :=
  match (List.range bl.length).foldl (outerL al bl k) (none, 0, (List.range al.length).map fun (i : Nat) => 2 * ((i : Int) + 1)) with
  | (some r, _, _) => r
  | (none, r, _) => r
theorem len_codes (a : Str) : a.length = (codesL a).length := by simp [codesL, Str.length]
theorem levRows_L {a b : Str} (ha : ∀ c ∈ codesL a, c ∈ letS) (hb : ∀ c ∈ codesL b, c ∈ letS) (k : Int) : levRows a b k = levRowsL (codesL a) (codesL b) k := by
  have h : ∀ s bi, bi < (codesL b).length → outerS a b k s bi = outerL (codesL a) (codesL b) k s bi := by
    rintro ⟨o, q, row⟩ bi hbi
    cases o with
    | some r => rfl
    | none =>
      unfold outerS outerL
      rw [item_code b hbi, len_codes a]
      dsimp only
      rw [foldl_range_eq _ (fun s i hi => innerS_L ha (hb _ (getD_mem_codes _ hbi)) hi s)]
  unfold levRows levRowsL
  rw [len_codes a, len_codes b, foldl_range_eq _ h]
  all_goals (generalize List.foldl (outerL (codesL a) (codesL b) k) _ _ = z; obtain ⟨_ | _, _, _⟩ := z <;> rfl)
def levTailL (al bl : List Nat) (k : Int) : Int :=
  if al.length = 0 ∨ bl.length = 0 then 2 * ((al.length : Int) + (bl.length : Int))
  else if bl.length < al.length then (if k < ((al.length : Int) - (bl.length : Int)) * 2 then k + 1 else levRowsL bl al k)
  else (if k < ((bl.length : Int) - (al.length : Int)) * 2 then k + 1 else levRowsL al bl k)
theorem levTail_L {a b : Str} (ha : ∀ c ∈ codesL a, c ∈ letS) (hb : ∀ c ∈ codesL b, c ∈ letS) (k : Int) : levTail a b k = levTailL (codesL a) (codesL b) k := by
  unfold levTail levTailL
  rw [len_codes a, len_codes b]
  split
  · rfl
  · by_cases h : (codesL b).length < (codesL a).length
    · simp only [if_pos h, len_codes, levRows_L hb ha]
    · simp only [if_neg h, len_codes, levRows_L ha hb]

def preL : List Nat → List Nat → Nat
  | a :: x, b :: y => if a = b then preL x y + 1 else 0
  | [], _ => 0
  | _ :: _, [] => 0
theorem slice_len_from (x : Str) {j : Nat} (hj : j ≤ (codesL x).length) : (Txt.slice x (some (j : Int)) none).length = (codesL x).length - j := by
  rw [len_codes]
  show (Txt.slice x (some (j : Int)) none).cps.toList.length = _
  rw [slice_codes_end x hj, List.length_drop]; rfl
theorem preN_L (x y : Str) : ∀ n j, j ≤ (codesL x).length → j ≤ (codesL y).length → (codesL x).length < n + j → preN x y n j = j + preL ((codesL x).drop j) ((codesL y).drop j)
  | 0, j, h1, _, h3 => by omega
  | n + 1, j, h1, h2, h3 => by
    rw [preN, slice_len_from x h1, slice_len_from y h2]
    by_cases hx : j < (codesL x).length
    · by_cases hy : j < (codesL y).length
      · rw [List.drop_eq_getElem_cons hx, List.drop_eq_getElem_cons hy, item_code x hx, item_code y hy]
        have e1 : (codesL x).getD j 0 = (codesL x)[j] := by rw [List.getD_eq_getElem?_getD, List.getElem?_eq_getElem hx]; rfl
        have e2 : (codesL y).getD j 0 = (codesL y)[j] := by rw [List.getD_eq_getElem?_getD, List.getElem?_eq_getElem hy]; rfl
        rw [e1, e2, preL]
        by_cases he : (codesL x)[j] = (codesL y)[j]
        · rw [if_pos ⟨by omega, by omega, by rw [he]⟩, if_pos he, preN_L x y n (j + 1) hx hy (by omega)]
          omega
        · rw [if_neg (fun h => he (by have := h.2.2; injection this with this; injection this with this; injection this)), if_neg he]
          rfl
      · rw [if_neg (by omega), List.drop_of_length_le (show (codesL y).length ≤ j by omega), List.drop_eq_getElem_cons hx]
        rfl
    · rw [if_neg (by omega), List.drop_of_length_le (show (codesL x).length ≤ j by omega)]
      rfl
theorem slice_mem (x : Str) (l u : Option Int) : ∀ c ∈ codesL (Txt.slice x l u), c ∈ codesL x := by
  intro c hc
  have e : Txt.slice x l u = StrLaws.sliceText x l u := rfl
  rw [e] at hc
  unfold StrLaws.sliceText at hc
  split at hc
  · exact hc
  · simp only [codesL, List.mem_filterMap] at hc
    obtain ⟨i, _, hi⟩ := hc
    exact Array.mem_toList_iff.mpr (Array.mem_of_getElem? hi)
theorem cutE_mem (x : Str) (j : Nat) : ∀ c ∈ codesL (cutE x j), c ∈ codesL x := by
  unfold cutE
  split <;> exact slice_mem x _ _
def levP (xl yl : List Nat) (k : Int) : Int :=
  if xl = yl then 0 else
  let a : Str := ⟨(xl.drop (preL xl yl)).toArray⟩
  let b : Str := ⟨(yl.drop (preL xl yl)).toArray⟩
  let q := sufN a b (a.length + 1) 0
  levTailL (codesL (cutE a q)) (codesL (cutE b q)) k
theorem levF_P {x y : Str} (hx : ∀ c ∈ codesL x, c ∈ letS) (hy : ∀ c ∈ codesL y, c ∈ letS) (k : Int) : levF x y k = levP (codesL x) (codesL y) k := by
  unfold levF levP
  by_cases h : x = y
  · rw [if_pos h, if_pos (by rw [h])]
  · have h' : ¬ codesL x = codesL y := fun e => h (Str.ext' (Array.toList_inj.mp e))
    rw [if_neg h, if_neg h', len_codes x, preN_L x y _ 0 (Nat.zero_le _) (Nat.zero_le _) (by omega), List.drop_zero, List.drop_zero, Nat.zero_add]
    have hp : ∀ (u v : List Nat), preL u v ≤ u.length ∧ preL u v ≤ v.length := by
      intro u
      induction u with
      | nil => intro v; simp [preL]
      | cons a u ih =>
        intro v
        cases v with
        | nil => simp [preL]
        | cons b v =>
          have := ih v
          rw [preL]
          split <;> simp <;> omega
    have hs : ∀ z : Str, preL (codesL x) (codesL y) ≤ (codesL z).length → Txt.slice z (some ((preL (codesL x) (codesL y) : Nat) : Int)) none = ⟨((codesL z).drop (preL (codesL x) (codesL y))).toArray⟩ := by
      intro z hz
      apply Str.ext'
      apply Array.toList_inj.mp
      rw [slice_codes_end z hz]; rfl
    dsimp only
    rw [hs x (hp _ _).1, hs y (hp _ _).2]
    refine levTail_L (fun c hc => hx c ?_) (fun c hc => hy c ?_) k
    · exact List.mem_of_mem_drop (cutE_mem _ _ c hc)
    · exact List.mem_of_mem_drop (cutE_mem _ _ c hc)
end Mine
end

section
open PySem PySem.W PyProof.Rows PySem.Spec PySem.Calls
set_option maxHeartbeats 4000000
namespace Mine
theorem dU_flip {u : Int} (h : 0 ≤ u ∧ u < 6) : dU (flipU u) = - dU u := by
  rcases six_cases h with rfl | rfl | rfl | rfl | rfl | rfl <;> decide
theorem lk_flip (us : List Int) (hb : ∀ u ∈ us, 0 ≤ u ∧ u < 6) : (lk (us.reverse.map flipU)).1 = -(lk us).1 ∧ (lk (us.reverse.map flipU)).2 = (lk us).2 - (lk us).1 := by
  induction us with
  | nil => simp [lk]
  | cons u us ih =>
    have h := ih fun v hv => hb v (List.mem_cons_of_mem _ hv)
    have k := lk_cons u us
    have k0 := lk_low us
    have k1 := lk_snoc' (us.reverse.map flipU) (flipU u)
    have hd := dU_flip (hb u (List.mem_cons_self ..))
    rw [List.reverse_cons, List.map_append, List.map_singleton, k1.1, k1.2, k.1, k.2, h.1, h.2, hd]
    have k0' := k0.1
    clear k k1 h hd k0 ih hb
    constructor <;> omega

def bigM (i1 j1 i2 j2 : Nat) : Nat := if i2 ≤ i1 then max j1 (i1 - i2 + j2) else max (j1 + (i2 - i1)) j2
def gtl (i j : Nat) (c : Nat) : List Nat := (([97, 98, 99, 100, 101] : List Nat).take (5 - i)) ++ List.replicate j c
theorem gtl_mem {i j c : Nat} (hc : c ∈ letS) : ∀ z ∈ codesL (gtx i j c), z ∈ letS := by
  intro z hz
  rcases List.mem_append.mp (show z ∈ gtl i j c from hz) with h | h
  · have h2 := List.mem_of_mem_take h
    exact List.mem_append_left [120, 121, 88] h2
  · rw [(List.mem_replicate.mp h).2]; exact hc
def chk1 (i1 j1 i2 j2 : Nat) : Bool :=
  levP (gtl i1 j1 120) (gtl i2 j2 121) (2 * bigM i1 j1 i2 j2 : Nat) == ((2 * bigM i1 j1 i2 j2 : Nat) : Int) &&
  levP (gtl i1 j1 120) (gtl i2 j2 88) (2 * bigM i1 j1 i2 j2 : Nat) == ((2 * bigM i1 j1 i2 j2 : Nat) : Int) - (min j1 j2 : Nat) &&
  levP (gtl i1 j1 120) (gtl i2 j2 120) (2 * bigM i1 j1 i2 j2 : Nat) == ((2 * bigM i1 j1 i2 j2 : Nat) : Int) - 2 * (min j1 j2 : Nat)
def chkA (i1 j1 : Nat) : Bool := (List.range 6).all fun i2 => (List.range (6 - i2)).all fun j2 => chk1 i1 j1 i2 j2
theorem chk_0_0 : chkA 0 0 = true := by decide +kernel
theorem chk_0_1 : chkA 0 1 = true := by decide +kernel
theorem chk_0_2 : chkA 0 2 = true := by decide +kernel
theorem chk_0_3 : chkA 0 3 = true := by decide +kernel
theorem chk_0_4 : chkA 0 4 = true := by decide +kernel
theorem chk_0_5 : chkA 0 5 = true := by decide +kernel
theorem chk_1_0 : chkA 1 0 = true := by decide +kernel
theorem chk_1_1 : chkA 1 1 = true := by decide +kernel
theorem chk_1_2 : chkA 1 2 = true := by decide +kernel
theorem chk_1_3 : chkA 1 3 = true := by decide +kernel
theorem chk_1_4 : chkA 1 4 = true := by decide +kernel
theorem chk_2_0 : chkA 2 0 = true := by decide +kernel
theorem chk_2_1 : chkA 2 1 = true := by decide +kernel
theorem chk_2_2 : chkA 2 2 = true := by decide +kernel
theorem chk_2_3 : chkA 2 3 = true := by decide +kernel
theorem chk_3_0 : chkA 3 0 = true := by decide +kernel
theorem chk_3_1 : chkA 3 1 = true := by decide +kernel
theorem chk_3_2 : chkA 3 2 = true := by decide +kernel
theorem chk_4_0 : chkA 4 0 = true := by decide +kernel
theorem chk_4_1 : chkA 4 1 = true := by decide +kernel
theorem chk_5_0 : chkA 5 0 = true := by decide +kernel
theorem chk_no {a b i j : Nat} (h : 6 ≤ a + b) : ¬ (i + a) + (j + b) ≤ 5 := by omega
theorem chk_all (i1 j1 i2 j2 : Nat) (h1 : i1 + j1 ≤ 5) (h2 : i2 + j2 ≤ 5) : chk1 i1 j1 i2 j2 = true := by
  have h : chkA i1 j1 = true := by
    rcases i1 with _ | _ | _ | _ | _ | _ | i1 <;> rcases j1 with _ | _ | _ | _ | _ | _ | j1
    · exact chk_0_0
    · exact chk_0_1
    · exact chk_0_2
    · exact chk_0_3
    · exact chk_0_4
    · exact chk_0_5
    · exact absurd h1 (chk_no (i := 0) (a := 0) (j := j1) (b := 6) (by decide))
    · exact chk_1_0
    · exact chk_1_1
    · exact chk_1_2
    · exact chk_1_3
    · exact chk_1_4
    · exact absurd h1 (chk_no (i := 0) (a := 1) (j := 0) (b := 5) (by decide))
    · exact absurd h1 (chk_no (i := 0) (a := 1) (j := j1) (b := 6) (by decide))
    · exact chk_2_0
    · exact chk_2_1
    · exact chk_2_2
    · exact chk_2_3
    · exact absurd h1 (chk_no (i := 0) (a := 2) (j := 0) (b := 4) (by decide))
    · exact absurd h1 (chk_no (i := 0) (a := 2) (j := 0) (b := 5) (by decide))
    · exact absurd h1 (chk_no (i := 0) (a := 2) (j := j1) (b := 6) (by decide))
    · exact chk_3_0
    · exact chk_3_1
    · exact chk_3_2
    · exact absurd h1 (chk_no (i := 0) (a := 3) (j := 0) (b := 3) (by decide))
    · exact absurd h1 (chk_no (i := 0) (a := 3) (j := 0) (b := 4) (by decide))
    · exact absurd h1 (chk_no (i := 0) (a := 3) (j := 0) (b := 5) (by decide))
    · exact absurd h1 (chk_no (i := 0) (a := 3) (j := j1) (b := 6) (by decide))
    · exact chk_4_0
    · exact chk_4_1
    · exact absurd h1 (chk_no (i := 0) (a := 4) (j := 0) (b := 2) (by decide))
    · exact absurd h1 (chk_no (i := 0) (a := 4) (j := 0) (b := 3) (by decide))
    · exact absurd h1 (chk_no (i := 0) (a := 4) (j := 0) (b := 4) (by decide))
    · exact absurd h1 (chk_no (i := 0) (a := 4) (j := 0) (b := 5) (by decide))
    · exact absurd h1 (chk_no (i := 0) (a := 4) (j := j1) (b := 6) (by decide))
    · exact chk_5_0
    · exact absurd h1 (chk_no (i := 0) (a := 5) (j := 0) (b := 1) (by decide))
    · exact absurd h1 (chk_no (i := 0) (a := 5) (j := 0) (b := 2) (by decide))
    · exact absurd h1 (chk_no (i := 0) (a := 5) (j := 0) (b := 3) (by decide))
    · exact absurd h1 (chk_no (i := 0) (a := 5) (j := 0) (b := 4) (by decide))
    · exact absurd h1 (chk_no (i := 0) (a := 5) (j := 0) (b := 5) (by decide))
    · exact absurd h1 (chk_no (i := 0) (a := 5) (j := j1) (b := 6) (by decide))
    · exact absurd h1 (chk_no (i := i1) (a := 6) (j := 0) (b := 0) (by decide))
    · exact absurd h1 (chk_no (i := i1) (a := 6) (j := 0) (b := 1) (by decide))
    · exact absurd h1 (chk_no (i := i1) (a := 6) (j := 0) (b := 2) (by decide))
    · exact absurd h1 (chk_no (i := i1) (a := 6) (j := 0) (b := 3) (by decide))
    · exact absurd h1 (chk_no (i := i1) (a := 6) (j := 0) (b := 4) (by decide))
    · exact absurd h1 (chk_no (i := i1) (a := 6) (j := 0) (b := 5) (by decide))
    · exact absurd h1 (chk_no (i := i1) (a := 6) (j := j1) (b := 6) (by decide))
  have h3 := List.all_eq_true.mp h i2 (List.mem_range.mpr (by omega))
  exact List.all_eq_true.mp h3 j2 (List.mem_range.mpr (by omega))

theorem far_key (x1 y1 x2 y2 : Int) (i1 j1 i2 j2 : Nat) (h1 : (i1 : Int) = -y1) (h2 : (j1 : Int) = x1 - y1) (h3 : (i2 : Int) = -y2) (h4 : (j2 : Int) = x2 - y2) :
    2 * (if -(min (y1 - x1) (-x1 + y2)) < (-x1 + x2) - min (y1 - x1) (-x1 + y2) then (-x1 + x2) - min (y1 - x1) (-x1 + y2) else -(min (y1 - x1) (-x1 + y2))) = ((2 * bigM i1 j1 i2 j2 : Nat) : Int) := by
  obtain rfl : y1 = -(i1 : Int) := by omega
  obtain rfl : x1 = (j1 : Int) - i1 := by omega
  obtain rfl : y2 = -(i2 : Int) := by omega
  obtain rfl : x2 = (j2 : Int) - i2 := by omega
  clear h1 h2 h3 h4
  unfold bigM
  by_cases h : i2 ≤ i1
  · have e : min (-(i1 : Int) - (j1 - i1)) (-((j1 : Int) - i1) + -(i2 : Int)) = -(j1 : Int) := by omega
    rw [e, if_pos h]
    clear e
    split <;> omega
  · have e : min (-(i1 : Int) - (j1 - i1)) (-((j1 : Int) - i1) + -(i2 : Int)) = -((j1 : Int) + (i2 - i1)) := by omega
    rw [e, if_neg h]
    clear e
    split <;> omega
theorem plain_core (one two : List Int) (hl1 : one.length = 5) (hl2 : two.length = 5) (hb1 : ∀ u ∈ one, 0 ≤ u ∧ u < 6) (hb2 : ∀ u ∈ two, 0 ≤ u ∧ u < 6) (far sh : Int)
    (hfar : far = 2 * (if -(lk (wayOf one two)).2 < (lk (wayOf one two)).1 - (lk (wayOf one two)).2 then (lk (wayOf one two)).1 - (lk (wayOf one two)).2 else -(lk (wayOf one two)).2))
    (hsh : sh = if (lk two).1 - (lk two).2 < (lk one).1 - (lk one).2 then (lk two).1 - (lk two).2 else (lk one).1 - (lk one).2) :
    levF (goneTxt "x" (rowTxt one)) (goneTxt ⟨#[121]⟩ (rowTxt two)) far = far ∧ levF (goneTxt "x" (rowTxt one)) (goneTxt ⟨#[88]⟩ (rowTxt two)) far = far - sh ∧ levF (goneTxt "x" (rowTxt one)) (goneTxt ⟨#[120]⟩ (rowTxt two)) far = far - 2 * sh := by
  have ex : Str.ofString "x" = ⟨#[120]⟩ := by decide +kernel
  rw [ex]
  obtain ⟨i1, j1, hi1, hj1, hij1, e1⟩ := goneTxt_row 120 one hb1 (by omega)
  obtain ⟨i2, j2, hi2, hj2, hij2, e2⟩ := goneTxt_row 121 two hb2 (by omega)
  obtain ⟨i2', j2', hi2', hj2', hij2', e2'⟩ := goneTxt_row 88 two hb2 (by omega)
  obtain ⟨i2'', j2'', hi2'', hj2'', hij2'', e2''⟩ := goneTxt_row 120 two hb2 (by omega)
  obtain rfl : i2' = i2 := Int.ofNat.inj (hi2'.trans hi2.symm)
  obtain rfl : j2' = j2 := Int.ofNat.inj (hj2'.trans hj2.symm)
  obtain rfl : i2'' = i2' := Int.ofNat.inj (hi2''.trans hi2'.symm)
  obtain rfl : j2'' = j2' := Int.ofNat.inj (hj2''.trans hj2'.symm)
  rw [e1, e2, e2', e2'']
  have hf := lk_flip one hb1
  have ha := lk_app (one.reverse.map flipU) two
  have hw : wayOf one two = one.reverse.map flipU ++ two := rfl
  rw [hw, ha.1, ha.2, hf.1, hf.2] at hfar
  have hF : far = ((2 * bigM i1 j1 i2'' j2'' : Nat) : Int) := hfar.trans (far_key _ _ _ _ i1 j1 i2'' j2'' hi1 hj1 hi2 hj2)
  have hS : sh = ((min j1 j2'' : Nat) : Int) := by
    rw [hsh, ← hj1, ← hj2]
    clear hfar hsh hF hf ha hij1 hij2 hij2' hij2'' hi1 hi2 hi2' hi2'' hj1 hj2 hj2' hj2'' hl1 hl2
    split <;> omega
  have hc := chk_all i1 j1 i2'' j2'' (by omega) (by omega)
  unfold chk1 at hc
  rw [Bool.and_eq_true, Bool.and_eq_true, beq_iff_eq, beq_iff_eq, beq_iff_eq] at hc
  rw [hF, hS, levF_P (gtl_mem (by decide)) (gtl_mem (by decide)), levF_P (gtl_mem (by decide)) (gtl_mem (by decide)), levF_P (gtl_mem (by decide)) (gtl_mem (by decide))]
  exact ⟨hc.1.1, hc.1.2, hc.2⟩
end Mine
end

section
open PySem PySem.W PyProof.Rows PySem.Spec PySem.Calls
set_option maxHeartbeats 4000000
namespace Mine
def farOf (one two : List Int) : Int := 2 * (if lkI (wayOf one two) < lkJ (wayOf one two) then lkJ (wayOf one two) else lkI (wayOf one two))
def shOf (one two : List Int) : Int := if lkJ two < lkJ one then lkJ two else lkJ one
theorem plain_law (one two : List Int) (hl1 : one.length = 5) (hl2 : two.length = 5) (hb1 : ∀ u ∈ one, 0 ≤ u ∧ u < 6) (hb2 : ∀ u ∈ two, 0 ≤ u ∧ u < 6) :
    gapOf one two (farOf one two) 121 = farOf one two ∧ gapOf one two (farOf one two) 88 = farOf one two - shOf one two ∧ gapOf one two (farOf one two) 120 = farOf one two - 2 * shOf one two := by
  exact plain_core one two hl1 hl2 hb1 hb2 _ _ rfl rfl
theorem flip_bound {u : Int} (h : 0 ≤ u ∧ u < 6) : 0 ≤ flipU u ∧ flipU u < 6 := by
  rcases six_cases h with rfl | rfl | rfl | rfl | rfl | rfl <;> decide
theorem way_bound {one two : List Int} (hb1 : ∀ u ∈ one, 0 ≤ u ∧ u < 6) (hb2 : ∀ u ∈ two, 0 ≤ u ∧ u < 6) : ∀ u ∈ wayOf one two, 0 ≤ u ∧ u < 6 := by
  intro u hu
  rcases List.mem_append.mp hu with hu | hu
  · obtain ⟨x, hx, rfl⟩ := List.mem_map.mp hu
    exact flip_bound (hb1 x (List.mem_reverse.mp hx))
  · exact hb2 u hu
theorem way_len (one two : List Int) : (wayOf one two).length = one.length + two.length := by simp [wayOf]
theorem far_bound (one two : List Int) (hl1 : one.length = 5) (hl2 : two.length = 5) : 0 ≤ farOf one two ∧ farOf one two ≤ 1000 := by
  have h := lk_bounds (wayOf one two)
  have hl := way_len one two
  have e1 : lkI (wayOf one two) = -(lk (wayOf one two)).2 := rfl
  have e2 : lkJ (wayOf one two) = (lk (wayOf one two)).1 - (lk (wayOf one two)).2 := rfl
  unfold farOf
  split <;> omega

theorem law_body {w : World} {p : Program} {loose : List Str} {mean : ExcName → Option Value} {mg mb : Str → Option Value} {xs : List Int} {vS : List Value} {lS : Addr}
    {dp un : Nat} {gd : Option (List Code)} {outer : List Env} {A₀ : Around} {base h₀ : Heap} {L a : Addr} {cd : Value} {m : Str → Option Value} {s : Shared} {Q : Flow → Shared → Prop} {E : Value → Shared → Prop}
    {o1 o2 o3 o4 : Obj}
    (h70 : @LT.lt Nat instLTNat 70 L) (hI : IntsAre vS xs) (hlen : xs.length ≤ 63) (hL : h₀.IsList lS vS.toArray)
    (hB : Below A₀ base outer h₀) (F : Fr h₀ L s.heap m) (hX : (hd.heap_39 w.params).In h₀) (N : News h₀ L s.heap [(L + 1 + 1 + 1 + 1, o4), (L + 1 + 1 + 1, o3), (L + 1 + 1, o2), (L + 1, o1), (70, tblOf #[])])
    (d1 : o1.data = .cell none) (d2 : o2.data = .cell none) (d3 : o3.data = .cell none) (d4 : o4.data = .cell none)
    (hT : Top p loose mean mg mb h₀) (hdp : dp + 20 < recursionLimit) (hun : un + 200 < cLine)
    (hm : ∀ q ∈ [(("script" : Str), Value.ref lS)], m q.1 = some q.2)
    (hQ : ∀ h' tk' gs' m' ps', Fr h₀ L h' m' → News h₀ L h' [(70, tblOf ps')] → GUp s.gens gs' → Q (.ret (.bool true)) { s with heap := h', toks := tk', gens := gs' }) :
    wpAny (model PySem.Challenge.rw_tc0006_01.row.prog w) (ktrTop dp un gd (fnName 19) (fnScope 19) L a cd (lawCells L) outer) (execs (fnBody 19) (lawEnv L a cd)) Q E s := by
  have htab : TabOk strPos #[] := .inl rfl
  refine law_s0 (ps := []) h70 hI hlen hL hB F hX N d1 d2 d3 d4 hT hdp hun hm ?_
  intro D zs ys o1' h1 tk1 m1 hys hzl d1' F1 N1
  show wpAny _ _ (execs (lawIx 1 :: (fnBody 19).drop 2) _) _ _ _
  refine wpAny_execs_cons ?_
  refine law_s1 (ps := []) (s := ⟨h1, _, _, _, _⟩) h70 hys hzl hB F1 hX N1 d1' hT hdp hun ?_
  intro D2 ns ys2 h2 tk2 gs2 hns hnl hnb F2 N2 hoff hG2
  have hl1 : (ns.take 5).length = 5 := by simp [hnl]
  have hl2 : (ns.drop 5).length = 5 := by simp [hnl]
  have hb1 : ∀ u ∈ ns.take 5, 0 ≤ u ∧ u < 6 := fun u hu => hnb u (List.mem_of_mem_take hu)
  have hb2 : ∀ u ∈ ns.drop 5, 0 ≤ u ∧ u < 6 := fun u hu => hnb u (List.mem_of_mem_drop hu)
  show wpAny _ _ (execs ((fnBody 19).drop 2) (lawEnv L a cd)) Q E _
  refine law_s3 (ps := []) (s := ⟨h2, _, _, _, _⟩) (D := D2) h70 hns hnl hnb hB F2 hX (fun q hq => N2 q (by simp only [List.mem_cons, List.not_mem_nil, or_false] at hq ⊢; exact hq.elim .inl fun hq => hq.elim (fun h => .inr (.inl h)) fun hq => hq.elim (fun h => .inr (.inr (.inl h))) fun hq => hq.elim (fun h => .inr (.inr (.inr (.inl h)))) fun hq => hq.elim (fun h => .inr (.inr (.inr (.inr (.inl h))))) fun h => .inr (.inr (.inr (.inr (.inr (.inr h))))))) d2
    (hoff (L + 1 + 1 + 1 + 1, o4) (by simp)) (hoff (L + 1 + 1 + 1, o3) (by simp)) (hoff (L + 1 + 1, o2) (by simp)) (hoff (L + 1, o1') (by simp)) (hoff (70, tblOf #[]) (by simp)) hT hdp hun (all_cons (by simp) all_nil) ?_
  intro A1 v1 A2 v2 A3 v3 o2' m3 h3 tk3 hv1 hv2 hv3 d2' F3 N3 n1 n2 n3 hm3
  generalize ns.take 5 = one at *
  generalize ns.drop 5 = two at *
  have hb3 := way_bound hb1 hb2
  have hl3 := way_len one two
  refine law_s4 (ps := []) (s := ⟨h3, _, _, _, _⟩) h70 hv1 hv2 hv3 (by omega) (by omega) (by omega) hb1 hb2 hb3 hB F3 hX N3 d2' n1 n2 n3 hT hdp hun hm3 ?_
  intro h4 tk4 gs4 F4 N4 hG4
  refine law_s5 (ps := []) (s := ⟨h4, _, _, _, _⟩) h70 hv1 hv2 hv3 (by omega) (by omega) (by omega) hb1 hb2 hb3 hB F4 hX N4 d2' d3 d4 n1 n2 n3 hT hdp hun htab hm3 ?_
  intro h5 tk5 gs5 o3' o4' t3 t4 ts m5 ps5 hm5 d3' d4' F5 N5 htab5 hG5
  show wpAny _ _ (execs (lawIx 8 :: (fnBody 19).drop 9) _) _ _ _
  refine wpAny_execs_cons ?_
  have hfar := far_bound one two hl1 hl2
  refine law_s8 (s := ⟨h5, _, _, _, _⟩) (far := farOf one two) h70 (Nat.lt_trans n1 n2) hv2 (Nat.le_of_eq hl1) (Nat.le_of_eq hl2) hb1 hb2 hfar.1 hfar.2 hB F5 hX N5 d2' d3' d4' hT hdp hun htab5 ?_
  intro D6 ys6 h6 tk6 gs6 ps6 hys6 F6 N6 htab6 hG6
  obtain ⟨e1, e2, e3⟩ := plain_law one two hl1 hl2 hb1 hb2
  rw [e1, e2, e3] at hys6
  show wpAny _ _ (execs ((fnBody 19).drop 9) (lawEnv L a cd)) Q E _
  refine law_s9 (s := ⟨h6, _, _, _, _⟩) (far := farOf one two) (sh := shOf one two) h70 hys6 hB F6 hX N6 d3' hT hdp hun (ts := ts) (all_cons put_eq (all_cons (put_ne (show ("shared" : Str) ≠ "gaps" by decide) (hm5 _ (.head _))) all_nil)) ?_
  · intro h7 tk7 m7 F7 N7
    exact hQ h7 tk7 gs6 m7 ps6 F7 N7 (hG2.trans (hG4.trans (hG5.trans hG6)))
end Mine
end

section
open PySem PySem.W PyProof.Rows PySem.Spec PySem.Calls Mine
set_option maxHeartbeats 8000000
set_option maxHeartbeats 8000000 in
theorem PySem.Challenge.cw_tc0006_01_holds : PySem.Challenge.rw_tc0006_01.Holds := by
  refine hd ?_
  k_fill
  intro w s₀ s₁ mg mb G Y fa o pm cd doc dV kV ho hdd hcd hD hmg hg args vals as hpre hlay hrd hwl hlo
  have KX := km_in_of Y
  have hT8 := km_tabs_of Y
  have X := (Ground.X G).1
  have V := (Ground.X G).2
  refine Ground.open G ?_
  intro T B D TE TW
  try (refine guard_noD D (by decide +kernel) ?_; clear D)
  wrow_args hpre hlay hrd hwl hlo
  all_goals (
    first | refine callC_kw (enter_call ?_) | refine enter_call ?_ | refine callC_kw (enter_callW ?_) | refine enter_callW ?_ | w_how
    w_top on
    w_call any ho hdd hcd hD T F
    clear hdd
    k_drop
    skip)
  rename_i xs _ _ _ _ _ _ _ lS vS _ hL _ _ _ hI _ hcond _ h₁ tk₁ w4 w3 w2 w1 hr1 hr2 hr3 hr4 N0 X0
  have hT : TabsAt [(74, 70)] s₁.heap := by
    intro q hq
    rw [List.mem_singleton.mp hq]
    exact ⟨codeHd_of_K KX (by kernel_rfl), hT8 70 (List.mem_singleton.mpr rfl)⟩
  have h70 : @LT.lt Nat instLTNat 70 s₁.heap.objs.size := Heap.lt_size (hT8 70 (List.mem_singleton.mpr rfl))
  have F' := ghost_fr hT F
  have N' := ghost_news hT F N0
  have KX' := ghost_K hT KX (by kernel_rfl)
  have T' := ghost_top hT T
  have hL' := ghost_list hT hL
  refine law_body (outer := []) (A₀ := callerA) (base := ghostOf s₁.heap [(74, 70)]) (h₀ := ghostOf s₁.heap [(74, 70)]) (s := ⟨h₁, _, _, _, _⟩) (xs := xs) (vS := vS) (lS := lS) (o1 := w1) (o2 := w2) (o3 := w3) (o4 := w4) h70 hI ?_ hL' (ghost_below hT) F' KX' N' ?_ ?_ ?_ ?_ T' (by decide) (by decide) ?_ ?_
  · omega
  · exact hr4.trans (by with_unfolding_all rfl)
  · exact hr3.trans (by with_unfolding_all rfl)
  · exact hr2.trans (by with_unfolding_all rfl)
  · exact hr1.trans (by with_unfolding_all rfl)
  · exact all_cons (by with_unfolding_all rfl) all_nil
  · intro h' tk' gs' m' ps' F2 N2 hG2
    have hP := (N2 _ (.head _)).1
    refine ⟨.inl ⟨.bool true, .bool true, [], rfl, (fun _ => rfl), ReadsW.bool true, ?_, fun _ => ⟨List.nodup_nil, fun _ hm => (nomatch hm)⟩⟩, ⟨fun b o e => ?_, fun b o e => ?_⟩, rfl, hG2 (AllBare.of_eq hg)⟩
    · first | rfl | wrow_post
    · by_cases hb : b = 70
      · subst hb
        have e2 := hT8 70 (List.mem_singleton.mpr rfl)
        rw [e] at e2
        have hq := hT _ (List.mem_singleton.mpr rfl)
        have e3 := Option.some.inj e2
        subst e3
        exact .inr (.inl ⟨(hq.1.tab hq.2).isCodeTable, rfl, #[], ps', rfl, by rw [Array.empty_append]; exact hP⟩)
      · exact .inl (F2.keep b o (ghost_ne e (by simpa using hb)))
    · by_cases hb : b = 70
      · subst hb; exact ⟨_, hP⟩
      · exact ⟨o, F2.keep b o (ghost_ne e (by simpa using hb))⟩
end
