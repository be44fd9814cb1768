import PyProof.Rows.All
import Wide.All
import OpenK.AllK
import Wide.FinOn
import PySem.Challenge.RW_xc0016_01
set_option Elab.async false
set_option linter.unusedVariables false
set_option linter.unusedSimpArgs false
set_option maxHeartbeats 4000000
set_option maxRecDepth 20000
set_option compiler.extract_closed false
namespace Mine
theorem hand {G : Prop} (_hw : True) (hc : G) : G := hc
section
open PySem PySem.W PyProof.Rows
local macro_rules | `(tactic| o_head $H) => `(tactic| refine hand ?hw ?hc)
local macro_rules | `(tactic| w_witness2) => `(tactic| trivial)
set_option maxRecDepth 100000 in
set_option maxHeartbeats 8000000 in
open_top h0 for (PySem.Challenge.rw_xc0016_01).row
theorem off1 : True := by
  w_top off
  trivial
end

section
open PySem PySem.W PyProof.Rows
noncomputable def pick : List Nat → List Stmt → List Stmt
  | [], _ => []
  | i :: r, l => (l[i]?).toList ++ pick r l
noncomputable def recOf : Option Stmt → DefRec
  | some (.FunctionDef n a b _ _ _ s _ _ p) => ⟨n, a, b, s, p⟩
  | _ => ⟨Str.ofString "law", default, [], default, default⟩
noncomputable def lawD : DefRec := recOf (PySem.Challenge.pw_xc0016_01.main.body[28]?)
noncomputable def view : Program := { PySem.Challenge.pw_xc0016_01 with main := { PySem.Challenge.pw_xc0016_01.main with body := pick [0, 2, 3, 4, 5, 7, 8, 9, 10, 12, 13, 14, 15, 16, 17, 18, 19, 20, 22, 23, 24, 25, 26, 27, 28] PySem.Challenge.pw_xc0016_01.main.body } }
end

theorem rl {x a b n : Nat} (h : x + a < n) (hb : b ≤ a) : x + b < n := Nat.lt_of_le_of_lt (Nat.add_le_add_left hb x) h

open PySem PySem.W PyProof.Rows in
local macro_rules | `(tactic| kp_flats) => `(tactic| (intro D' h' tk' F' N' o1'; (try simp only [LCg.Off1, and_true] at o1'); (try simp only [List.nil_append, List.cons_append] at N'); (repeat (have hA9 := And.left o1'; replace o1' := And.right o1')); (try dsimp only)))
open PySem PySem.W PyProof.Rows in
local macro_rules | `(tactic| k_enter) => `(tactic| first | (k_extra "xe3"; (try k_extra "enxe3"); intro D' o' g' L' h' tk' l1 lo' hs' FG' F' N' B' X' T'; (try k_lt l1); (try dsimp only); (try k_lift B'); (try k_fold)) | (k_extra "xe1"; (try k_extra "enxe1"); intro g' L' h' FG' F' N' B' X' T'; (try dsimp only); (try k_lift B'); (try k_fold)) | (k_extra "xe2"; (try k_extra "enxe2"); intro g' L' h' tk' cells' FG' F' N' Y' B' X' T' l1; (try k_lt l1); k_cells Y'; (try simp only [List.cons_append, List.nil_append] at N'); (try dsimp only); (try k_lift B'); (try k_fold)))
local macro_rules | `(tactic| omega) => `(tactic| k_extra "xomega")
local macro_rules | `(tactic| k_mem) => `(tactic| k_extra "xk_mem")
local macro_rules | `(tactic| k_all) => `(tactic| k_extra "xk_all")
local macro_rules | `(tactic| ktr_rel) => `(tactic| k_extra "xktr_rel")
local macro_rules | `(tactic| kcj_all) => `(tactic| k_extra "xkcj_all")
local macro_rules | `(tactic| kmk_sum) => `(tactic| k_extra "xkmk_sum")
local macro_rules | `(tactic| lcg_off) => `(tactic| k_extra "xlcg_off")
local macro_rules | `(tactic| lcg_src) => `(tactic| k_extra "xlcg_src")
local macro_rules | `(tactic| lcg_sub) => `(tactic| k_extra "xlcg_sub")
local macro_rules | `(tactic| k_head) => `(tactic| k_extra "xk_head")
local macro_rules | `(tactic| walk_at $s:str) => `(tactic| k_extra $s)
section
open PySem PySem.W PyProof.Rows
noncomputable def Pt : Type 1 := Nat → (α : Type) → Nonempty α → α
structure Go (α : Type) where
  at_ : α → Nat → Pt → Prop
  all : α → Prop
  fr : ∀ T n c c', (∀ m, n ≤ m → c m = c' m) → at_ T n c → at_ T n c'
  law : ∀ T n, (∀ c, at_ T n c) → all T
noncomputable def Go.nil : Go Prop := ⟨fun T _ _ => T, fun T => T, fun _ _ _ _ _ h => h, fun _ _ h => h fun _ _ i => Classical.choice i⟩
open Classical in
theorem Go.put {α : Type} (n : Nat) (x : α) (d : Pt) : ∃ c : Pt, (∀ i, c n α i = x) ∧ ∀ m, m ≠ n → c m = d m := by
  refine ⟨fun m γ j => if e : m = n ∧ α = γ then cast e.2 x else d m γ j, fun i => ?_, fun m h => ?_⟩
  · simp
  · funext γ j
    simp [h]
noncomputable def Go.arr {α β : Type} (i : Nonempty α) (g : Go β) : Go (α → β) where
  at_ T n c := g.at_ (T (c n α i)) (n + 1) c
  all T := ∀ x, g.all (T x)
  fr T n c c' h k := by
    rw [← h n (Nat.le_refl n)]
    exact g.fr _ _ _ _ (fun m hm => h m (Nat.le_of_succ_le hm)) k
  law T n h x := g.law (T x) (n + 1) fun d => by
    obtain ⟨c, e, k⟩ := Go.put n x d
    have q := h c
    rw [e] at q
    exact g.fr _ _ _ _ (fun m hm => k m (Nat.ne_of_gt hm)) q
theorem ne_Drawn : Nonempty Drawn := ⟨{}⟩
theorem ne_Shared : Nonempty Shared := ⟨{}⟩
theorem ne_Around : Nonempty PySem.Around := ⟨{}⟩
theorem ne_Seen : Nonempty Sre.Seen := ⟨{}⟩
theorem ne_World : Nonempty World := by
  refine ⟨{ draws := fun _ _ => 0, params := ?_ }⟩
  constructor <;> first | exact fun _ => default | exact fun _ _ => default | exact default | exact id
theorem ne_Model : Nonempty Model := ⟨{ den := fun _ => default, prog := default, w := Classical.choice ne_World }⟩
theorem nep {α β : Type} (a : Nonempty α) (b : Nonempty β) : Nonempty (α × β) := match a, b with | ⟨x⟩, ⟨y⟩ => ⟨(x, y)⟩
noncomputable def pt {α : Type} (n : Nonempty α) (U : α → Prop) : α := @Classical.epsilon α n fun c => ¬ U c
noncomputable def ap3 {a1 a2 a3 : Type} (T : (a1 → a2 → a3 → Prop)) : (a1 → a2 → a3 → Prop) := T
noncomputable def un3 {a1 a2 a3 : Type} (T : (a1 → a2 → a3 → Prop)) (c : (((Unit × a1) × a2) × a3)) : Prop := ap3 T c.1.1.2 c.1.2 c.2
theorem eps3 {a1 a2 a3 : Type} (n : Nonempty (((Unit × a1) × a2) × a3)) {T : (a1 → a2 → a3 → Prop)} (h : un3 T (pt n (un3 T))) : ∀ x1 x2 x3, T x1 x2 x3 := fun x1 x2 x3 => Classical.byContradiction fun q => @Classical.epsilon_spec (((Unit × a1) × a2) × a3) (fun c => ¬ un3 T c) ⟨((((), x1), x2), x3), q⟩ h
noncomputable def ap4 {a1 a2 a3 a4 : Type} (T : (a1 → a2 → a3 → a4 → Prop)) : (a1 → a2 → a3 → a4 → Prop) := T
noncomputable def un4 {a1 a2 a3 a4 : Type} (T : (a1 → a2 → a3 → a4 → Prop)) (c : ((((Unit × a1) × a2) × a3) × a4)) : Prop := ap4 T c.1.1.1.2 c.1.1.2 c.1.2 c.2
theorem eps4 {a1 a2 a3 a4 : Type} (n : Nonempty ((((Unit × a1) × a2) × a3) × a4)) {T : (a1 → a2 → a3 → a4 → Prop)} (h : un4 T (pt n (un4 T))) : ∀ x1 x2 x3 x4, T x1 x2 x3 x4 := fun x1 x2 x3 x4 => Classical.byContradiction fun q => @Classical.epsilon_spec ((((Unit × a1) × a2) × a3) × a4) (fun c => ¬ un4 T c) ⟨(((((), x1), x2), x3), x4), q⟩ h
noncomputable def ap6 {a1 a2 a3 a4 a5 a6 : Type} (T : (a1 → a2 → a3 → a4 → a5 → a6 → Prop)) : (a1 → a2 → a3 → a4 → a5 → a6 → Prop) := T
noncomputable def un6 {a1 a2 a3 a4 a5 a6 : Type} (T : (a1 → a2 → a3 → a4 → a5 → a6 → Prop)) (c : ((((((Unit × a1) × a2) × a3) × a4) × a5) × a6)) : Prop := ap6 T c.1.1.1.1.1.2 c.1.1.1.1.2 c.1.1.1.2 c.1.1.2 c.1.2 c.2
theorem eps6 {a1 a2 a3 a4 a5 a6 : Type} (n : Nonempty ((((((Unit × a1) × a2) × a3) × a4) × a5) × a6)) {T : (a1 → a2 → a3 → a4 → a5 → a6 → Prop)} (h : un6 T (pt n (un6 T))) : ∀ x1 x2 x3 x4 x5 x6, T x1 x2 x3 x4 x5 x6 := fun x1 x2 x3 x4 x5 x6 => Classical.byContradiction fun q => @Classical.epsilon_spec ((((((Unit × a1) × a2) × a3) × a4) × a5) × a6) (fun c => ¬ un6 T c) ⟨(((((((), x1), x2), x3), x4), x5), x6), q⟩ h
noncomputable def ap9 {a1 a2 a3 a4 a5 a6 a7 a8 a9 : Type} (T : (a1 → a2 → a3 → a4 → a5 → a6 → a7 → a8 → a9 → Prop)) : (a1 → a2 → a3 → a4 → a5 → a6 → a7 → a8 → a9 → Prop) := T
noncomputable def un9 {a1 a2 a3 a4 a5 a6 a7 a8 a9 : Type} (T : (a1 → a2 → a3 → a4 → a5 → a6 → a7 → a8 → a9 → Prop)) (c : (((((((((Unit × a1) × a2) × a3) × a4) × a5) × a6) × a7) × a8) × a9)) : Prop := ap9 T c.1.1.1.1.1.1.1.1.2 c.1.1.1.1.1.1.1.2 c.1.1.1.1.1.1.2 c.1.1.1.1.1.2 c.1.1.1.1.2 c.1.1.1.2 c.1.1.2 c.1.2 c.2
theorem eps9 {a1 a2 a3 a4 a5 a6 a7 a8 a9 : Type} (n : Nonempty (((((((((Unit × a1) × a2) × a3) × a4) × a5) × a6) × a7) × a8) × a9)) {T : (a1 → a2 → a3 → a4 → a5 → a6 → a7 → a8 → a9 → Prop)} (h : un9 T (pt n (un9 T))) : ∀ x1 x2 x3 x4 x5 x6 x7 x8 x9, T x1 x2 x3 x4 x5 x6 x7 x8 x9 := fun x1 x2 x3 x4 x5 x6 x7 x8 x9 => Classical.byContradiction fun q => @Classical.epsilon_spec (((((((((Unit × a1) × a2) × a3) × a4) × a5) × a6) × a7) × a8) × a9) (fun c => ¬ un9 T c) ⟨((((((((((), x1), x2), x3), x4), x5), x6), x7), x8), x9), q⟩ h
theorem kw_ne : True := by
  k_with "xne" => (first | exact ne_World | exact ne_Shared | exact ne_Around | exact ne_Drawn | exact ne_Seen | exact ne_Model | exact ⟨default⟩ | exact ⟨by constructor <;> exact default⟩ | refine ⟨fun _ => Classical.choice ?_⟩)
  k_with "go" => (repeat' (first | exact Go.nil | refine Go.arr ?_ ?_ | k_extra "xne"))
  k_with "g" => (generalize pt0 _ _ _ = z9; revert z9)
  k_with "st" => dsimp only [Go.arr, Go.nil]
  k_with "enxe1" => (k_extra "zon"; k_extra "n3")
  k_with "enxe2" => (k_extra "zon"; k_extra "n4")
  k_with "enxe3" => (k_extra "zon"; k_extra "n6")
  k_with "i0" => intro Q news E s m h₀ base A₀ outer L gd un dp mb mg mean w
  k_with "i1" => intro cl ccd a cs cn Q news E s m h₀ base A₀ outer L gd un dp mb mg mean w
  k_with "xnp" => (repeat' (first | refine nep ?_ ?_ | exact ⟨()⟩ | exact ne_World | exact ne_Shared | exact ne_Around | exact ne_Drawn | exact ne_Seen | exact ne_Model | exact ⟨default⟩ | exact ⟨by constructor <;> exact default⟩))
  k_with "e9" => (refine no_implicit_lambda% (eps9 ?nq ?_); (case nq => k_extra "xnp"); delta un9; iterate 9 (generalize Prod.snd _ = z9; revert z9))
  k_with "n3" => (refine no_implicit_lambda% (eps3 ?nq ?_); (case nq => k_extra "xnp"); delta un3; generalize Prod.snd (pt _ _) = z9; revert z9; generalize Prod.snd (Prod.fst (pt _ _)) = z9; revert z9; generalize Prod.snd (Prod.fst (Prod.fst (pt _ _))) = z9; revert z9)
  k_with "n4" => (refine no_implicit_lambda% (eps4 ?nq ?_); (case nq => k_extra "xnp"); delta un4; generalize Prod.snd (pt _ _) = z9; revert z9; generalize Prod.snd (Prod.fst (pt _ _)) = z9; revert z9; generalize Prod.snd (Prod.fst (Prod.fst (pt _ _))) = z9; revert z9; generalize Prod.snd (Prod.fst (Prod.fst (Prod.fst (pt _ _)))) = z9; revert z9)
  k_with "n6" => (refine no_implicit_lambda% (eps6 ?nq ?_); (case nq => k_extra "xnp"); delta un6; generalize Prod.snd (pt _ _) = z9; revert z9; generalize Prod.snd (Prod.fst (pt _ _)) = z9; revert z9; generalize Prod.snd (Prod.fst (Prod.fst (pt _ _))) = z9; revert z9; generalize Prod.snd (Prod.fst (Prod.fst (Prod.fst (pt _ _)))) = z9; revert z9; generalize Prod.snd (Prod.fst (Prod.fst (Prod.fst (Prod.fst (pt _ _))))) = z9; revert z9; generalize Prod.snd (Prod.fst (Prod.fst (Prod.fst (Prod.fst (Prod.fst (pt _ _)))))) = z9; revert z9)
  trivial
end
section
section -- C0
open PySem PySem.W PyProof.Rows
noncomputable abbrev PG : Program := PySem.Challenge.rw_xc0016_01.row.toRowW.prog
noncomputable abbrev TopX (mean : ExcName → Option Value) (mg mb : Str → Option Value) (h : Heap) : Prop :=
  Top view (looseW view [Str.ofString "UNKNOWN", Str.ofString "_twin_re_1", Str.ofString "_twin_re_2"]) mean mg mb h
noncomputable abbrev Led := List (Addr × Obj)
inductive All3 (a b c : Prop) : Prop
  | mk : a → b → c → All3 a b c
inductive All4 (a b c d : Prop) : Prop
  | mk : a → b → c → d → All4 a b c d
inductive All5 (a b c d e : Prop) : Prop
  | mk : a → b → c → d → e → All5 a b c d e
inductive All6 (a b c d e f : Prop) : Prop
  | mk : a → b → c → d → e → f → All6 a b c d e f
inductive All7 (a b c d e f g : Prop) : Prop
  | mk : a → b → c → d → e → f → g → All7 a b c d e f g
end
section -- D0
open PySem PySem.W PyProof.Rows
noncomputable def stOf : Option Stmt → List Stmt × Scope × Arguments
  | some (.FunctionDef _ a b _ _ _ s _ _ _) => (b, s, a)
  | _ => ([], default, default)
noncomputable def nth (n : Nat) : List Stmt × Scope × Arguments := stOf (PG.main.body[n]?)
noncomputable def hopB : List Stmt := (nth 24).1
noncomputable def hopS : Scope := (nth 24).2.1
noncomputable abbrev envH (L : Addr) : Env := envX (Str.ofString "_law_hop") hopS L 233 (.ref 232) (cellsFrom (L + 1) hopS.names [])
noncomputable abbrev arH (dp un : Nat) (gd : Option (List Code)) (L : Addr) (outer : List Env) : Around := ktrTop dp un gd (Str.ofString "_law_hop") hopS L 233 (.ref 232) (cellsFrom (L + 1) hopS.names []) outer
inductive CallersAre : List (Str × Value) → List (Str × Int) → Prop
  | nil : CallersAre [] []
  | cons (k : Str) (n : Int) (t : Tok) {kvs : List (Str × Value)} {c : List (Str × Int)} : CallersAre kvs c → CallersAre ((k, .int n t) :: kvs) ((k, n) :: c)
noncomputable def bump (c : List (Str × Int)) (k : Str) : List (Str × Int) := if c.any (fun p => p.1 == k) then c.map (fun p => if p.1 = k then (p.1, p.2 + 1) else p) else c ++ [(k, 1)]
noncomputable def letter (b : Bool) : Str := if b then Str.ofString "H" else Str.ofString "T"
end
section -- D1
open PySem PySem.W PyProof.Rows
open PySem.Spec PySem.Calls PyProof.Rows.LCg
inductive ItG (prog : Program) (w : World) (A : Around) (h₀ : Heap) (L : Addr) (m : Str → Option Value) (env : Env) (elt : PySem.Expr) (x : Str) (scope : Scope) (cl : List (Str × Addr)) (Fin : Shared → List Value → Led → Prop) (it : Value) (s₂ : Shared) : Prop
  | mk : ∀ I fp n P St S news, it = .ref I → Walks prog w A I fp [I] n P St → n ≤ sizeLine → (∀ i h, St i h → ∃ o, h.get? I = some o) → (∀ i h h' o nw, St i h → h.get? I = some o → h'.get? I = some o → (∀ b o, h₀.get? b = some o → h'.get? b = some o) → News h₀ L h' nw → S nw → St i h') → St 0 s₂.heap → (∀ b ∈ fp, b < s₂.heap.objs.size) → Fr h₀ L s₂.heap m → News h₀ L s₂.heap news → L ≠ I → h₀.get? I = none → (∀ p ∈ news, p.1 ≠ I) → S news → CompRest prog w A h₀ L m env elt x scope cl s₂ S P (Fin s₂) n 0 [] news → ItG prog w A h₀ L m env elt x scope cl Fin it s₂
section
variable {prog : Program} {w : World} {A : Around} {E : Value → Shared → Prop} {s : Shared} {h₀ : Heap} {L : Addr} {m : Str → Option Value} {env : Env} {news : Led}
noncomputable def TupIn (ax : Addr) (its : Array Value) (news : Led) : Prop := ∃ o, (ax, o) ∈ news ∧ o.cls = .type "tuple" ∧ ∃ n, o.data = .seq its n
noncomputable def LstIn (ax : Addr) (its : Array Value) (news : Led) : Prop := ∃ o, (ax, o) ∈ news ∧ o.cls = .type "list" ∧ ∃ n, o.data = .seq its n
end
end
section -- S0
open PySem
open PySem.Sre
noncomputable def c1 : Array Nat := #[14, 4, 0, 1, 1, 6, 1, 16, 46, 1]
noncomputable def c2 : Array Nat := #[14, 9, 4, 1, 2, 16, 10, 16, 13, 0, 7, 7, 16, 13, 16, 10, 15, 18, 5, 16, 10, 15, 13, 11, 16, 13, 5, 5, 0, 16, 10, 1, 15, 2, 0, 1]
noncomputable def Ends (n : Nat) (m r : M) : Prop := M.runFor n m = r
noncomputable def S2 (text : Array Nat) (lim start last : Nat) (must : Bool) (pc pos handed : Nat) (outer : Bool) (frames : List Sre.Frame) (weight : Nat) (answer : Option Bool) (seen : Seen) (out : Option Sre.Outcome) : M :=
  { code := c2, text, lim, start, lastStart := last, mustAdvance := must, pc, pos, handed, outermost := outer, marks := #[], frames, weight, answer, seen, outcome := out }
noncomputable def f0 (s : Nat) (first : Bool) : Sre.Frame := { wait := .nextStart, pc := 10, pos := s, outermost := first }

noncomputable def fB (pc pos : Nat) (first : Bool) : Sre.Frame := { wait := .nextBranch, pc, pos, outermost := first }
noncomputable def fN (pc pos : Nat) (first : Bool) : Sre.Frame := { wait := .lookNot, pc, pos, outermost := first }

noncomputable def T1 (text : Array Nat) (lim s last : Nat) (handed : Nat) (seen : Seen) (first : Bool) : Prop := ∀ (h : s < lim) (hc : text[s]?.getD 0 = 10), ∃ seen', Ends 24 (S2 text lim s last false 10 s s first [f0 s first] 1 none seen none) (S2 text lim s last false 10 s (s+1) first [] 0 (some true) seen' (some .matched))
noncomputable def T2 (text : Array Nat) (lim s last : Nat) (handed : Nat) (seen : Seen) (first : Bool) : Prop := ∀ (h : s + 1 < lim) (hc : text[s]?.getD 0 = 13) (hd : text[s + 1]?.getD 0 = 10), ∃ seen', Ends 24 (S2 text lim s last false 10 s s first [f0 s first] 1 none seen none) (S2 text lim s last false 10 s (s+2) first [] 0 (some true) seen' (some .matched))
noncomputable def T3 (text : Array Nat) (lim s last : Nat) (handed : Nat) (seen : Seen) (first : Bool) : Prop := ∀ (h : s < lim) (hc : text[s]?.getD 0 = 13) (hd : s + 1 < lim → text[s + 1]?.getD 0 ≠ 10), ∃ seen', Ends 24 (S2 text lim s last false 10 s s first [f0 s first] 1 none seen none) (S2 text lim s last false 10 s (s+1) first [] 0 (some true) seen' (some .matched))
noncomputable def S1 (text : Array Nat) (lim start last : Nat) (must : Bool) (pc pos handed : Nat) (outer : Bool) (frames : List Sre.Frame) (weight : Nat) (answer : Option Bool) (seen : Seen) (out : Option Sre.Outcome) : M :=
  { code := c1, text, lim, start, lastStart := last, mustAdvance := must, pc, pos, handed, outermost := outer, marks := #[], frames, weight, answer, seen, outcome := out }
noncomputable def f1 (s : Nat) (first : Bool) : Sre.Frame := { wait := .nextStart, pc := 5, pos := s, outermost := first }
noncomputable def dotAt (text : Array Nat) (s : Nat) : Prop := (s = 0 ∨ text[s - 1]?.getD 0 = 10) ∧ text[s]?.getD 0 = 46
noncomputable def T4 (text : Array Nat) (lim s last : Nat) (handed : Nat) (seen : Seen) (first : Bool) : Prop := ∀ (h : s < lim) (hd : dotAt text s), ∃ seen', Ends 24 (S1 text lim s last false 5 s handed first [f1 s first] 1 none seen none) (S1 text lim s last false 5 s (s+1) first [] 0 (some true) seen' (some .matched))
noncomputable def T5 (text : Array Nat) (lim s last : Nat) (handed : Nat) (seen : Seen) (first : Bool) : Prop := ∀ (h : s < last) (hd : ¬ (s < lim ∧ dotAt text s)), ∃ k seen' handed', k ≤ 4 ∧ Ends k (S1 text lim s last false 5 s handed first [f1 s first] 1 none seen none) (S1 text lim (s+1) last false 5 (s+1) handed' false [f1 (s+1) false] 1 none seen' none)
noncomputable def T6 (text : Array Nat) (lim s : Nat) (handed : Nat) (seen : Seen) (first : Bool) : Prop := ∀ (h : s = lim), ∃ seen' handed', Ends 8 (S1 text lim s lim false 5 s handed first [f1 s first] 1 none seen none) (S1 text lim s lim false 5 s handed' first [] 0 (some false) seen' (some .failed))
noncomputable def Hit1 (text : Array Nat) (lim p : Nat) (r : M) : Prop :=
  (r.outcome = some .failed ∧ ∀ i, p ≤ i → i < lim → ¬ dotAt text i) ∨
  (r.outcome = some .matched ∧ p ≤ r.start ∧ r.start < lim ∧ r.handed = r.start + 1 ∧ dotAt text r.start ∧ ∀ i, p ≤ i → i < r.start → ¬ dotAt text i)
noncomputable def nlAt (text : Array Nat) (s : Nat) : Prop := text[s]?.getD 0 = 10 ∨ text[s]?.getD 0 = 13
noncomputable def nlLen (text : Array Nat) (s : Nat) : Nat := if text[s]?.getD 0 = 13 ∧ text[s + 1]?.getD 0 = 10 then 2 else 1
noncomputable def Hit2 (text : Array Nat) (lim p : Nat) (r : M) : Prop :=
  (r.outcome = some .failed ∧ ∀ i, p ≤ i → i < lim → ¬ nlAt text i) ∨
  (r.outcome = some .matched ∧ p ≤ r.start ∧ r.start < lim ∧ r.handed = r.start + nlLen text r.start ∧ nlAt text r.start ∧ ∀ i, p ≤ i → i < r.start → ¬ nlAt text i)
end
section -- S1
open PySem PySem.W PyProof.Rows
open PySem.Builtin PySem.Builtin.Re
section
variable {M : Model} {A : Around} {E : Value → Shared → Prop} {s : Shared}
structure PatAt (h : Heap) (P : Addr) (code : Array Nat) : Prop where
  at_ : ∃ a0 a1 t2 a3 a4 Tp t6 cv n, h.get? P = some { cls := .type "re.Pattern", data := .fields #[a0, a1, .int 0 t2, a3, a4, .ref Tp, .int 0 t6] } ∧ h.get? Tp = some { cls := .type "tuple", data := .seq cv n } ∧ (cv.map reRawOf).map (·.toNat) = code
end
noncomputable def SpecF (code text : Array Nat) (lit : List Nat) (F : Nat → List Nat) : Prop :=
  ∀ p, p ≤ text.size → ∃ r n, n ≤ 4 * 2 ^ 64 ∧ Ends n (Sre.forSearch code text 0 p text.size false) r ∧
    ((r.outcome = some .failed ∧ F p = text.toList.drop p) ∨
     (r.outcome = some .matched ∧ p ≤ r.start ∧ r.start < r.handed ∧ r.handed ≤ text.size ∧ F p = (text.extract p r.start).toList ++ lit ++ F r.handed))
section
variable {prog : Program} {w : World} {A : Around} {R : Result → Shared → Prop}
noncomputable def T7 {P : Addr} {code : Array Nat} {x lit : Str} {tx tl : Tok} {F : Nat → List Nat} : Prop := ∀ (spec : SpecF code x.cps lit.cps.toList F) (hsz : x.cps.size ≤ 1000) (hF : (F 0).length ≤ 2000) (l : Addr), ∀ (k p : Nat) (c : Int) (s : Shared) (acc : Array Value) (n : Nat) (done : List (Str × Tok)), x.cps.size - p < k → p ≤ x.cps.size →
    (∀ h' : Heap, (∀ b o, b ≠ l → s.heap.get? b = some o → h'.get? b = some o) → PatAt h' P code) →
    s.heap.get? l = some { cls := .type "list", data := .seq acc n } → acc.toList = strValues done → done.length ≤ 2 * p →
    done.flatMap (fun q => q.1.cps.toList) ++ F p = F 0 → 
    (∀ h' u tk, (∀ b o, b ≠ l → s.heap.get? b = some o → h'.get? b = some o) → R (.ok (.ret (.str ⟨(F 0).toArray⟩ u))) { s with heap := h', toks := tk }) →
    codeAny (model prog w) A (.builtin "re.Pattern.sub.loop" ⟨[.ref P, .str x tx, .str lit tl, rawInt 0, rawInt 0, rawInt c, rawInt p, rawInt p, .bool false, .ref l, .bool false], []⟩) R s
end
section
variable {prog : Program} {w : World} {A : Around} {E : Value → Shared → Prop} {s : Shared} {h₀ : Heap} {L : Addr} {m : Str → Option Value} {news : Led}
noncomputable def T8 {P : Addr} {code : Array Nat} {x lit : Str} {tx tl : Tok} {F : Nat → List Nat} {Q : Value → Shared → Prop} : Prop := ∀ (fr : Fr h₀ L s.heap m) (nw : News h₀ L s.heap news) (hP : ∀ h' : Heap, (∀ b o, s.heap.get? b = some o → h'.get? b = some o) → PatAt h' P code) (hT : s.TypeIs (.ref P) "re.Pattern") (spec : SpecF code x.cps lit.cps.toList F) (hsz : x.cps.size ≤ 1000) (hF : (F 0).length ≤ 2000) (hlit : lit.cps.contains 92 = false) (ret : ∀ t h' tk', Fr h₀ L h' m → News h₀ L h' news → Q (.str ⟨(F 0).toArray⟩ t) { s with heap := h', toks := tk' }), wpAny (model prog w) A (call (.builtin "re.Pattern.sub") [.ref P, .str lit tl, .str x tx]) Q E s
end
end
section -- S2
open PySem PySem.W PyProof.Rows
noncomputable def n2 : Bool → List Nat → List Nat
  | _, [] => []
  | b, c :: r => if c = 10 then (if b then n2 false r else 13 :: 10 :: n2 false r) else if c = 13 then 13 :: 10 :: n2 true r else c :: n2 false r
noncomputable def dt : Bool → List Nat → List Nat
  | _, [] => []
  | b, c :: r => if b = true ∧ c = 46 then 46 :: 46 :: dt false r else c :: dt (c == 10) r
noncomputable def F2 (text : Array Nat) (p : Nat) : List Nat := n2 false (text.toList.drop p)
noncomputable def F1 (text : Array Nat) (p : Nat) : List Nat := dt (decide (p = 0 ∨ text[p - 1]?.getD 0 = 10)) (text.toList.drop p)
noncomputable def qd (l : List Nat) : List Nat := dt true (n2 false l)
end
section -- R0
open PySem PySem.W PyProof.Rows
section
variable {M : Model} {A : Around} {E : Value → Shared → Prop} {s : Shared} {base : Heap} {env : Env} {outer l : List Env} {L e : Addr} {oe : Obj} {vs : Array Value} {Q : Unit → Shared → Prop}
inductive Trail (h base : Heap) (e : Addr) (oe : Obj) (fl : Value) : Prop
  | mk : ∀ vs T oT ts, h.get? e = some { oe with data := .fields vs } → vs[1]? = some (.ref T) → base.get? T = none → T ≠ e → h.get? T = some oT → oT.data = .fields ts → ts[3]? = some fl → Trail h base e oe fl
noncomputable def FlyX (base : Heap) (l : List Env) (e : Addr) (oe : Obj) (h : Heap) : Prop := base.StaysIn h ∧ base.get? e = none ∧ h.FunFrames base l ∧ Trail h base e oe .none
inductive RaisedX (base G : Heap) (l : List Env) (e : Addr) (oe : Obj) (news : Led) (h : Heap) : Prop
  | mk : ∀ B, base.StaysIn B → (∀ b o, G.get? b = some o → b ∉ l.filterMap (·.frame) → B.get? b = some o) → (∀ q ∈ news, B.get? q.1 = some q.2 ∧ G.get? q.1 = none ∧ base.get? q.1 = none) → FlyX B l e oe h → RaisedX base G l e oe news h
end
end
section -- R1
open PySem PySem.W PyProof.Rows
section
open Builtin
noncomputable def osIn (K : Frag) (C : Addr) : Bool := match K.lookup C with
  | some ⟨_, _, .cls cd, sl⟩ => !cd.hasDel && (sl.toList[4]?).join == some (.builtin "OSError.__new__") && !cd.mro.isEmpty && cd.mro.contains (.ref C) && cd.mro.contains (.type "OSError") && cd.mro.contains (.type "BaseException") &&
      specialIn K (.ref C) "__call__" == some (some (.builtin "type.__call__")) && instIn K (.ref C) (.type "type") == some true && typeIn K (.ref C) == some (.type "type")
  | _ => false
structure OsMakes (M : Model) (h : Heap) (C : Addr) : Prop where
  obj : ∃ oc od cd sl, h.get? C = some ⟨oc, od, .cls cd, sl⟩ ∧ cd.hasDel = false ∧ cd.mro.isEmpty = false
  made : Looks M h (Bind.madeBy (.ref C)) (some "OSError.__new__")
  base : Looks M h (Bind.staticBase (.ref C)) (.ref C)
  self : Looks M h (isSubtype (.ref C) (.ref C)) true
  top : Looks M h (isSubtype (.ref C) (.type "OSError")) true
  exc : Looks M h (isSubtype (.ref C) (.type "BaseException")) true
  call : Looks M h (specialOf (.ref C) "__call__") (some (.builtin "type.__call__"))
  typ : Looks M h (isInstance (.ref C) (.type "type")) true
  mt : Looks M h (typeOf (.ref C)) (.type "type")
noncomputable def T9 {K : Frag} {M : Model} {h : Heap} {C : Addr} : Prop := ∀ (X : K.In h) (e : osIn K C = true), OsMakes M h C
noncomputable abbrev excObj (C t : Addr) : Obj := { cls := .ref C, data := .fields #[.ref t, .none, .none, .none, .bool false, .none, rawInt 0, rawInt 0, rawInt 0, rawInt 0, rawInt (-1)] }
noncomputable abbrev nilTup : Obj := { cls := .type "tuple", data := .seq #[] }
section
variable {prog : Program} {w : World} {A : Around} {C : Addr} {R : Result → Shared → Prop} {h : Heap} {g : Array GenState} {d : Drawn} {t : Nat} {os : OsState}
noncomputable def T10 {rest : List Value} {f : Addr} : Prop := ∀ (Y : OsMakes (model prog w) h C) (hi : Looks (model prog w) h (typeLookup (.ref C) "__init__") (some (.ref f))) (hq : R (.ok (.ret (.ref (h.objs.size + 1)))) ⟨(h.push nilTup).push (excObj C h.objs.size), g, d, t, os⟩), codeAny (model prog w) A (.call (.builtin "OSError.__new__") ⟨.ref C :: rest, []⟩) R ⟨h, g, d, t, os⟩
noncomputable def T11 {rest : List Value} {f : Addr} : Prop := ∀ (Y : OsMakes (model prog w) h C) (hi : Looks (model prog w) h (typeLookup (.ref C) "__init__") (some (.ref f))) (hb : ∀ self, Looks (model prog w) h (bindSpecial (.ref f) self) (.ref f, [self])) (hq : codeAny (model prog w) (A.under (.builtin "type.__call__" ⟨.ref C :: rest, []⟩)) (.call (.ref f) ⟨.ref (h.objs.size + 1) :: rest, []⟩) (InitBack (h.objs.size + 1) R) ⟨(h.push nilTup).push (excObj C h.objs.size), g, d, t, os⟩), codeAny (model prog w) A (.call (.ref C) ⟨rest, []⟩) R ⟨h, g, d, t, os⟩
end
end
end
section -- R2
open PySem PySem.W PyProof.Rows
section
open Builtin Builtin.ObjectAttr Builtin.Getset_descriptor
noncomputable def tailOs : List Value → Bool
  | .ref _ :: r => tailOs r
  | l => l == [.type "OSError", .type "Exception", .type "BaseException", .type "object"]
noncomputable def exOver (K : Frag) (C : Addr) : Bool := (clsIn K C).any fun cd => tailOs cd.mro
variable {prog : Program} {w : World} {A : Around} {K : Frag} {C x : Addr} {s : Shared} {h₀ : Heap} {L : Addr} {m : Str → Option Value} {news : Led} {R : Result → Shared → Prop} {E : Value → Shared → Prop}
noncomputable def T12 {ox : Obj} {od : Option Obj} {name : Str} {tk : Tok} {v : Value} {r : Option Value} : Prop := ∀ (X : K.In s.heap) (I : InstAt s.heap x ox C od) (hp : exOver K C = true) (ht : takerIn K C name = some r) (h : ∀ b, wpAny (model prog w) A.in1 (match r with | some a => setByDescriptor a (.ref x) v | none => storeInOwnDict (.ref x) (.ref C) (.str name tk) name v b)
      (fun fin s' => match fin with | .done f => R (.ok f) s' | .again c' => c'.quiet = true ∧ codeAny (model prog w) A c' R s') (fun e s' => R (.error e) s') s), codeAny (model prog w) A (.call (.builtin "object.__setattr__") ⟨[.ref x, .str name tk, v], []⟩) R s
noncomputable def T13 {D : Addr} {pre post : Led} {es : List DictEntry} {n : Nat} {name : Str} {tk0 : Tok} {v : Value} {Q : Fin → Shared → Prop} : Prop := ∀ (F : Fr h₀ L s.heap m) (N : News h₀ L s.heap (pre ++ (D, dictOf es n) :: post)) (h1 : ∀ p ∈ pre, p.1 ≠ D) (h2 : ∀ p ∈ post, p.1 ≠ D) (hl : (getL name es).isSome = true) (hz : es.length < 900) (h : ∀ h' tk hsh, Fr h₀ L h' m → News h₀ L h' (pre ++ (D, dictOf (putL name hsh (.str name tk) v es) (putN name es n)) :: post) → Q (.done (.ret .none)) { s with heap := h', toks := s.toks + 1 }), wpAny (model prog w) A (storeInDict D (.str name tk0) name v) Q E s
noncomputable def T14 {sl : Array (Option Value)} {vs : Array Value} {name : Str} {v : Value} {g : Obj → Led} {Q : Unit → Shared → Prop} : Prop := ∀ (F : Fr h₀ L s.heap m) (X₀ : K.In h₀) (N : News h₀ L s.heap news) (U : UpdF x ⟨.ref C, none, .fields vs, sl⟩ news g) (hs : findIn K (.ref C) "__setattr__" = some (some (.builtin "object.__setattr__"))) (hp : exOver K C = true) (ht : takerIn K C name = some none) (hh : hasDictIn K C = true) (h : ∀ D h' tk hsh, Fr h₀ L h' m → News h₀ L h' ((D, dictOf [⟨hsh, .str name tk, v⟩] 1) :: g ⟨.ref C, some D, .fields vs, sl⟩) → (∀ p ∈ g ⟨.ref C, some D, .fields vs, sl⟩, p.1 < D) → Q () { s with heap := h', toks := s.toks + 2 }), wpAny (model prog w) A (setAttr (.ref x) name v) Q E s
noncomputable def T15 {ox : Obj} {D : Addr} {es : List DictEntry} {n : Nat} {name : Str} {v : Value} {g : Obj → Led} {Q : Unit → Shared → Prop} : Prop := ∀ (F : Fr h₀ L s.heap m) (X₀ : K.In h₀) (N : News h₀ L s.heap news) (hm : (x, ox) ∈ news) (hc : ox.cls = .ref C) (hdd : ox.dict = some D) (hn : notCls ox = true) (U : UpdF D (dictOf es n) news g) (hs : findIn K (.ref C) "__setattr__" = some (some (.builtin "object.__setattr__"))) (hp : exOver K C = true) (ht : takerIn K C name = some none) (hh : hasDictIn K C = true) (hl : (getL name es).isSome = true) (hz : es.length < 900) (h : ∀ h' tk hsh, Fr h₀ L h' m → News h₀ L h' (g (dictOf (putL name hsh (.str name tk) v es) (putN name es n))) → Q () { s with heap := h', toks := s.toks + 2 }), wpAny (model prog w) A (setAttr (.ref x) name v) Q E s
noncomputable def T16 {vs : Array Value} {sl : Array (Option Value)} {D T : Addr} {od : Obj} {items : Array Value} {g : Obj → Led} {Q : Unit → Shared → Prop} {t0 : Addr} : Prop := ∀ (F : Fr h₀ L s.heap m) (X₀ : K.In h₀) (N : News h₀ L s.heap news) (U : UpdF x ⟨.ref C, some D, .fields vs, sl⟩ news g) (hm : (D, od) ∈ news) (h0 : vs[0]? = some (.ref t0)) (hT : s.heap.IsTuple T items) (hs : findIn K (.ref C) "__setattr__" = some (some (.builtin "object.__setattr__"))) (hp : exOver K C = true) (ht : takerIn K C "args" = some (some (.builtin "BaseException.args"))) (hb : mroIn K C (.type "BaseException") = some true) (h : ∀ h', Fr h₀ L h' m → News h₀ L h' (g ⟨.ref C, some D, .fields (vs.setIfInBounds 0 (.ref T)), sl⟩) → Q () { s with heap := h', toks := s.toks + 1 }), wpAny (model prog w) A (setAttr (.ref x) "args" (.ref T)) Q E s
end
end
section -- R3
open PySem PySem.W PyProof.Rows
inductive RaiseOwn (M : Model) (E : Value → Shared → Prop) (v : Value) (s₁ : Shared) : Prop
  | mk : ∀ a ob vs C, v = .ref a → s₁.heap.get? a = some ob → ob.cls = .ref C → ob.data = .fields vs → vs[1]? = some .none → OsMakes M s₁.heap C → E (.ref a) s₁ → RaiseOwn M E v s₁
noncomputable def RefIs (ab : Addr) (p : Int) (C : Addr) (es : List DictEntry) : Prop :=
  (Int.fmod p 3 = 0 ∧ C = 195 ∧ getL (Str.ofString "recipients") es = some (some (.ref ab))) ∨
  (Int.fmod p 3 = 1 ∧ C = 176 ∧ (∃ t, getL (Str.ofString "smtp_code") es = some (some (.int (550 + p) t))) ∧ (∃ t, getL (Str.ofString "smtp_error") es = some (some (.str (Txt.item (Str.ofString "abcdef") p) t))) ∧ getL (Str.ofString "sender") es = some (some (.ref ab))) ∨
  (Int.fmod p 3 = 2 ∧ C = 207 ∧ (∃ t, getL (Str.ofString "smtp_code") es = some (some (.int (550 + p) t))) ∧ ∃ t, getL (Str.ofString "smtp_error") es = some (some (.str (Txt.item (Str.ofString "abcdef") p) t)))
end
section -- M0
noncomputable def orbF (tns : List Int) (s0 : Int) : Nat → Int
  | 0 => s0
  | n + 1 => Int.fmod (tns.getD (orbF tns s0 n).toNat 0) 7
noncomputable def orb (tns : List Int) (s0 : Int) (n : Nat) : List Int := (List.range n).map (orbF tns s0)
noncomputable def Alv (tns : List Int) (s0 : Int) (n : Nat) : Prop := ∀ j ≤ n, 0 ≤ orbF tns s0 j ∧ orbF tns s0 j < 6
structure Ring (tns : List Int) (s0 : Int) (t r : Nat) : Prop where
  r1 : 1 ≤ r
  tr : t + r ≤ 6
  back : orbF tns s0 (t + r) = orbF tns s0 t
  inj : ∀ i j, i < j → j < t + r → orbF tns s0 i ≠ orbF tns s0 j
section
variable {tns : List Int} {s0 : Int} {t r : Nat}
noncomputable def idx (t r n : Nat) : Nat := if n < t then n else t + (n - t) % r
end
noncomputable def Shape (t r : Nat) : Prop := 1 ≤ r ∧ t + r ≤ 6
end
open PySem PySem.W PyProof.Rows
variable {w : World} {mean : ExcName → Option Value} {mg mb : Str → Option Value} {dp un : Nat} {gd : Option (List Code)} {L : Addr} {outer : List Env} {A₀ : Around} {base h₀ : Heap} {m : Str → Option Value} {s : Shared} {E : Value → Shared → Prop} {news : Led} {Q : Flow → Shared → Prop}
section -- D2
noncomputable def SL (x : Str) (n : Nat) : Prop := x.length ≤ n
noncomputable def mailT (b : Bool) (n0 n1 : Int) (e0 e1 : Str) : Str :=
  cond b (Txt.item (Str.ofString "TH") 0 ++ Txt.mul (Str.ofString ".") n0 ++ e0 ++ (Txt.mul (Str.ofString ".") n1 ++ Txt.item (Str.ofString "TH") 1) ++ e1)
    (Txt.mul (Str.ofString ".") n0 ++ Txt.item (Str.ofString "TH") 0 ++ e0 ++ (Txt.item (Str.ofString "TH") 1 ++ Txt.mul (Str.ofString ".") n1) ++ e1)
noncomputable def crlf : Str := Str.ofString "\r\n"
noncomputable def dueT (b : Bool) (n0 n1 : Int) : Str := mailT b (n0 + cond b 0 1) (n1 + cond b 1 0) (Str.ofString "\r\n") (Str.ofString "\r\n") ++ Str.ofString "\r\n..\r\n"
noncomputable def L0 : List Nat := [84]
noncomputable def L1 : List Nat := [72]
noncomputable def End3 (e : Str) : Prop := e = Str.ofString "\n" ∨ e = Str.ofString "\r" ∨ e = Str.ofString "\r\n"
end
section -- E0
section
open PySem.SeqAt PySem.MeetsSeq PySem.MeetsSeq2 PySem.MeetsSeq3 PySem.SeqRoads2
open PySem.AutoSeq1 (wpAny_loadPart')
noncomputable def EqP (prog : Program) (w : World) (A : Around) (s : Shared) (y x : Value) : Prop := ∀ (E : Value → Shared → Prop) (Q : Bool → Shared → Prop), Q true s → wpAny (model prog w) A (eqBool y x) Q E s
variable {prog : Program} {w : World} {A : Around} {s : Shared}
noncomputable def T17 {l b : Addr} {xs ys : Array Value} {n n2 : Nat} {R : Result → Shared → Prop} : Prop := ∀ (hsz : xs.size = ys.size) (k : Nat), ∀ (i : Nat) (s : Shared), xs.size - i = k →
    s.heap.get? l = some { cls := .type "list", data := .seq xs n } → s.heap.get? b = some { cls := .type "list", data := .seq ys n2 } →
    (∀ j (h1 : j < xs.size) (h2 : j < ys.size), EqP prog w A.in1 s xs[j] ys[j]) → R (.ok (.ret (.bool false))) s →
    codeAny (model prog w) A (.builtin "list.__eq__.loop" ⟨[.ref l, .ref b, rawInt i, rawInt 3], []⟩) R s
noncomputable def T18 {l b : Addr} {xs ys : Array Value} {E Q : Value → Shared → Prop} : Prop := ∀ (hl : s.heap.IsList l xs) (hb : s.heap.IsList b ys) (hd : ∀ o, s.heap.get? l = some o → o.dict = none ∧ o.slots = #[]) (hd2 : ∀ o, s.heap.get? b = some o → o.dict = none ∧ o.slots = #[]) (hsz : xs.size = ys.size) (hu : A.units < cLine) (he : ∀ j (h1 : j < xs.size) (h2 : j < ys.size), EqP prog w A.in1 s xs[j] ys[j]) (h : Q (.bool false) s), wpAny (model prog w) A (compareOp .NotEq (.ref l) (.ref b)) Q E s
noncomputable def T19 {l b : Addr} {xs ys : Array Value} {E Q : Value → Shared → Prop} : Prop := ∀ (hl : s.heap.IsTuple l xs) (hb : s.heap.IsTuple b ys) (hsz : xs.size = ys.size) (hu : A.units < cLine) (he : ∀ j (h1 : j < xs.size) (h2 : j < ys.size), EqP prog w A.in1 s xs[j] ys[j]) (h : Q (.bool true) s), wpAny (model prog w) A (compareOp .Eq (.ref l) (.ref b)) Q E s
end
end
section -- E1
section
open PySem.StrLaws PySem.Builtin PySem.Builtin.Str
noncomputable def joinL : List Nat → List (List Nat) → List Nat
  | p, [] => p
  | p, q :: ps => p ++ 13 :: 10 :: joinL q ps
end
noncomputable def row0 (b : Bool) (n : Int) : List Nat := cond b ([84] ++ List.replicate n.toNat 46) (List.replicate n.toNat 46 ++ [84])
noncomputable def row1 (b : Bool) (n : Int) : List Nat := cond b (List.replicate n.toNat 46 ++ [72]) ([72] ++ List.replicate n.toNat 46)
section
variable {prog : Program} {w : World} {A : Around} {E : Value → Shared → Prop} {s : Shared} {h₀ : Heap} {L : Addr} {m : Str → Option Value} {news : Led} {Q : Value → Shared → Prop}
noncomputable def T20 {b : Bool} {d0 d1 : Int} {t u : Tok} : Prop := ∀ (F : Fr h₀ L s.heap m) (N : News h₀ L s.heap news) (h0 : 0 ≤ d0 ∧ d0 < 100) (h1 : 0 ≤ d1 ∧ d1 < 100) (h : ∀ D h' k x0 x1 x2 x3 x4 t0 t1 t2 t3 t4, (x0.length : Int) = d0 + cond b 0 1 + 1 → (x1.length : Int) = d1 + cond b 1 0 + 1 → Fr h₀ L h' m →
      News h₀ L h' ((D, W.listOf #[.str x0 t0, .str x1 t1, .str x2 t2, .str x3 t3, .str x4 t4] 0) :: news) → (∀ p ∈ news, p.1 < D) → Q (.ref D) { s with heap := h', toks := k }), wpAny (model prog w) A (call (.builtin "str.split") [.str (dueT b d0 d1) t, .str (Str.ofString "\r\n") u]) Q E s
end
end
section -- K0
section
open PySem.Calls
variable {prog : Program} {w : World} {A : Around} {E : Value → Shared → Prop} {s : Shared}
noncomputable def T21 {d a : Addr} {kvs : List (Str × Value)} {Q : Unit → Shared → Prop} : Prop := ∀ {knd : KeyKind prog w Str} (hne : a ≠ d) (la : (a == sysModules) = false) (hd : s.heap.DictOf knd d []) (ha : s.heap.DictOf knd a kvs) (hsz : kvs.length ≤ 1000) (hnr : ∀ k v, knd.is k v = true → ∀ b, v ≠ .ref b) (hQ : ∀ h', h'.DictOf knd d kvs → Heap.SameBut d s.heap h' → Q () { s with heap := h' }), wpAny (model prog w) A (mergeMapping d (.ref a) true) Q E s
noncomputable def T22 {f : Value} {d : Addr} {kvs : List (Str × Value)} {Q : List (Str × Value) → Shared → Prop} : Prop := ∀ (hd : s.heap.DictOf (PySem.strKind prog w) d kvs) (hq : Q kvs s), wpAny (model prog w) A (keywordsIn f d) Q E s
noncomputable def T23 {f v : Value} {e e2 : PySem.Expr} {env : Env} {pos p2 : Pos} {h₀ : Heap} {L a : Addr} {m : Str → Option Value} {news : Led} {o : Obj} {kvs : List (Str × Value)} {Q : Args → Shared → Prop} : Prop := ∀ (F : Fr h₀ L s.heap m) (N : News h₀ L s.heap news) (hm : (a, o) ∈ news) (hd : o.IsDictOf (PySem.strKind prog w) kvs) (la : (a == sysModules) = false) (hsz : kvs.length ≤ 1000) (h1 : ∀ (Q' : Value → Shared → Prop) (s' : Shared), Fr h₀ L s'.heap m → Q' v s' → wpAny (model prog w) A (eval e env) Q' E s') (h2 : ∀ (Q' : Value → Shared → Prop) (s' : Shared), Fr h₀ L s'.heap m → Q' (.ref a) s' → wpAny (model prog w) A (eval e2 env) Q' E s') (ret : ∀ h', Fr h₀ L h' m → News h₀ L h' news → Q ⟨[v], kvs⟩ { s with heap := h' }) (he : starEach [e] env = [(false, eval e env)]), wpAny (model prog w) A (evalArgs f true (backTo pos (starEach [e] env)) (backToKw pos (keywordEach [⟨none, e2, p2⟩] env))) Q E s
noncomputable def T24 {K : Frag} {f v : Value} {e e2 : PySem.Expr} {env : Env} {pos p2 : Pos} {h₀ : Heap} {L a : Addr} {m : Str → Option Value} {news : Led} {o : Obj} {kvs : List (Str × Value)} {Q : Value → Shared → Prop} : Prop := ∀ (X : K.In h₀) (hk : keepIn K f = true) (F : Fr h₀ L s.heap m) (N : News h₀ L s.heap news) (hm : (a, o) ∈ news) (hd : o.IsDictOf (PySem.strKind prog w) kvs) (la : (a == sysModules) = false) (hsz : kvs.length ≤ 1000) (h1 : ∀ (Q' : Value → Shared → Prop) (s' : Shared), Fr h₀ L s'.heap m → Q' v s' → wpAny (model prog w) A (eval e env) Q' E s') (h2 : ∀ (Q' : Value → Shared → Prop) (s' : Shared), Fr h₀ L s'.heap m → Q' (.ref a) s' → wpAny (model prog w) A (eval e2 env) Q' E s') (ret : ∀ h', Fr h₀ L h' m → News h₀ L h' news → wpAny (model prog w) A (call f [v] kvs) Q E { s with heap := h' }) (he : starEach [e] env = [(false, eval e env)]), wpAny (model prog w) A (callWith pos f [] (backTo pos (starEach [e] env)) (backToKw pos (keywordEach [⟨none, e2, p2⟩] env))) Q E s
end
end
section -- L0
section
open PySem.Calls PyProof.V PySem.Spec
noncomputable def StepTo (h₀ : Heap) (L : Addr) (s : Shared) (keep : Led) (J : Nat → (Str → Option Value) → Led → Prop) (i : Nat) : Flow → Shared → Prop := fun f s₃ =>
  f = .next ∧ ∃ h' tk m₂ news₂, s₃ = { s with heap := h', toks := tk } ∧ Fr h₀ L h' m₂ ∧ News h₀ L h' (keep ++ news₂) ∧ (∀ p ∈ news₂, ∀ q ∈ keep.head?, p.1 ≠ q.1) ∧ J (i + 1) m₂ news₂
variable {prog : Program} {w : World} {A : Around} {E : Value → Shared → Prop} {s : Shared} {env : Env} {h₀ : Heap} {body : List Stmt} {Q : Flow → Shared → Prop}
noncomputable def T25 {iter : PySem.Expr} {kn vn : Str} {pt pk pv pos : Pos} {kk : Nat} {d : Addr} {od : Obj} {kvs : List (Str × Value)} {m : Str → Option Value} {news : Led} : Prop := ∀ (hh : A.handled = none) (F : Fr h₀ env.locals s.heap m) (N : News h₀ env.locals s.heap news) (hmem : (d, od) ∈ news) (hd : od.IsDictOf (PySem.strKind prog w) kvs) (hit : ∀ Q' : Value → Shared → Prop, (∀ h' vw, (∃ ov, h'.get? vw = some ov ∧ ov.cls = .type "dict_items" ∧ ov.data = .fields #[.ref d]) → Fr h₀ env.locals h' m → News h₀ env.locals h' news → Q' (.ref vw) { s with heap := h' }) → wpAny (model prog w) A (eval iter env) Q' E s) (hk : env.kindOf kn = some .local) (hv : env.kindOf vn = some .local) (hp : (env.scope.kind == .class || (env.scope.kind == .module && env.locals != env.globals)) = false) (hE : PassesOwn (model prog w) A env E) (hs : ∀ x, foldedSetIterable iter env x = pure x) (J : Nat → (Str → Option Value) → Led → Prop) (h0 : J 0 m news) (step : ∀ i k v t m₁ news₁ h₁ tk₁ I oI od', kvs[i]? = some (k, v) → J i m₁ news₁ → (∀ p ∈ news₁, p.1 ≠ I) → I ≠ d →
      Fr h₀ env.locals h₁ (fun y => if y = vn then some v else if y = kn then some (.str k t) else m₁ y) → News h₀ env.locals h₁ ((I, oI) :: (d, od') :: news₁) →
      wpAny (model prog w) A (execs body env) (StepTo h₀ env.locals s [(I, oI), (d, od')] J i) E { s with heap := h₁, toks := tk₁ }) (fin : ∀ h' tk m' news', Fr h₀ env.locals h' m' → News h₀ env.locals h' news' → J kvs.length m' news' → Q .next { s with heap := h', toks := tk }), wpAny (model prog w) A (exec (.For (.Tuple [.Name kn pk, .Name vn pv] kk pt) iter body [] pos) env) Q E s
end
end
section -- G2
section
variable {Q : Value → Shared → Prop} {cn : Str} {cs : Scope} {a : Addr} {ccd : Value} {cl : List (Str × Addr)}

open PySem.Calls PyProof.V
inductive J1 (dn : Addr) (ckv : List (Str × Value)) (news : Led) (w : World) (acl : Addr) (i : Nat) (m : Str → Option Value) (n : Led) : Prop
  | mk : ∀ o, n = (dn, o) :: news → o.IsDictOf (PySem.strKind PG w) (ckv.take i) → m (Str.ofString "new_callers") = some (.ref dn) → m (Str.ofString "source") = some (.ref acl) → J1 dn ckv news w acl i m n
inductive J2 (dn : Addr) (ckv : List (Str × Value)) (cc : List (Str × Int)) (k : Str) (news : Led) (w : World) (i : Nat) (m : Str → Option Value) (n : Led) : Prop
  | mk : ∀ o kv, n = (dn, o) :: news → o.IsDictOf (PySem.strKind PG w) kv → m (Str.ofString "new_callers") = some (.ref dn) → (i = 0 → kv = ckv) → (i = 1 → CallersAre kv (bump cc k)) → J2 dn ckv cc k news w i m n
noncomputable def T26 {ac acl : Addr} {oc ocl : Obj} {ckv : List (Str × Value)} {cc : List (Str × Int)} {k : Str} {tk0 : Tok} : Prop := ∀ (B : Below A₀ base outer h₀) (F : Fr h₀ L s.heap m) (X : (h0.heap_1 w.params).In h₀) (N : News h₀ L s.heap news) (T : TopX mean mg mb h₀) (hk : cs.kind = .function) (m3 : (ac, oc) ∈ news) (hc : oc.IsDictOf (strKind PG w) ckv) (lc : (ac == sysModules) = false) (hcc : CallersAre ckv cc) (zc : cc.length ≤ 2) (nc : (cc.map (·.1)).Nodup) (m4 : (acl, ocl) ∈ news) (hcl : ocl.IsDictOf (strKind PG w) [(k, .int 1 tk0)]) (lcl : (acl == sysModules) = false) (hdp : dp + 8 < recursionLimit) (hun : un + 80 < cLine) (ret : ∀ dn on nkv h' tk', Fr h₀ L h' m → News h₀ L h' ((dn, on) :: news) → on.IsDictOf (strKind PG w) nkv → CallersAre nkv (bump cc k) → (dn == sysModules) = false → AllLt dn news → Q (.ref dn) { s with heap := h', toks := tk' }), wpAny (model PG w) (ktrTop dp un gd cn cs L a ccd cl outer) (call (.ref 110) [.ref ac, .ref acl]) Q E s
end
end
section -- G1
section
variable {Q : Value → Shared → Prop} {cn : Str} {cs : Scope} {a : Addr} {ccd : Value} {cl : List (Str × Addr)}

noncomputable def T27 {ae ac acl asr : Addr} {oc ocl : Obj} {c1 c2 x1 x2 y1 y2 : Int} {tc1 tc2 tx1 tx2 tk1 tk2 ty1 ty2 : Tok} {ne ns : Nat} {ckv : List (Str × Value)} {cc : List (Str × Int)} {k : Str} {tk : Tok} : Prop := ∀ (B : Below A₀ base outer h₀) (F : Fr h₀ L s.heap m) (X : (h0.heap_1 w.params).In h₀) (N : News h₀ L s.heap news) (T : TopX mean mg mb h₀) (hk : cs.kind = .function) (m2 : (ae, ({ cls := .type "tuple", data := .seq #[.int c1 tc1, .int c2 tc2, .int x1 tx1, .int x2 tx2, .ref ac] ne} : Obj)) ∈ news) (m5 : (asr, ({ cls := .type "tuple", data := .seq #[.int 1 tk1, .int 1 tk2, .int y1 ty1, .int y2 ty2, .ref acl] ns} : Obj)) ∈ news) (m3 : (ac, oc) ∈ news) (hc : oc.IsDictOf (strKind PG w) ckv) (lc : (ac == sysModules) = false) (hcc : CallersAre ckv cc) (zc : cc.length ≤ 2) (nc : (cc.map (·.1)).Nodup) (m4 : (acl, ocl) ∈ news) (hcl : ocl.IsDictOf (strKind PG w) [(k, .int 1 tk)]) (lcl : (acl == sysModules) = false) (hdp : dp + 10 < recursionLimit) (hun : un + 100 < cLine) (ret : ∀ d dn on t1 t2 t3 t4 nkv h' tk', Fr h₀ L h' m → News h₀ L h' ((d, { cls := .type "tuple", data := .seq #[.int (1 + c1) t1, .int (1 + c2) t2, .int (y1 + x1) t3, .int (y2 + x2) t4, .ref dn] }) :: (dn, on) :: news) →
      on.IsDictOf (strKind PG w) nkv → CallersAre nkv (bump cc k) → (dn == sysModules) = false → AllLt dn news → dn < d → Q (.ref d) { s with heap := h', toks := tk' }), wpAny (model PG w) (ktrTop dp un gd cn cs L a ccd cl outer) (call (.ref 103) [.ref ae, .ref asr]) Q E s
end
end
section -- B0
section

noncomputable def T28 {b : Bool} {aw aat ad ab aas : Addr} {ow ocw ocd : Obj} {v0 : Option Value} {p0 p1 : Int} {tp0 tp1 t0 : Tok} {na : Nat} {gv : Value} {rest : Led} : Prop := ∀ (F : Fr h₀ L s.heap m) (X : (h0.heap_1 w.params).In h₀) (N : News h₀ L s.heap ((L + 1 + 1, ocd) :: rest)) (T : TopX mean mg mb h₀) (v1 : m (Str.ofString "walk") = some (.ref aw)) (hr : ∀ q ∈ rest, q.1 ≠ L + 1 + 1) (hcd : ocd.data = .cell v0) (mw : (L + 1, ocw) ∈ rest) (hcw : ocw.data = .cell (some (.int (cond b 1 0) t0))) (mwalk : (aw, ow) ∈ rest) (hw : ow.IsDictOf (strKind PG w) [(Str.ofString "at", .ref aat), (Str.ofString "dots", .ref ad), (Str.ofString "book", .ref ab), (Str.ofString "asked", .ref aas), (Str.ofString "good", gv)]) (mat : (aat, W.listOf #[.int p0 tp0, .int p1 tp1] na) ∈ rest) (ret : ∀ h' tk' o', Fr h₀ L h' (fun y => if y = Str.ofString "book" then some (.ref ab) else if y = Str.ofString "place" then some (.int (cond b p1 p0) (cond b tp1 tp0)) else m y) → News h₀ L h' ((L + 1 + 1, o') :: rest) → o'.data = .cell (some (.ref ad)) →
      Q .next { s with heap := h', toks := tk' }), wpAny (model PG w) (arH dp un gd L outer) (exec (hopB.getD 0 default) (envH L)) Q E s
end
end
section -- B2
section

noncomputable def T29 {b : Bool} {ab ae : Addr} {ob ocw : Obj} {p : Int} {tp t0 : Tok} {bkv : List (Int × Value)} : Prop := ∀ (F : Fr h₀ L s.heap m) (X : (h0.heap_1 w.params).In h₀) (N : News h₀ L s.heap news) (T : TopX mean mg mb h₀) (v1 : m (Str.ofString "book") = some (.ref ab)) (v2 : m (Str.ofString "place") = some (.int p tp)) (mb' : (ab, ob) ∈ news) (hb : ob.IsDictOf (intKind PG w) bkv) (hbp : PySem.valueAt bkv p = some (.ref ae)) (mw : (L + 1, ocw) ∈ news) (hcw : ocw.data = .cell (some (.int (cond b 1 0) t0))) (ret : ∀ h' tk' acl ocl t, Fr h₀ L h' (fun y => if y = Str.ofString "old" then some (.ref ae) else if y = Str.ofString "calls" then some (.ref acl) else m y) → News h₀ L h' ((acl, ocl) :: news) → ocl.IsDictOf (strKind PG w) [(letter b, .int 1 t)] →
      (acl == sysModules) = false → AllLt acl news → Q .next { s with heap := h', toks := tk' }), wpAny (model PG w) (arH dp un gd L outer) (exec (hopB.getD 2 default) (envH L)) Q E s
end
end
section -- B8
section

noncomputable def T30 {b : Bool} {ae ac acl ak k1 k2 atd : Addr} {oc ocl o1 o2 : Obj} {x : Str} {t1 t2 tx1 tx2 : Tok} {q : Int} {nt ne nk : Nat} {f1 f2 f3 f4 : Value} {ckv lkv : List (Str × Value)} {cc lc : List (Str × Int)} : Prop := ∀ (B : Below A₀ base outer h₀) (F : Fr h₀ L s.heap m) (X : (h0.heap_1 w.params).In h₀) (N : News h₀ L s.heap news) (T : TopX mean mg mb h₀) (hdp : dp + 30 < recursionLimit) (hun : un + 300 < cLine) (v1 : m (Str.ofString "sent") = some (.str x t1)) (v2 : m (Str.ofString "due") = some (.str x t2)) (v3 : m (Str.ofString "told") = some (.ref atd)) (v4 : m (Str.ofString "old") = some (.ref ae)) (v5 : m (Str.ofString "calls") = some (.ref acl)) (v6 : m (Str.ofString "kept") = some (.ref ak)) (mtd : (atd, ({ cls := .type "tuple", data := .seq #[.int q tx1, .int q tx2] nt} : Obj)) ∈ news) (m2 : (ae, ({ cls := .type "tuple", data := .seq #[f1, f2, f3, f4, .ref ac] ne} : Obj)) ∈ news) (m3 : (ac, oc) ∈ news) (hc : oc.IsDictOf (strKind PG w) ckv) (hcc : CallersAre ckv cc) (m4 : (acl, ocl) ∈ news) (hcl : ocl.IsDictOf (strKind PG w) lkv) (hlc : CallersAre lkv lc) (mk : (ak, W.listOf #[.ref k1, .ref k2] nk) ∈ news) (mk1 : (k1, o1) ∈ news) (hk1 : o1.IsDictOf (strKind PG w) ckv) (mk2 : (k2, o2) ∈ news) (hk2 : o2.IsDictOf (strKind PG w) lkv) (n1 : (cc.map (·.1)).Nodup) (n2 : (lc.map (·.1)).Nodup) (e1 : ac ≠ k1) (e2 : acl ≠ k2) (l1 : (ac == sysModules) = false) (l2 : (acl == sysModules) = false) (l3 : (k1 == sysModules) = false) (l4 : (k2 == sysModules) = false) (ret : ∀ h' tk', Fr h₀ L h' m → News h₀ L h' news → Q .next { s with heap := h', toks := tk' }), wpAny (model PG w) (arH dp un gd L outer) (exec (hopB.getD 8 default) (envH L)) Q E s
end
end
section
section -- G0
section
variable {Q : Value → Shared → Prop} {cn : Str} {cs : Scope} {a : Addr} {ccd : Value} {cl : List (Str × Addr)}

noncomputable def T31 {p : Int} {tp : Tok} {atab ab aas : Addr} {tvs : List Value} {tns : List Int} {nt na : Nat} {avs : Array Value} {x : Int} {rest : Led} : Prop := ∀ (B : Below A₀ base outer h₀) (F : Fr h₀ L s.heap m) (X : (h0.heap_1 w.params).In h₀) (N : News h₀ L s.heap ((aas, W.listOf avs na) :: rest)) (T : TopX mean mg mb h₀) (hk : cs.kind = .function) (hr : ∀ q ∈ rest, q.1 ≠ aas) (hmt : (atab, W.listOf tvs.toArray nt) ∈ rest) (ht : IntsAre tvs tns) (hp0 : 0 ≤ p ∧ p < 6) (hx : tns[p.toNat]? = some x) (hlt : Int.fmod x 7 < 6) (hav : avs.size < 100) (hdp : dp + 10 < recursionLimit) (hun : un + 100 < cLine) (ret : ∀ d t na' h' tk', Fr h₀ L h' m → News h₀ L h' ((d, { cls := .type "tuple", data := .seq #[.int (Int.fmod x 7) t, .int (Int.fmod x 7) t] }) :: (aas, W.listOf (avs.push (.int p tp)) na') :: rest) → AllLt d rest → aas < d → Q (.ref d) { s with heap := h', toks := tk' }), wpAny (model PG w) (ktrTop dp un gd cn cs L a ccd cl outer) (call (.ref 61) [.int p tp, .ref 223] [(Str.ofString "table", .ref atab), (Str.ofString "book", .ref ab), (Str.ofString "asked", .ref aas)]) Q E s
end
end
end
section -- R4
section
variable {Q : Value → Shared → Prop} {cn : Str} {cs : Scope} {a : Addr} {ccd : Value} {cl : List (Str × Addr)}

noncomputable def T32 {b : Addr} : Prop := ∀ (B : Below A₀ base outer h₀) (F : Fr h₀ L s.heap m) (X : (h0.heap_1 w.params).In h₀) (N : News h₀ L s.heap news) (T : TopX mean mg mb h₀) (hk : cs.kind = .function) (hdp : dp + 4 < recursionLimit) (hun : un + 40 < cLine) (ret : ∀ e D vs es n h' tk', Fr h₀ L h' m → News h₀ L h' ((e, ⟨.ref 195, some D, .fields vs, #[]⟩) :: (D, dictOf es n) :: news) → getL (Str.ofString "recipients") es = some (some (.ref b)) → vs[1]? = some .none → e < D → (∀ p ∈ news, p.1 < e) → Q (.ref e) { s with heap := h', toks := tk' }), wpAny (model PG w) (ktrTop dp un gd cn cs L a ccd cl outer) (call (.ref 195) [.ref b]) Q E s
noncomputable def T33 {b : Addr} {c : Int} {tc tx : Tok} {xs : Str} : Prop := ∀ (B : Below A₀ base outer h₀) (F : Fr h₀ L s.heap m) (X : (h0.heap_1 w.params).In h₀) (N : News h₀ L s.heap news) (T : TopX mean mg mb h₀) (hk : cs.kind = .function) (hdp : dp + 4 < recursionLimit) (hun : un + 40 < cLine) (ret : ∀ e D vs es n h' tk', Fr h₀ L h' m → News h₀ L h' ((e, ⟨.ref 176, some D, .fields vs, #[]⟩) :: (D, dictOf es n) :: news) → getL (Str.ofString "smtp_code") es = some (some (.int c tc)) → getL (Str.ofString "smtp_error") es = some (some (.str xs tx)) → getL (Str.ofString "sender") es = some (some (.ref b)) → vs[1]? = some .none → e < D → (∀ p ∈ news, p.1 < e) → Q (.ref e) { s with heap := h', toks := tk' }), wpAny (model PG w) (ktrTop dp un gd cn cs L a ccd cl outer) (call (.ref 176) [.int c tc, .str xs tx, .ref b]) Q E s
noncomputable def T34 {c : Int} {tc tx : Tok} {xs : Str} : Prop := ∀ (B : Below A₀ base outer h₀) (F : Fr h₀ L s.heap m) (X : (h0.heap_1 w.params).In h₀) (N : News h₀ L s.heap news) (T : TopX mean mg mb h₀) (hk : cs.kind = .function) (hdp : dp + 4 < recursionLimit) (hun : un + 40 < cLine) (ret : ∀ e D vs es n h' tk', Fr h₀ L h' m → News h₀ L h' ((e, ⟨.ref 207, some D, .fields vs, #[]⟩) :: (D, dictOf es n) :: news) → getL (Str.ofString "smtp_code") es = some (some (.int c tc)) → getL (Str.ofString "smtp_error") es = some (some (.str xs tx)) → vs[1]? = some .none → e < D → (∀ p ∈ news, p.1 < e) → Q (.ref e) { s with heap := h', toks := tk' }), wpAny (model PG w) (ktrTop dp un gd cn cs L a ccd cl outer) (call (.ref 207) [.int c tc, .str xs tx]) Q E s
end
end
section -- B4
section

noncomputable def T35 {b : Bool} {ab ae ac acl aws : Addr} {ob oc ocl : Obj} {p wt : Int} {tp tk : Tok} {bkv : List (Int × Value)} {rest : Led} {nw ne : Nat} {wvs : List Value} {wns : List Int} {c1 c2 x1 x2 : Int} {tc1 tc2 tx1 tx2 : Tok} {ckv : List (Str × Value)} {cc : List (Str × Int)} : Prop := ∀ (B : Below A₀ base outer h₀) (F : Fr h₀ L s.heap m) (X : (h0.heap_1 w.params).In h₀) (N : News h₀ L s.heap ((ab, ob) :: rest)) (T : TopX mean mg mb h₀) (hdp : dp + 20 < recursionLimit) (hun : un + 200 < cLine) (v1 : m (Str.ofString "book") = some (.ref ab)) (v2 : m (Str.ofString "place") = some (.int p tp)) (v3 : m (Str.ofString "old") = some (.ref ae)) (v4 : m (Str.ofString "weights") = some (.ref aws)) (v5 : m (Str.ofString "calls") = some (.ref acl)) (hr : ∀ q ∈ rest, q.1 ≠ ab) (hb : ob.IsDictOf (intKind PG w) bkv) (zb : bkv.length < 100) (m2 : (ae, ({ cls := .type "tuple", data := .seq #[.int c1 tc1, .int c2 tc2, .int x1 tx1, .int x2 tx2, .ref ac] ne} : Obj)) ∈ rest) (m3 : (ac, oc) ∈ rest) (hc : oc.IsDictOf (strKind PG w) ckv) (lc : (ac == sysModules) = false) (hcc : CallersAre ckv cc) (zc : cc.length ≤ 2) (nc : (cc.map (·.1)).Nodup) (m4 : (acl, ocl) ∈ rest) (hcl : ocl.IsDictOf (strKind PG w) [(letter b, .int 1 tk)]) (lcl : (acl == sysModules) = false) (m5 : (aws, W.listOf wvs.toArray nw) ∈ rest) (hwt : IntsAre wvs wns) (hwx : wns[p.toNat]? = some wt) (hp0 : 0 ≤ p ∧ p < 6) (ret : ∀ h' tk' o' d dn on t1 t2 t3 t4 nkv, Fr h₀ L h' m → News h₀ L h' ((d, { cls := .type "tuple", data := .seq #[.int (1 + c1) t1, .int (1 + c2) t2, .int (wt + x1) t3, .int (-wt + x2) t4, .ref dn] }) :: (dn, on) :: (ab, o') :: rest) →
      on.IsDictOf (strKind PG w) nkv → CallersAre nkv (bump cc (letter b)) → (dn == sysModules) = false → ab < dn → AllLt dn rest → dn < d → o'.IsDictOf (intKind PG w) (stored bkv p (.ref d)) → Q .next { s with heap := h', toks := tk' }), wpAny (model PG w) (arH dp un gd L outer) (exec (hopB.getD 4 default) (envH L)) Q E s
end
end
section
section -- G3
section
variable {Q : Value → Shared → Prop} {cn : Str} {cs : Scope} {a : Addr} {ccd : Value} {cl : List (Str × Addr)}

noncomputable def T36 {p : Int} {tp : Tok} {atab ab aas : Addr} {tvs : List Value} {tns : List Int} {nt na : Nat} {avs : Array Value} {x : Int} {rest : Led} : Prop := ∀ (B : Below A₀ base outer h₀) (F : Fr h₀ L s.heap m) (X : (h0.heap_1 w.params).In h₀) (N : News h₀ L s.heap ((aas, W.listOf avs na) :: rest)) (T : TopX mean mg mb h₀) (hk : cs.kind = .function) (hr : ∀ q ∈ rest, q.1 ≠ aas) (hmt : (atab, W.listOf tvs.toArray nt) ∈ rest) (ht : IntsAre tvs tns) (hp0 : 0 ≤ p ∧ p < 6) (hx : tns[p.toNat]? = some x) (hlt : ¬ Int.fmod x 7 < 6) (hav : avs.size < 100) (hdp : dp + 10 < recursionLimit) (hun : un + 100 < cLine) (exc : ∀ e C D es n vs sl na' G h' tk', RefIs ab p C es → Fr h₀ L G m → RaisedX base G (envX cn cs L a ccd cl :: outer) e ⟨.ref C, some D, .fields vs, sl⟩ ((D, dictOf es n) :: (aas, W.listOf (avs.push (.int p tp)) na') :: rest) h' → G.UpToSlots h' → E (.ref e) { s with heap := h', toks := tk' }), wpAny (model PG w) (ktrTop dp un gd cn cs L a ccd cl outer) (call (.ref 61) [.int p tp, .ref 223] [(Str.ofString "table", .ref atab), (Str.ofString "book", .ref ab), (Str.ofString "asked", .ref aas)]) Q E s
end
end
section -- W0
noncomputable def Stop (p : Prop) : Prop := p
noncomputable def CC (cc : List (Str × Int)) (nt nh : Nat) : Prop :=
  (nt = 0 ∧ nh = 0 ∧ cc = []) ∨ (0 < nt ∧ nh = 0 ∧ cc = [(letter false, (nt : Int))]) ∨ (nt = 0 ∧ 0 < nh ∧ cc = [(letter true, (nh : Int))]) ∨
  (0 < nt ∧ 0 < nh ∧ (cc = [(letter false, (nt : Int)), (letter true, (nh : Int))] ∨ cc = [(letter true, (nh : Int)), (letter false, (nt : Int))]))
structure Adr where
  aw : Addr
  aat : Addr
  ab : Addr
  aas : Addr
structure Off4 (A : Adr) (a : Addr) : Prop where
  w : a ≠ A.aw
  t : a ≠ A.aat
  b : a ≠ A.ab
  s : a ≠ A.aas
structure Adr.Ok (A : Adr) : Prop where
  wt : A.aw ≠ A.aat
  wb : A.aw ≠ A.ab
  ws : A.aw ≠ A.aas
  tb : A.aat ≠ A.ab
  ts : A.aat ≠ A.aas
  bs : A.ab ≠ A.aas
  lw : (A.aw == sysModules) = false
  lb : (A.ab == sysModules) = false
inductive EntX (w : World) (A : Adr) (bkv : List (Int × Value)) (led : Led) (wt : Int) (k : Int) (nt nh : Nat) : Prop
  | mk : ∀ ae ac oc ne t1 t2 t3 t4 ckv cc, valueAt bkv k = some (.ref ae) → (ae, ({ cls := .type "tuple", data := .seq #[.int ((nt : Int) + nh) t1, .int ((nt : Int) + nh) t2, .int (((nt : Int) + nh) * wt) t3, .int (-((nt : Int) + nh) * wt) t4, .ref ac] ne} : Obj)) ∈ led → (ac, oc) ∈ led → oc.IsDictOf (strKind PG w) ckv → CallersAre ckv cc → CC cc nt nh → (ac == sysModules) = false → Off4 A ae → Off4 A ac → EntX w A bkv led wt k nt nh
structure Entry (w : World) (A : Adr) (bkv : List (Int × Value)) (led : Led) (wt : Int) (k : Int) (nt nh : Nat) : Prop where
  ex : EntX w A bkv led wt k nt nh
noncomputable abbrev walkKv (A : Adr) (ad : Addr) : List (Str × Value) := [(Str.ofString "at", .ref A.aat), (Str.ofString "dots", .ref ad), (Str.ofString "book", .ref A.ab), (Str.ofString "asked", .ref A.aas), (Str.ofString "good", .bool true)]
inductive WkW (w : World) (A : Adr) (ts hs : List Int) (led : Led) : Prop
  | mk : ∀ ow ad nd t0 t1, (A.aw, ow) ∈ led → ow.IsDictOf (strKind PG w) (walkKv A ad) → (ad, W.listOf #[.int (1 + ts.length) t0, .int (1 + hs.length) t1] nd) ∈ led → Off4 A ad → WkW w A ts hs led
inductive WkT (A : Adr) (p0 p1 : Int) (led : Led) : Prop
  | mk : ∀ na t0 t1, (A.aat, W.listOf #[.int p0 t0, .int p1 t1] na) ∈ led → WkT A p0 p1 led
inductive WkB (w : World) (A : Adr) (wns ts hs : List Int) (led : Led) : Prop
  | mk : ∀ ob bkv, (A.ab, ob) ∈ led → ob.IsDictOf (intKind PG w) bkv → bkv.length < 100 → (∀ k : Int, 0 ≤ k → k < 6 → Entry w A bkv led (wns.getD k.toNat 0) k (ts.count k) (hs.count k)) → WkB w A wns ts hs led
inductive WkS (A : Adr) (asked : List Int) (led : Led) : Prop
  | mk : ∀ avs na, (A.aas, W.listOf avs na) ∈ led → avs.size = asked.length → IntsAre avs.toList asked → WkS A asked led
structure Wk (w : World) (A : Adr) (keep : Led) (wns : List Int) (p0 p1 : Int) (ts hs asked : List Int) (led : Led) : Prop where
  keep : ∀ p ∈ keep, p ∈ led
  walk : WkW w A ts hs led
  at_ : WkT A p0 p1 led
  book : WkB w A wns ts hs led
  ask : WkS A asked led
noncomputable def wo (a : Addr) (l : Led) : Led := l.filter fun q => q.1 != a
end
section -- L1
section
open PySem.Calls PyProof.V PySem.Spec PyProof.Rows.LCg
noncomputable def StepQ (h₀ : Heap) (L I : Addr) (oI : Obj) (keep : Led) (J : (Str → Option Value) → Led → Prop) (Q : Flow → Shared → Prop) (s₁ : Shared) (f : Flow) (s₂ : Shared) : Prop :=
  match f with
  | .ret v => Q (.ret v) s₂
  | .brk => Q .next s₂
  | _ => ∃ h' tk m' news', s₂ = { s₁ with heap := h', toks := tk } ∧ Fr h₀ L h' m' ∧ News h₀ L h' ((I, oI) :: news') ∧ (∀ p ∈ news', p.1 ≠ I) ∧ (∀ q ∈ keep, q ∈ news') ∧ J m' news'
variable {prog : Program} {w : World} {A : Around} {E : Value → Shared → Prop} {s : Shared} {env : Env} {h₀ : Heap} {target : PySem.Expr} {body : List Stmt} {Q : Flow → Shared → Prop} {m : Str → Option Value} {news keep : Led}
noncomputable def T37 {I : Addr} {fp : List Addr} {n : Nat} {P : Nat → Value → Prop} {St : Nat → Heap → Prop} {cn : String} : Prop := ∀ (W : Walks prog w A I fp [I] n P St) (hgo : ∀ i v (s : Shared) (Q : Unit → Shared → Prop) (E : Value → Shared → Prop), St i s.heap → Q () s → wpAny (model prog w) A (letOwnedTupleGo target (.ref I) v) Q E s) (hI : ∀ i h, St i h → ∃ o, h.get? I = some o ∧ o.cls = .type cn) (hfp : ∀ b ∈ fp, b = I ∨ ∃ o, (b, o) ∈ keep) (hst : St 0 s.heap) (hL : env.locals ∉ fp) (hI0 : h₀.get? I = none) (F : Fr h₀ env.locals s.heap m) (N : News h₀ env.locals s.heap news) (hnw : ∀ p ∈ news, p.1 ≠ I) (hk : ∀ q ∈ keep, q ∈ news) (J : Nat → (Str → Option Value) → Led → Prop) (h0 : J 0 m news) (step : ∀ i v m₁ news₁ h₁ tk₁ oI, i < n → P i v → J i m₁ news₁ → oI.cls = .type cn → (∀ p ∈ news₁, p.1 ≠ I) → (∀ q ∈ keep, q ∈ news₁) → Fr h₀ env.locals h₁ m₁ → News h₀ env.locals h₁ ((I, oI) :: news₁) →
      wpAny (model prog w) A (assign target env v) (fun _ s₂ => wpAny (model prog w) A (execs body env) (StepQ h₀ env.locals I oI keep (J (i + 1)) Q { s with heap := h₁, toks := tk₁ }) E s₂) E { s with heap := h₁, toks := tk₁ }) (fin : ∀ h' tk m' news', Fr h₀ env.locals h' m' → News h₀ env.locals h' news' → J n m' news' → Q .next { s with heap := h', toks := tk }), TurnsAt prog w A h₀ env target body Q E (.ref I) s
end
end
section -- N0
section
open PySem.Calls PyProof.V PySem.Spec PyProof.Rows.LCg
variable {prog : Program} {w : World} {A : Around} {E : Value → Shared → Prop} {R : Result → Shared → Prop} {s : Shared} {env : Env}
noncomputable abbrev nest2 (elt t0 i0 t1 i1 : PySem.Expr) (scope : Scope) (pos : Pos) : PySem.Expr := .ListComp elt [⟨t0, i0, [], 0⟩, ⟨t1, i1, [], 0⟩] scope pos
noncomputable def T38 {elt t0 i0 t1 i1 : PySem.Expr} {scope : Scope} {pos : Pos} {it acc : Value} (I : Nat → Shared → Prop) : Prop := ∀ (turn : ∀ n s, I n s → wpAny (model prog w) A (pyNext it) (fun r s₁ => match r with
      | none => R (.ok .next) s₁
      | some v => wpAny (model prog w) A (letOwnedTupleGo t1 it v) (fun _ s₀ => wpAny (model prog w) A (assign t1 env v) (fun _ s₂ =>
          wpAny (model prog w) A (eval elt env) (fun x s₄ =>
            wpAny (model prog w) A (call (.builtin "list.append") [acc, x]) (fun _ s₅ => ∃ m, m < n ∧ I m s₅) (notedBy (model prog w) A env fun e s' => R (.error e) s') s₄) (notedBy (model prog w) A env fun e s' => R (.error e) s') s₂)
          (notedBy (model prog w) A env fun e s' => R (.error e) s') s₀) (notedBy (model prog w) A env fun e s' => R (.error e) s') s₁) (notedBy (model prog w) A env fun e s' => R (.error e) s') s) (n : Nat) (h : I n s), codeAny (model prog w) A (.compLoop (nest2 elt t0 i0 t1 i1 scope pos) 1 it acc env) R s
noncomputable def T39 {elt t0 i0 t1 i1 : PySem.Expr} {scope : Scope} {pos : Pos} {it acc : Value} (I : Nat → Shared → Prop) : Prop := ∀ (hs : ∀ x, foldedSetIterable i1 env x = pure x) (turn : ∀ n s, I n s → wpAny (model prog w) A (pyNext it) (fun r s₁ => match r with
      | none => R (.ok .next) s₁
      | some v => wpAny (model prog w) A (letOwnedTupleGo t0 it v) (fun _ s₀ => wpAny (model prog w) A (assign t0 env v) (fun _ s₂ =>
          wpAny (model prog w) A (eval i1 env) (fun x s₃ => wpAny (model prog w) A (pyIter x) (fun i2 s₄ =>
            codeAny (model prog w) A (.compStart (nest2 elt t0 i0 t1 i1 scope pos) 1 i2 acc env) (fun r s₅ => match r with | .ok _ => ∃ m, m < n ∧ I m s₅ | .error e => cameBackBy (model prog w) A env (notedBy (model prog w) A env fun e s' => R (.error e) s') e s₅) s₄)
            (notedBy (model prog w) A env fun e s' => R (.error e) s') s₃) (notedBy (model prog w) A env fun e s' => R (.error e) s') s₂)
          (notedBy (model prog w) A env fun e s' => R (.error e) s') s₀) (notedBy (model prog w) A env fun e s' => R (.error e) s') s₁) (notedBy (model prog w) A env fun e s' => R (.error e) s') s) (n : Nat) (h : I n s), codeAny (model prog w) A (.compLoop (nest2 elt t0 i0 t1 i1 scope pos) 0 it acc env) R s
end
section
open PySem.Calls PyProof.V PySem.Spec PyProof.Rows.LCg
variable {prog : Program} {w : World} {A : Around} {E : Value → Shared → Prop} {R : Result → Shared → Prop} {s : Shared} {h₀ : Heap} {L : Addr} {m : Str → Option Value}
noncomputable def OffCD (C D : Addr) (wr : List Addr) (l : Led) : Prop := ∀ p ∈ l, p.1 ≠ C ∧ p.1 ≠ D ∧ p.1 ∉ wr
inductive NextInv (h₀ : Heap) (L : Addr) (m : Str → Option Value) (C D : Addr) (own : Led) (wr : List Addr) (J : List Value → (Str → Option Value) → Led → Prop) (s₁ s₅ : Shared) : Prop
  | mk : ∀ h' tk ys mC oC news', s₅ = { s₁ with heap := h', toks := tk } → Fr h₀ L h' m → NsObj oC mC → News h₀ L h' ((C, oC) :: (D, lst ys) :: (own ++ news')) → OffCD C D wr news' → J ys mC news' → NextInv h₀ L m C D own wr J s₁ s₅
inductive CInv (h₀ : Heap) (L : Addr) (m : Str → Option Value) (C D : Addr) (wr : List Addr) (St : Nat → Heap → Prop) (J : Nat → List Value → (Str → Option Value) → Led → Prop) (n : Nat) (s : Shared) (k : Nat) (s' : Shared) : Prop
  | mk : ∀ i h' tk ys mC oC news', i ≤ n → k = n + 1 - i → s' = { s with heap := h', toks := tk } → St i h' → Fr h₀ L h' m → NsObj oC mC → News h₀ L h' ((C, oC) :: (D, lst ys) :: news') → OffCD C D wr news' → J i ys mC news' → CInv h₀ L m C D wr St J n s k s'
noncomputable def T40 {target : PySem.Expr} {I C D : Addr} {fp wr : List Addr} {n : Nat} {P Md : Nat → Value → Heap → Prop} {St : Nat → Heap → Prop} : Prop := ∀ (W : KTurns prog w A target I fp wr n P Md St) (hlive : ∀ i h, St i h → ∀ b ∈ wr, ∃ o, h.get? b = some o) (hLf : L ∉ fp) (hwr : ∀ b ∈ wr, h₀.get? b = none) (hCf : C ∉ fp) (hDf : D ∉ fp) (hC0 : h₀.get? C = none) (hD0 : h₀.get? D = none) (J : Nat → List Value → (Str → Option Value) → Led → Prop) (BODY : Value → (Shared → Prop) → Shared → Prop) (mono : ∀ v (P P' : Shared → Prop) s, (∀ s, P s → P' s) → BODY v P s → BODY v P' s) (step : ∀ i v h₁ tk₁ ys mC oC news' own, i < n → P i v h₁ → J i ys mC news' → NsObj oC mC → OffCD C D wr news' → (∀ p ∈ own, p.1 ∈ fp) → (∀ b ∈ wr, ∃ o, (b, o) ∈ own) → Fr h₀ L h₁ m → News h₀ L h₁ ((C, oC) :: (D, lst ys) :: (own ++ news')) →
      BODY v (NextInv h₀ L m C D own wr (J (i + 1)) s) { s with heap := h₁, toks := tk₁ }) (fin : ∀ h' tk ys mC oC news', J n ys mC news' → NsObj oC mC → OffCD C D wr news' → Fr h₀ L h' m → News h₀ L h' ((C, oC) :: (D, lst ys) :: news') → R (.ok .next) { s with heap := h', toks := tk }) (k : Nat) (s' : Shared) (hI : CInv h₀ L m C D wr St J n s k s'), wpAny (model prog w) A (pyNext (.ref I)) (fun r s₁ => match r with
      | none => R (.ok .next) s₁
      | some v => wpAny (model prog w) A (letOwnedTupleGo target (.ref I) v) (fun _ s₀ => BODY v (fun s₅ => ∃ j, j < k ∧ CInv h₀ L m C D wr St J n s j s₅) s₀) E s₁) E s'
end
section
open PySem.Calls PyProof.V PySem.Spec PyProof.Rows.LCg
variable {prog : Program} {w : World} {A : Around} {E : Value → Shared → Prop} {s : Shared} {h₀ : Heap} {L : Addr} {m : Str → Option Value} {env : Env}
inductive SrcJ (prog : Program) (w : World) (A : Around) (h₀ : Heap) (L : Addr) (m : Str → Option Value) (env : Env) (e : PySem.Expr) (scope : Scope) (cl : List (Str × Addr)) (Fin : Shared → List Value → Led → Prop) (it : Value) (s₂ : Shared) : Prop
  | mk : ∀ (I : Addr) (fp wr : List Addr) (n : Nat) (St : Nat → Heap → Prop) (J : Nat → List Value → (Str → Option Value) → Led → Prop) (news : Led), it = .ref I → (∀ i h h', St i h → (∀ b ∈ fp, ∀ o, h.get? b = some o → h'.get? b = some o) → St i h') → (∀ (s : Shared) (Q : Value → Shared → Prop) (E : Value → Shared → Prop), St 0 s.heap → Q (.ref I) s → wpAny (model prog w) A (pyIter (.ref I)) Q E s) → St 0 s₂.heap → (∀ b ∈ fp, b < s₂.heap.objs.size) → (∀ b ∈ wr, b ∈ fp) → (∀ b ∈ wr, h₀.get? b = none) → Fr h₀ L s₂.heap m → News h₀ L s₂.heap news → (∀ p ∈ news, p.1 ∉ wr) → (∀ mC, J 0 [] mC news) → (∀ (C D : Addr) (R : Result → Shared → Prop) (s' : Shared), C ∉ fp → D ∉ fp → h₀.get? C = none → h₀.get? D = none → C ≠ L → D ≠ L → C ≠ D → CInv h₀ L m C D wr St J n s₂ (n + 1) s' → (∀ h' tk ys mC oC news', J n ys mC news' → NsObj oC mC → OffCD C D wr news' → Fr h₀ L h' m → News h₀ L h' ((C, oC) :: (D, lst ys) :: news') → R (.ok .next) { s₂ with heap := h', toks := tk }) → codeAny (model prog w) A (.compLoop e 0 (.ref I) (.ref D) (compEnvC scope cl C env)) R s') → (∀ ys mC news', J n ys mC news' → Fin s₂ ys news') → SrcJ prog w A h₀ L m env e scope cl Fin it s₂
noncomputable def T41 {elt t0 i0 : PySem.Expr} {ifs : List PySem.Expr} {rest : List Comprehension} {scope : Scope} {cl : List (Str × Addr)} {pos : Pos} {s₂ : Shared} {it : Value} {Fin : Shared → List Value → Led → Prop} {RR : Value → Addr → Result → Shared → Prop} : Prop := ∀ (hcell : ∀ y ∈ scope.names, y.2 ≠ .cell) (hkind : scope.kind = .function) (S : SrcJ prog w A h₀ L m env (.ListComp elt (⟨t0, i0, ifs, 0⟩ :: rest) scope pos) scope cl Fin it s₂) (hRR : ∀ D C h tk m' ys news', Fr h₀ L h m → News h₀ L h ((D, lst ys) :: news') → Off1 D news' → h.Ns C m' → h₀.get? C = none → h₀.get? D = none → C ≠ L → D ≠ L → C ≠ D → (∀ p ∈ news', p.1 ≠ C) → Fin s₂ ys news' → RR (.ref D) C (.ok .next) { s₂ with heap := h, toks := tk }), wpAny (model prog w) A (newList []) (fun acc s₃ => wpAny (model prog w) A (newFunctionEnv scope env.globals cl [] env.qual none .none (some env)) (fun cenv s₄ =>
      codeAny (model prog w) A (.compStart (.ListComp elt (⟨t0, i0, ifs, 0⟩ :: rest) scope pos) 0 it acc { cenv with scope := relabel scope env }) (RR acc cenv.locals) s₄) E s₃) E s₂
end
end
section -- N1
section
open PySem.Calls PyProof.V PySem.Spec PyProof.Rows.LCg
variable {prog : Program} {w : World} {A : Around} {E : Value → Shared → Prop} {s : Shared} {h₀ : Heap} {L : Addr} {m : Str → Option Value} {env : Env}
structure SrcW (prog : Program) (w : World) (A : Around) (h₀ : Heap) (L : Addr) (m : Str → Option Value) (target : PySem.Expr) (I : Addr) (fp wr : List Addr) (n : Nat) (P Md : Nat → Value → Heap → Prop) (St : Nat → Heap → Prop) (news : Led) (s₂ : Shared) : Prop where
  W : KTurns prog w A target I fp wr n P Md St
  self : ∀ (s : Shared) (Q : Value → Shared → Prop) (E : Value → Shared → Prop), St 0 s.heap → Q (.ref I) s → wpAny (model prog w) A (pyIter (.ref I)) Q E s
  st : St 0 s₂.heap
  lt : ∀ b ∈ fp, b < s₂.heap.objs.size
  wr0 : ∀ b ∈ wr, h₀.get? b = none
  F : Fr h₀ L s₂.heap m
  N : News h₀ L s₂.heap news
  off : ∀ p ∈ news, p.1 ∉ wr
  nL : L ∉ fp
  live : ∀ i h, St i h → ∀ b ∈ wr, ∃ o, h.get? b = some o
inductive EltEnd (h₀ : Heap) (L : Addr) (m : Str → Option Value) (C D : Addr) (ys : List Value) (own : Led) (wr : List Addr) (J : Value → (Str → Option Value) → Led → Prop) (s₁ : Shared) (y : Value) (s₄ : Shared) : Prop
  | mk : ∀ h' tk mC oC news', s₄ = { s₁ with heap := h', toks := tk } → Fr h₀ L h' m → NsObj oC mC → News h₀ L h' ((C, oC) :: (D, lst ys) :: (own ++ news')) → OffCD C D wr news' → J y mC news' → EltEnd h₀ L m C D ys own wr J s₁ y s₄
section
variable {elt t0 i0 : PySem.Expr} {scope : Scope} {cl : List (Str × Addr)} {pos : Pos} {s₂ : Shared} {I : Addr} {fp wr : List Addr} {n : Nat} {P Md : Nat → Value → Heap → Prop} {St : Nat → Heap → Prop} {news : Led} {Fin : Shared → List Value → Led → Prop}
inductive InnerAt (prog : Program) (w : World) (A : Around) (h₀ : Heap) (L : Addr) (m : Str → Option Value) (elt t1 : PySem.Expr) (cenv : Env) (C D : Addr) (own : Led) (wr : List Addr) (Jn : List Value → (Str → Option Value) → Led → Prop) (s₂ : Shared) (i2 : Value) (s₄ : Shared) : Prop
  | mk : ∀ (I2 : Addr) (fp2 wr2 : List Addr) (n2 : Nat) (P2 Md2 : Nat → Value → Heap → Prop) (St2 : Nat → Heap → Prop) (J2 : Nat → List Value → (Str → Option Value) → Led → Prop) (ys : List Value) (mC : Str → Option Value) (oC : Obj) (nw : Led) (h : Heap) (tk : Nat), i2 = .ref I2 → s₄ = { s₂ with heap := h, toks := tk } → KTurns prog w A t1 I2 fp2 wr2 n2 P2 Md2 St2 → (∀ (s : Shared) (Q : Value → Shared → Prop) (E : Value → Shared → Prop), St2 0 s.heap → Q (.ref I2) s → wpAny (model prog w) A (pyIter (.ref I2)) Q E s) → St2 0 h → (∀ i h, St2 i h → ∀ b ∈ wr2, ∃ o, h.get? b = some o) → L ∉ fp2 → C ∉ fp2 → D ∉ fp2 → (∀ b ∈ wr2, h₀.get? b = none) → Fr h₀ L h m → NsObj oC mC → News h₀ L h ((C, oC) :: (D, lst ys) :: nw) → OffCD C D wr2 nw → J2 0 ys mC nw → (∀ i ys mC nw, J2 i ys mC nw → ys.length ≤ sizeLine) → (∀ i v h₁ tk₁ ys mC oC nw own2 (E' : Value → Shared → Prop), i < n2 → P2 i v h₁ → J2 i ys mC nw → NsObj oC mC → OffCD C D wr2 nw → (∀ p ∈ own2, p.1 ≠ C ∧ p.1 ≠ D) → ((∀ b ∈ wr2, ∃ o, (b, o) ∈ own2) ∧ ∀ p ∈ own2, p.1 ∈ fp2) → Fr h₀ L h₁ m → News h₀ L h₁ ((C, oC) :: (D, lst ys) :: (own2 ++ nw)) → wpAny (model prog w) A (assign t1 cenv v) (fun _ s₃ => wpAny (model prog w) A (eval elt cenv) (EltEnd h₀ L m C D ys own2 wr2 (fun y => J2 (i + 1) (ys ++ [y])) s₂) E' s₃) E' { s₂ with heap := h₁, toks := tk₁ }) → (∀ ys mC nw, J2 n2 ys mC nw → OffCD C D wr2 nw → ∃ news'', (∀ p ∈ own ++ news'', p ∈ nw) ∧ (∀ p ∈ news'', p.1 ∉ wr) ∧ Jn ys mC news'') → InnerAt prog w A h₀ L m elt t1 cenv C D own wr Jn s₂ i2 s₄
noncomputable def T42 {t1 i1 : PySem.Expr} : Prop := ∀ (S : SrcW prog w A h₀ L m t0 I fp wr n P Md St news s₂) (hh : A.handled = none) (hs : ∀ (env : Env) x, foldedSetIterable i1 env x = pure x) (J : Nat → List Value → (Str → Option Value) → Led → Prop) (hJ0 : ∀ mC, J 0 [] mC news) (step : ∀ i v C D h₁ tk₁ ys mC oC news' own (E' : Value → Shared → Prop), i < n → P i v h₁ → J i ys mC news' → NsObj oC mC → OffCD C D wr news' → C ≠ D → C ≠ L → D ≠ L → h₀.get? C = none → h₀.get? D = none → (∀ p ∈ own, p.1 ≠ C ∧ p.1 ≠ D) → ((∀ b ∈ wr, ∃ o, (b, o) ∈ own) ∧ ∀ p ∈ own, p.1 ∈ fp) → Fr h₀ L h₁ m → News h₀ L h₁ ((C, oC) :: (D, lst ys) :: (own ++ news')) →
      wpAny (model prog w) A (assign t0 (compEnvC scope cl C env) v) (fun _ s₃ => wpAny (model prog w) A (eval i1 (compEnvC scope cl C env)) (fun x s₃ => wpAny (model prog w) A (pyIter x)
        (InnerAt prog w A h₀ L m elt t1 (compEnvC scope cl C env) C D own wr (J (i + 1)) s₂) E' s₃) E' s₃) E' { s₂ with heap := h₁, toks := tk₁ }) (fin : ∀ ys mC news', J n ys mC news' → Fin s₂ ys news'), SrcJ prog w A h₀ L m env (nest2 elt t0 i0 t1 i1 scope pos) scope cl Fin (.ref I) s₂
end
end
end
section -- N2
section
open PySem.Calls PyProof.V PySem.Spec PyProof.Rows.LCg
variable {prog : Program} {w : World} {A : Around} {E : Value → Shared → Prop} {s : Shared} {h₀ : Heap} {L : Addr} {m : Str → Option Value} {env : Env} {news : Led}
inductive EltQ (h₀ : Heap) (L : Addr) (m : Str → Option Value) (C D : Addr) (ys : List Value) (tl : Led) (wr : List Addr) (J : Value → Led → Prop) (s₁ : Shared) (y : Value) (s₄ : Shared) : Prop
  | mk : ∀ h' tk mC oC nw, s₄ = { s₁ with heap := h', toks := tk } → Fr h₀ L h' m → NsObj oC mC → News h₀ L h' ((C, oC) :: (D, lst ys) :: (nw ++ tl)) → OffCD C D wr nw → J y nw → EltQ h₀ L m C D ys tl wr J s₁ y s₄
inductive NoQ (h₀ : Heap) (L : Addr) (m : Str → Option Value) (C D : Addr) (ys : List Value) (tl : Led) (wr : List Addr) (J : List Value → Led → Prop) (s₁ : Shared) (s₄ : Shared) : Prop
  | mk : ∀ h' tk mC oC nw, s₄ = { s₁ with heap := h', toks := tk } → Fr h₀ L h' m → NsObj oC mC → News h₀ L h' ((C, oC) :: (D, lst ys) :: (nw ++ tl)) → OffCD C D wr nw → J ys nw → NoQ h₀ L m C D ys tl wr J s₁ s₄
noncomputable def TestQ (b : Bool) (P Q : Prop) : Prop := if b = true then P else Q
end
end
section -- N3
section
open PySem.Calls PyProof.V PySem.Spec PyProof.Rows.LCg
variable {prog : Program} {w : World} {A : Around} {E : Value → Shared → Prop} {s : Shared} {h₀ : Heap} {L : Addr} {m : Str → Option Value} {env : Env} {news : Led}
noncomputable def ZipP (xs ys : Array Value) (i : Nat) (v : Value) (h : Heap) : Prop := ∃ T vals, v = .ref T ∧ (∃ x y, xs[i]? = some x ∧ ys[i]? = some y ∧ vals = #[x, y]) ∧ h.IsTuple T vals
noncomputable def T43 {l1 l2 : Addr} {lo1 lo2 : Obj} {xs ys : Array Value} {n1 n2 : Nat} {R : Value → Shared → Prop} : Prop := ∀ (hh : A.handled = none) (F : Fr h₀ L s.heap m) (N : News h₀ L s.heap news) (hm1 : (l1, lo1) ∈ news) (hc1 : lo1.cls = .type "list") (hd1 : lo1.data = .seq xs n1) (hm2 : (l2, lo2) ∈ news) (hc2 : lo2.cls = .type "list") (hd2 : lo2.data = .seq ys n2) (h : ∀ I St Md g fp wr, (∀ elts k pos, SrcW prog w A h₀ L m (.Tuple elts k pos) I fp wr (min xs.size ys.size) (ZipP xs ys) Md St news { s with heap := g }) → R (.ref I) { s with heap := g }), wpAny (model prog w) A (call (.type "zip") [.ref l1, .ref l2]) (fun xv s₁ => wpAny (model prog w) A (pyIter xv) R E s₁) E s
end
end
section -- N5
section
open PySem.Calls PyProof.V PySem.Spec PyProof.Rows.LCg
variable {prog : Program} {w : World} {A : Around} {E : Value → Shared → Prop} {s : Shared} {h₀ : Heap} {L : Addr} {m : Str → Option Value} {env : Env} {news : Led}
noncomputable def T44 {it t : Addr} {i : Nat} {items : Array Value} {Q : Value → Shared → Prop} : Prop := ∀ (hh : A.handled = none) (hit : s.heap.IsTupleIter it t i) (ht : s.heap.IsTuple t items) (hx : items[i]? = none) (hE : ∀ h' e, Heap.ExtBut it s.heap h' → (∃ o, h'.get? e = some o ∧ o.cls = .type "StopIteration") → E (.ref e) { s with heap := h' }), wpAny (model prog w) A (Builtin.SmallTypes.nextOf (.ref it)) Q E s
end
end
section -- N6
section
open PySem.Calls PyProof.V PySem.Spec PyProof.Rows.LCg
variable {prog : Program} {w : World} {A : Around} {E : Value → Shared → Prop} {s : Shared} {h₀ : Heap} {L : Addr} {m : Str → Option Value} {env : Env} {news : Led}
structure ZAp (z TI TO i1 i2 : Addr) (fp1 fp2 : List Addr) : Prop where
  TIz : TI ≠ z
  TOz : TO ≠ z
  i1z : i1 ≠ z
  i2z : i2 ≠ z
  TITO : TI ≠ TO
  TIi1 : TI ≠ i1
  TIi2 : TI ≠ i2
  TOi1 : TO ≠ i1
  TOi2 : TO ≠ i2
  i12 : i1 ≠ i2
  f1 : ∀ b ∈ fp1, b ≠ z ∧ b ≠ TO ∧ b ≠ i2
  f2 : ∀ b ∈ fp2, b ≠ z ∧ b ≠ TO ∧ b ≠ i1
section
variable {z TI TO i1 i2 : Addr} {fp1 fp2 : List Addr} {n1 n2 : Nat} {P1 P2 : Nat → Value → Prop} {St1 St2 : Nat → Heap → Prop}
noncomputable def T45 {k : Nat} {a b : Value} {Q : Value → Shared → Prop} : Prop := ∀ (D1 : Draws prog w A i1 fp1 n1 P1 St1) (D2 : Draws prog w A i2 fp2 n2 P2 St2) (D : ZAp z TI TO i1 i2 fp1 fp2) (hz : IsZip s.heap z TI TO .none) (hTI : IsPair s.heap TI (.ref i1) (.ref i2)) (hTO : IsPair s.heap TO a b) (st1 : St1 k s.heap) (st2 : St2 k s.heap) (hk1 : k < n1) (hk2 : k < n2) (hQ : ∀ h' tk x y, P1 k x → P2 k y → IsZip h' z TI TO (rawInt s.heap.objs.size) → IsPair h' TO x y → St1 (k + 1) h' → St2 (k + 1) h' → IsPair h' s.heap.objs.size x y →
      (∀ c o, c ≠ z → c ≠ TO → c ≠ i1 → c ≠ i2 → s.heap.get? c = some o → h'.get? c = some o) → Q (.ref s.heap.objs.size) { s with heap := h', toks := tk }), wpAny (model prog w) A (Builtin.«zip.__next__» ⟨[.ref z], []⟩) (fun fin s' => ∃ v, fin = .done (.ret v) ∧ Q v s') E s
noncomputable def T46 {a b : Value} {Q : Fin → Shared → Prop} : Prop := ∀ (D1 : Draws prog w A i1 fp1 n1 P1 St1) (D : ZAp z TI TO i1 i2 fp1 fp2) (hz : IsZip s.heap z TI TO .none) (hTI : IsPair s.heap TI (.ref i1) (.ref i2)) (hTO : IsPair s.heap TO a b) (st1 : St1 n1 s.heap) (hE : ∀ h' e, (∀ c o, c ≠ z → c ≠ TO → c ≠ i1 → c ≠ i2 → s.heap.get? c = some o → h'.get? c = some o) → (∃ o, h'.get? e = some o ∧ o.cls = .type "StopIteration") → E (.ref e) { s with heap := h' }), wpAny (model prog w) A (Builtin.«zip.__next__» ⟨[.ref z], []⟩) Q E s
end
end
end
section -- N7
section
open PySem.Calls PyProof.V PySem.Spec PyProof.Rows.LCg
noncomputable abbrev ztH1 (h : Heap) (l1 : Addr) : Heap := h.push { cls := .type "tuple_iterator", data := .fields #[.ref l1, .int 0 0] }
noncomputable abbrev ztH2 (h : Heap) (l1 l2 : Addr) : Heap := (ztH1 h l1).push { cls := .type "tuple_iterator", data := .fields #[.ref l2, .int 0 0] }
noncomputable abbrev ztH3 (h : Heap) (l1 l2 : Addr) : Heap := (ztH2 h l1 l2).push { cls := .type "tuple", data := .seq #[.ref h.objs.size, .ref (ztH1 h l1).objs.size] }
noncomputable abbrev ztH4 (h : Heap) (l1 l2 : Addr) : Heap := (ztH3 h l1 l2).push { cls := .type "tuple", data := .seq #[.none, .none] }
noncomputable abbrev ztH5 (h : Heap) (l1 l2 : Addr) : Heap := (ztH4 h l1 l2).push { cls := .type "zip", data := .fields #[.none, .bool false, .bool false, .ref (ztH2 h l1 l2).objs.size, .ref (ztH3 h l1 l2).objs.size] }
variable {prog : Program} {w : World} {A : Around} {E : Value → Shared → Prop} {s : Shared} {h₀ : Heap} {L : Addr} {m : Str → Option Value} {env : Env} {news : Led}
noncomputable def T47 {l1 l2 : Addr} {xs ys : Array Value} {Q : Value → Shared → Prop} : Prop := ∀ (hl1 : s.heap.IsTuple l1 xs) (hl2 : s.heap.IsTuple l2 ys) (h : ∀ h', IsZip h' (s.heap.objs.size + 4) (s.heap.objs.size + 2) (s.heap.objs.size + 3) .none → IsPair h' (s.heap.objs.size + 2) (.ref s.heap.objs.size) (.ref (s.heap.objs.size + 1)) →
      IsPair h' (s.heap.objs.size + 3) .none .none → h'.IsTupleIter s.heap.objs.size l1 0 → h'.IsTupleIter (s.heap.objs.size + 1) l2 0 → h'.objs.size = s.heap.objs.size + 5 →
      (∀ c o, s.heap.get? c = some o → h'.get? c = some o) → Q (.ref (s.heap.objs.size + 4)) { s with heap := h' }), wpAny (model prog w) A (call (.type "zip") [.ref l1, .ref l2]) Q E s
noncomputable def T48 {l1 l2 : Addr} {lo1 lo2 : Obj} {xs ys : Array Value} {n1 n2 : Nat} {R : Value → Shared → Prop} : Prop := ∀ (hh : A.handled = none) (F : Fr h₀ L s.heap m) (N : News h₀ L s.heap news) (hm1 : (l1, lo1) ∈ news) (hc1 : lo1.cls = .type "tuple") (hd1 : lo1.data = .seq xs n1) (hm2 : (l2, lo2) ∈ news) (hc2 : lo2.cls = .type "tuple") (hd2 : lo2.data = .seq ys n2) (hxy : xs.size = ys.size) (h : ∀ I St Md g fp wr, (∀ elts k pos, SrcW prog w A h₀ L m (.Tuple elts k pos) I fp wr ys.size (ZipP xs ys) Md St news { s with heap := g }) → R (.ref I) { s with heap := g }), wpAny (model prog w) A (call (.type "zip") [.ref l1, .ref l2]) (fun xv s₁ => wpAny (model prog w) A (pyIter xv) R E s₁) E s
end
end
section -- P0
section
open PySem.Calls
variable {prog : Program} {w : World} {A : Around} {E : Value → Shared → Prop} {s : Shared} {h₀ : Heap} {L : Addr} {m : Str → Option Value} {news : Led} {g : Obj → Led}
noncomputable abbrev litObj (ax : Addr) (i : Nat) : Obj := { cls := .type "list_iterator", data := .fields #[.ref ax, .int i 0] }
noncomputable abbrev stopObj (vs : Array Value) : Obj := { cls := .type "StopIteration", data := .fields vs }
noncomputable def T49 {it ax : Addr} {i : Nat} {its : Array Value} {n : Nat} {x : Value} {Q : Value → Shared → Prop} : Prop := ∀ (F : Fr h₀ L s.heap m) (N : News h₀ L s.heap news) (U : UpdF it (litObj ax i) news g) (hm : (ax, W.listOf its n) ∈ news) (hx : its[i]? = some x) (h : ∀ h', Fr h₀ L h' m → News h₀ L h' (g (litObj ax (i + 1))) → Q x { s with heap := h' }), wpAny (model prog w) A (call (.builtin "next") [.ref it]) Q E s
noncomputable def T50 {it ax : Addr} {i : Nat} {its : Array Value} {n : Nat} {Q : Value → Shared → Prop} : Prop := ∀ (hh : A.handled = none) (F : Fr h₀ L s.heap m) (N : News h₀ L s.heap news) (U : UpdF it (litObj ax i) news g) (hm : (ax, W.listOf its n) ∈ news) (hx : its[i]? = none) (h : ∀ e t vs h' o', Fr h₀ L h' m → News h₀ L h' ((e, stopObj vs) :: (t, nilTup) :: g o') → (∀ p ∈ (t, nilTup) :: g o', p.1 ≠ e) → vs[1]? = some .none → E (.ref e) { s with heap := h' }), wpAny (model prog w) A (call (.builtin "next") [.ref it]) Q E s
end
end
section -- P1
noncomputable def octs (n : Int) : List Int := if n < 64 then [Int.fmod n 64] else if n < 4096 then [64 + Int.fmod (Int.fdiv n 64) 64, Int.fmod n 64] else [64 + Int.fdiv n 4096, 64 + Int.fmod (Int.fdiv n 64) 64, Int.fmod n 64]
noncomputable def enc (n : Int) : List Int := (octs n).map fun o => o + 128 * Int.fmod n 2
end
section -- C1
noncomputable def Kept (base : Heap) (s s' : Shared) : Prop := (∀ b o, base.get? b = some o → s'.heap.get? b = some o) ∧ s'.os = s.os ∧ s'.gens = s.gens
section
open PySem.Calls
variable {prog : Program} {w : World} {A A₀ : Around} {E : Value → Shared → Prop} {s' : Shared} {base g G : Heap} {env : Env} {outer : List Env} {L e : Addr} {oe : Obj} {m : Str → Option Value} {news : Led} {Q : Flow → Shared → Prop} {KF : Frag}
  {p : Program} {loose : List Str} {mean : ExcName → Option Value} {mg mb : Str → Option Value} {hs : List ExceptHandler}
noncomputable def T51 : Prop := ∀ (hf : env.frame = some L) (K : Below A₀ base outer g) (F : Fr g L G m) (R : RaisedX base G (env :: outer) e oe news s'.heap) (hsm : G.UpToSlots s'.heap) (D : KtsDicts (outer.filterMap (·.frame)) g), ∃ g' vs, Fr g' L s'.heap m ∧ Below A₀ base outer g' ∧ News g' L s'.heap ((e, { oe with data := .fields vs }) :: news) ∧ KtsDicts (outer.filterMap (·.frame)) g'
noncomputable def ClassAt (prog : Program) (w : World) (KF : Frag) (p : Program) (loose : List Str) (mg mb : Str → Option Value) (env : Env) (L : Addr) (t : PySem.Expr) (c : Value) : Prop :=
  ∀ (A : Around) (E : Value → Shared → Prop) (Q : Value → Shared → Prop) (s : Shared) (g : Heap) (m : Str → Option Value), Fr g L s.heap m → KF.In g → TopRead p loose mg mb g → Q c s → wpAny (model prog w) A (eval t env) Q E s
noncomputable def T52 {cls c : Value} {t : PySem.Expr} {n : Str} {b₀ : Stmt} {suite : List Stmt} {pos : Pos} {rest : List ExceptHandler} : Prop := ∀ (hf : env.frame = some L) (hL : env.locals = L) (K : Below A₀ base outer g) (F : Fr g L G m) (R : RaisedX base G (env :: outer) e oe news s'.heap) (hsm : G.UpToSlots s'.heap) (D : KtsDicts (outer.filterMap (·.frame)) g) (XB : KF.In base) (TB : Top p loose mean mg mb base) (ct : ClassAt prog w KF p loose mg mb env L t c) (hc : oe.cls = cls) (hx : exmOne KF cls c = some true) (hk : env.scope.kind = .function) (hn : env.kindOf n = some .local) (k : ∀ h' g' vs tk, Fr g' L h' (fun y => if y = n then some (.ref e) else m y) → News g' L h' ((e, { oe with data := .fields vs }) :: news) → Below A₀ base outer g' → KF.In g' → Top p loose mean mg mb g' → KtsDicts (outer.filterMap (·.frame)) g' →
      wpAny (model prog w) (A.mark (some (.ref e))) (execs (b₀ :: suite) env)
        (fun f s₄ => wpAny (model prog w) A (do bindName env n .none; unbindBehindTheSuite env n pos) (fun _ s₅ => Q f s₅) E s₄) (fun _ _ => False) { s' with heap := h', toks := tk }), wpAny (model prog w) A (handleBy (.ref e) env (.ExceptHandler (some t) (some n) (b₀ :: suite) pos :: rest)) Q E s'
noncomputable def T53 {cls c : Value} {t : PySem.Expr} {b₀ : Stmt} {suite : List Stmt} {pos : Pos} {rest : List ExceptHandler} : Prop := ∀ (hf : env.frame = some L) (K : Below A₀ base outer g) (F : Fr g L G m) (R : RaisedX base G (env :: outer) e oe news s'.heap) (hsm : G.UpToSlots s'.heap) (D : KtsDicts (outer.filterMap (·.frame)) g) (XB : KF.In base) (TB : Top p loose mean mg mb base) (ct : ClassAt prog w KF p loose mg mb env L t c) (hm : ∀ {M : Model} {h : Heap}, KF.In h → Looks M h (typeOf (.ref e)) oe.cls → Looks M h (excMatches (.ref e) c) true) (k : ∀ s'' : Shared, Kept base s' s'' → wpAny (model prog w) (A.mark (some (.ref e))) (execs (b₀ :: suite) env) Q (fun _ _ => False) s''), wpAny (model prog w) A (handleBy (.ref e) env (.ExceptHandler (some t) none (b₀ :: suite) pos :: rest)) Q E s'
end
section
open PySem.Calls
variable {prog : Program} {w : World} {A A₀ : Around} {s : Shared} {K : Frag} {L : Addr} {h₀ base : Heap} {m mg mb : Str → Option Value} {news : Led} {p : Program} {loose : List Str} {mean : ExcName → Option Value}
noncomputable def T54 {env : Env} {outer : List Env} {R : Result → Shared → Prop} {name qual : Str} {params : Arguments} {body : List Stmt} {scope : Scope} {dV kV doc pm cdv ct oc : Value} {an od : Option Addr} {osl : Array (Option Value)} {f : Addr} {args : Args} {binds : List (Str × Value)} : Prop := ∀ (B : Below A₀ base outer h₀) (F : Fr h₀ L s.heap m) (X₀ : K.In h₀) (N : News h₀ L s.heap news) (T : Top p loose mean mg mb h₀) (hA : A.frames = some (env :: outer)) (hf : env.frame = some L) (hke : env.scope.kind = .function) (D : KtsDicts (outer.filterMap (·.frame)) h₀) (ho : K.lookup f = some ⟨oc, od, .func (fnOf name qual params body scope dV kV doc pm an cdv ct), osl⟩) (hcd : codeIn K cdv qual = true) (hroom : A.depth < recursionLimit) (hbind : BindsTo s (fnOf name qual params body scope dV kV doc pm an cdv ct) args binds) (hkind : (binds.all fun y => scope.names.lookup y.1 == some .local || scope.names.lookup y.1 == some .cell) = true) (hnd : ((cellsFrom 0 scope.names []).map (·.1)).Nodup) (h : ∀ g L' h₁ tk cells, Fr h₀ L g m → Fr g L' h₁ (bindL (envOfC qual scope L' f cdv).kindOf binds fun _ => none) → News g L' h₁ (cells ++ news) →
      CellsAre (bindC (envOfC qual scope L' f cdv).kindOf binds fun _ => none) (cellsFrom (L' + 1) scope.names []) cells → Below A base (env :: outer) g → K.In g → Top p loose mean mg mb g → (∀ p ∈ news, p.1 < L') → KtsDicts ((env :: outer).filterMap (·.frame)) g →
      wpAny (model prog w) (A.deeper (envOfC qual scope L' f cdv)) (execs body (envOfC qual scope L' f cdv))
        (fun fl s' => R (.ok (.ret (match fl with | .ret v => v | _ => .none))) s') (fun _ _ => False) { s with heap := h₁, toks := tk }) (hco : scope.isCoroutine = false) (hgen : scope.isGenerator = false) (hk : scope.kind = .function), codeAny (model prog w) A (.call (.ref f) args) R s
end
end
section -- W3
inductive KeysAre (led : Led) : List Value → List (Int × Int) → Prop
  | nil : KeysAre led [] []
  | cons {a : Addr} {i d : Int} {t u : Tok} {n : Nat} {vs : List Value} {ks : List (Int × Int)} : (a, ({ cls := .type "tuple", data := .seq #[.int i t, .int d u] n } : Obj)) ∈ led → 0 ≤ i ∧ i < 3 → KeysAre led vs ks → KeysAre led (.ref a :: vs) ((i, d) :: ks)
noncomputable def cmpK : List (Int × Int) → List Int → List Int → Int
  | [], _, _ => 0
  | (i, d) :: r, xs, ys => if xs.getD i.toNat 0 < ys.getD i.toNat 0 then -d else if ys.getD i.toNat 0 < xs.getD i.toNat 0 then d else cmpK r xs ys
end
end
section -- W14
section
variable {Q : Value → Shared → Prop} {cn : Str} {cs : Scope} {a : Addr} {ccd : Value} {cl : List (Str × Addr)}

noncomputable def sumC (c : List (Str × Int)) : Int := (c.map (·.2)).sum
noncomputable def JV (c : List (Str × Int)) (led : Led) : Nat → (Str → Option Value) → Led → Prop := fun i m n => n = led ∧ ∃ t, m (Str.ofString "nc") = some (.int (sumC (c.take i)) t)
noncomputable def T55 {ac : Addr} {oc : Obj} {ckv : List (Str × Value)} {cc : List (Str × Int)} : Prop := ∀ (B : Below A₀ base outer h₀) (F : Fr h₀ L s.heap m) (X : (h0.heap_1 w.params).In h₀) (N : News h₀ L s.heap news) (T : TopX mean mg mb h₀) (hk : cs.kind = .function) (m3 : (ac, oc) ∈ news) (hc : oc.IsDictOf (strKind PG w) ckv) (lc : (ac == sysModules) = false) (hcc : CallersAre ckv cc) (hdp : dp + 8 < recursionLimit) (hun : un + 80 < cLine) (ret : ∀ h' tk' t, Fr h₀ L h' m → News h₀ L h' news → Q (.int (sumC cc) t) { s with heap := h', toks := tk' }), wpAny (model PG w) (ktrTop dp un gd cn cs L a ccd cl outer) (call (.ref 117) [.ref ac]) Q E s
end
end
section -- P2
section
variable {Q : Value → Shared → Prop} {cn : Str} {cs : Scope} {a : Addr} {ccd : Value} {cl : List (Str × Addr)}

noncomputable def T56 {it ax : Addr} {i n : Nat} {its : Array Value} {b0 : Int} {t0 : Tok} {rest : Led} {q0 : Int} : Prop := ∀ (B : Below A₀ base outer h₀) (F : Fr h₀ L s.heap m) (X : (h0.heap_1 w.params).In h₀) (N : News h₀ L s.heap ((it, litObj ax i) :: rest)) (T : TopX mean mg mb h₀) (hk : cs.kind = .function) (hr : ∀ q ∈ rest, q.1 ≠ it) (hm : (ax, W.listOf its n) ∈ rest) (x0 : its[i]? = some (.int b0 t0)) (a0 : Builtin.bitAnd b0 63 = q0) (c0 : Builtin.bitAnd b0 64 = 0) (hdp : dp + 8 < recursionLimit) (hun : un + 80 < cLine) (ret : ∀ h' tk' t, Fr h₀ L h' m → News h₀ L h' ((it, litObj ax (i + 1)) :: rest) → Q (.int q0 t) { s with heap := h', toks := tk' }), wpAny (model PG w) (ktrTop dp un gd cn cs L a ccd cl outer) (call (.ref 68) [.ref it]) Q E s
noncomputable def T57 {it ax : Addr} {i n : Nat} {its : Array Value} {b0 b1 : Int} {t0 t1 : Tok} {rest : Led} {q0 q1 v1 w1 : Int} : Prop := ∀ (B : Below A₀ base outer h₀) (F : Fr h₀ L s.heap m) (X : (h0.heap_1 w.params).In h₀) (N : News h₀ L s.heap ((it, litObj ax i) :: rest)) (T : TopX mean mg mb h₀) (hk : cs.kind = .function) (hr : ∀ q ∈ rest, q.1 ≠ it) (hm : (ax, W.listOf its n) ∈ rest) (x0 : its[i]? = some (.int b0 t0)) (x1 : its[i + 1]? = some (.int b1 t1)) (a0 : Builtin.bitAnd b0 63 = q0) (c0 : Builtin.bitAnd b0 64 = 64) (a1 : Builtin.bitAnd b1 63 = q1) (c1 : Builtin.bitAnd b1 64 = 0) (s0 : q0 * 64 = v1) (z0 : 0 ≤ q0 ∧ q0 < 1000000) (o1 : Builtin.bitOr v1 q1 = w1) (hdp : dp + 8 < recursionLimit) (hun : un + 80 < cLine) (ret : ∀ h' tk' t, Fr h₀ L h' m → News h₀ L h' ((it, litObj ax (i + 2)) :: rest) → Q (.int w1 t) { s with heap := h', toks := tk' }), wpAny (model PG w) (ktrTop dp un gd cn cs L a ccd cl outer) (call (.ref 68) [.ref it]) Q E s
noncomputable def T58 {it ax : Addr} {i n : Nat} {its : Array Value} {b0 b1 b2 : Int} {t0 t1 t2 : Tok} {rest : Led} {q0 q1 q2 v1 w1 v2 w2 : Int} : Prop := ∀ (B : Below A₀ base outer h₀) (F : Fr h₀ L s.heap m) (X : (h0.heap_1 w.params).In h₀) (N : News h₀ L s.heap ((it, litObj ax i) :: rest)) (T : TopX mean mg mb h₀) (hk : cs.kind = .function) (hr : ∀ q ∈ rest, q.1 ≠ it) (hm : (ax, W.listOf its n) ∈ rest) (x0 : its[i]? = some (.int b0 t0)) (x1 : its[i + 1]? = some (.int b1 t1)) (x2 : its[i + 1 + 1]? = some (.int b2 t2)) (a0 : Builtin.bitAnd b0 63 = q0) (c0 : Builtin.bitAnd b0 64 = 64) (a1 : Builtin.bitAnd b1 63 = q1) (c1 : Builtin.bitAnd b1 64 = 64) (a2 : Builtin.bitAnd b2 63 = q2) (c2 : Builtin.bitAnd b2 64 = 0) (s0 : q0 * 64 = v1) (z0 : 0 ≤ q0 ∧ q0 < 1000000) (o1 : Builtin.bitOr v1 q1 = w1) (s1 : w1 * 64 = v2) (z1 : 0 ≤ w1 ∧ w1 < 1000000) (o2 : Builtin.bitOr v2 q2 = w2) (hdp : dp + 8 < recursionLimit) (hun : un + 80 < cLine) (ret : ∀ h' tk' t, Fr h₀ L h' m → News h₀ L h' ((it, litObj ax (i + 3)) :: rest) → Q (.int w2 t) { s with heap := h', toks := tk' }), wpAny (model PG w) (ktrTop dp un gd cn cs L a ccd cl outer) (call (.ref 68) [.ref it]) Q E s
noncomputable def T59 {it ax : Addr} {i n : Nat} {vs : List Value} {ns tl : List Int} {x : Int} {rest : Led} : Prop := ∀ (B : Below A₀ base outer h₀) (F : Fr h₀ L s.heap m) (X : (h0.heap_1 w.params).In h₀) (N : News h₀ L s.heap ((it, litObj ax i) :: rest)) (T : TopX mean mg mb h₀) (hk : cs.kind = .function) (hr : ∀ q ∈ rest, q.1 ≠ it) (hm : (ax, W.listOf vs.toArray n) ∈ rest) (hi : IntsAre vs ns) (hx : 0 ≤ x ∧ x < 262144) (hd : ns.drop i = enc x ++ tl) (hdp : dp + 8 < recursionLimit) (hun : un + 80 < cLine) (ret : ∀ h' tk' t, Fr h₀ L h' m → News h₀ L h' ((it, litObj ax (i + (enc x).length)) :: rest) → Q (.int x t) { s with heap := h', toks := tk' }), wpAny (model PG w) (ktrTop dp un gd cn cs L a ccd cl outer) (call (.ref 68) [.ref it]) Q E s
end
end
section -- W4
section
variable {Q : Value → Shared → Prop} {cn : Str} {cs : Scope} {a : Addr} {ccd : Value} {cl : List (Str × Addr)}

inductive JC (aj al a1 a2 : Addr) (led : Led) (ks : List (Int × Int)) (xs ys : List Int) (i : Nat) (m : Str → Option Value) (n : Led) : Prop
  | mk : n = led → m (Str.ofString "left") = some (.ref a1) → m (Str.ofString "right") = some (.ref a2) → cmpK ks xs ys = cmpK (ks.drop i) xs ys → JC aj al a1 a2 led ks xs ys i m n
noncomputable def T60 {aj Dj al a1 a2 : Addr} {hsh : Int} {tkc : Tok} {vs vx vy : List Value} {ks : List (Int × Int)} {xs ys : List Int} {nl n1 n2 : Nat} : Prop := ∀ (B : Below A₀ base outer h₀) (F : Fr h₀ L s.heap m) (X : (h0.heap_1 w.params).In h₀) (N : News h₀ L s.heap news) (T : TopX mean mg mb h₀) (hk : cs.kind = .function) (mj : (aj, instObj 92 Dj) ∈ news) (mD : (Dj, dictOf [⟨hsh, .str (Str.ofString "comp_select_list") tkc, .ref al⟩] 1) ∈ news) (ml : (al, W.listOf vs.toArray nl) ∈ news) (hks : KeysAre news vs ks) (m1 : (a1, ({ cls := .type "tuple", data := .seq vx.toArray n1 } : Obj)) ∈ news) (hx : IntsAre vx xs) (m2 : (a2, ({ cls := .type "tuple", data := .seq vy.toArray n2 } : Obj)) ∈ news) (hy : IntsAre vy ys) (lx : xs.length = 3) (ly : ys.length = 3) (hdp : dp + 8 < recursionLimit) (hun : un + 80 < cLine) (ret : ∀ h' tk' t, Fr h₀ L h' m → News h₀ L h' news → Q (.int (cmpK ks xs ys) t) { s with heap := h', toks := tk' }), wpAny (model PG w) (ktrTop dp un gd cn cs L a ccd cl outer) (call (.ref 89) [.ref aj, .ref a1, .ref a2]) Q E s
end
end
section -- W5
noncomputable def goB : List Stmt := (nth 25).1
noncomputable def goS : Scope := (nth 25).2.1
noncomputable abbrev envG (L : Addr) : Env := envX (Str.ofString "_law_go") goS L 240 (.ref 239) []
noncomputable abbrev arG (dp un : Nat) (gd : Option (List Code)) (L : Addr) (outer : List Env) : Around := ktrTop dp un gd (Str.ofString "_law_go") goS L 240 (.ref 239) [] outer
noncomputable def forB : Stmt → List Stmt
  | .For _ _ b _ _ => b
  | _ => []
noncomputable def goF (i : Nat) : List Stmt := forB (goB.getD i default)
noncomputable def rowOf (wns : List Int) (k : Int) : List Int := [Int.fmod (wns.getD k.toNat 0) 2, wns.getD k.toNat 0, k]
structure Cx (D : Adr) (keep : Led) (tns wns : List Int) (atab aws arow aj : Addr) : Prop where
  ok : D.Ok
  lt : tns.length = 6
  lw : wns.length = 6
  off : ∀ q ∈ keep, Off4 D q.1
  tab : ∃ tvs nt, (atab, W.listOf (List.toArray tvs) nt) ∈ keep ∧ IntsAre tvs tns
  wts : ∃ wvs nw, (aws, W.listOf (List.toArray wvs) nw) ∈ keep ∧ IntsAre wvs wns
  rows : ∃ vs n, (arow, W.listOf (List.toArray vs) n) ∈ keep ∧ ∀ k : Int, 0 ≤ k ∧ k < 6 → ∃ a vt nt, vs[k.toNat]? = some (.ref a) ∧ (a, ({ cls := .type "tuple", data := .seq (List.toArray vt) nt } : Obj)) ∈ keep ∧ IntsAre vt (rowOf wns k)
  judge : ∃ Dj al hsh tkc vs nl ks, (aj, instObj 92 Dj) ∈ keep ∧ (Dj, dictOf [⟨hsh, .str (Str.ofString "comp_select_list") tkc, .ref al⟩] 1) ∈ keep ∧ (al, W.listOf (List.toArray vs) nl) ∈ keep ∧ KeysAre keep vs ks ∧ (∀ k d, (k, d) ∈ ks → d ≠ 0) ∧ ∃ d, (2, d) ∈ ks
end
section -- W6
section

noncomputable def T61 {D : Adr} {keep led : Led} {tns wns ts hs asked : List Int} {atab aws arow aj : Addr} {p0 p1 : Int} : Prop := ∀ (B : Below A₀ base outer h₀) (F : Fr h₀ L s.heap m) (X : (h0.heap_1 w.params).In h₀) (N : News h₀ L s.heap led) (T : TopX mean mg mb h₀) (C : Cx D keep tns wns atab aws arow aj) (Wk0 : Wk w D keep wns p0 p1 ts hs asked led) (v1 : m (Str.ofString "walk") = some (.ref D.aw)) (v2 : m (Str.ofString "rows") = some (.ref arow)) (v3 : m (Str.ofString "judge") = some (.ref aj)) (hp0 : 0 ≤ p0 ∧ p0 < 6) (hp1 : 0 ≤ p1 ∧ p1 < 6) (hdp : dp + 20 < recursionLimit) (hun : un + 200 < cLine) (r1 : p0 = p1 → ∀ h' tk', Fr h₀ L h' m → News h₀ L h' led → Q .brk { s with heap := h', toks := tk' }) (r2 : p0 ≠ p1 → ∀ h' tk', Fr h₀ L h' m → News h₀ L h' led → Q .next { s with heap := h', toks := tk' }), wpAny (model PG w) (arG dp un gd L outer) (exec ((goF 0).getD 1 default) (envG L)) Q E s
noncomputable def T62 {D : Adr} {keep led : Led} {tns wns ts hs asked : List Int} {atab aws arow aj : Addr} {p0 p1 : Int} : Prop := ∀ (B : Below A₀ base outer h₀) (F : Fr h₀ L s.heap m) (X : (h0.heap_1 w.params).In h₀) (N : News h₀ L s.heap led) (T : TopX mean mg mb h₀) (C : Cx D keep tns wns atab aws arow aj) (Wk0 : Wk w D keep wns p0 p1 ts hs asked led) (v1 : m (Str.ofString "walk") = some (.ref D.aw)) (v2 : m (Str.ofString "rows") = some (.ref arow)) (v3 : m (Str.ofString "judge") = some (.ref aj)) (hp0 : 0 ≤ p0 ∧ p0 < 6) (hp1 : 0 ≤ p1 ∧ p1 < 6) (hdp : dp + 20 < recursionLimit) (hun : un + 200 < cLine) (r1 : p0 = p1 → ∀ h' tk', Fr h₀ L h' m → News h₀ L h' led → Q .brk { s with heap := h', toks := tk' }) (r2 : p0 ≠ p1 → ∀ h' tk', Fr h₀ L h' m → News h₀ L h' led → Q .next { s with heap := h', toks := tk' }), wpAny (model PG w) (arG dp un gd L outer) (exec ((goF 2).getD 0 default) (envG L)) Q E s
noncomputable def T63 {D : Adr} {keep led : Led} {tns wns ts hs asked : List Int} {atab aws arow aj : Addr} {p0 p1 : Int} : Prop := ∀ (B : Below A₀ base outer h₀) (F : Fr h₀ L s.heap m) (X : (h0.heap_1 w.params).In h₀) (N : News h₀ L s.heap led) (T : TopX mean mg mb h₀) (C : Cx D keep tns wns atab aws arow aj) (Wk0 : Wk w D keep wns p0 p1 ts hs asked led) (v1 : m (Str.ofString "walk") = some (.ref D.aw)) (v2 : m (Str.ofString "rows") = some (.ref arow)) (v3 : m (Str.ofString "judge") = some (.ref aj)) (hp0 : 0 ≤ p0 ∧ p0 < 6) (hp1 : 0 ≤ p1 ∧ p1 < 6) (hdp : dp + 20 < recursionLimit) (hun : un + 200 < cLine) (r1 : p0 = p1 → ∀ h' tk', Fr h₀ L h' m → News h₀ L h' led → Q .brk { s with heap := h', toks := tk' }) (r2 : p0 ≠ p1 → ∀ h' tk', Fr h₀ L h' m → News h₀ L h' led → Q .next { s with heap := h', toks := tk' }), wpAny (model PG w) (arG dp un gd L outer) (exec ((goF 3).getD 1 default) (envG L)) Q E s
end
end
section
section -- X3
section
variable {Q : Value → Shared → Prop} {cn : Str} {cs : Scope} {a : Addr} {ccd : Value} {cl : List (Str × Addr)}

noncomputable def waysS (ns : List Int) : List Int := if 1 < ns.length then ns.take ((ns.length - 1) / 2 + 1) else []
noncomputable def waysA (ns : List Int) : Int := if 1 < ns.length then ns.getD ((ns.length - 1) / 2 + 1) 0 else ns.getD 0 0
noncomputable def Three (T : Addr) (ls lf ll : Addr) (ws wf wl : List Value) (news : Led) : Led :=
  (T, Obj.mk (Value.type "tuple") none (Data.seq #[Value.ref ls, Value.ref lf, Value.ref ll]) #[]) :: (ll, W.listOf wl.toArray 0) :: (lf, W.listOf wf.toArray 0) :: (ls, W.listOf ws.toArray 0) :: news
noncomputable def T64 {ar : Addr} {vs : List Value} {ns : List Int} {nr : Nat} : Prop := ∀ (B : Below A₀ base outer h₀) (F : Fr h₀ L s.heap m) (X : (h0.heap_1 w.params).In h₀) (N : News h₀ L s.heap news) (T : TopX mean mg mb h₀) (hk : cs.kind = .function) (mr : (ar, W.listOf vs.toArray nr) ∈ news) (hi : IntsAre vs ns) (hl : ns.length < 7) (h0 : 0 < ns.length) (hdp : dp + 8 < recursionLimit) (hun : un + 80 < cLine) (ret : ∀ h' tk' T ls lf ll ws wf wl, IntsAre ws (waysS ns) → IntsAre wf (ns.take (ns.length - 1)) → IntsAre wl [waysA ns, ns.getD (ns.length - 1) 0] → Fr h₀ L h' m → News h₀ L h' (Three T ls lf ll ws wf wl news) → Q (.ref T) { s with heap := h', toks := tk' }), wpAny (model PG w) (ktrTop dp un gd cn cs L a ccd cl outer) (call (.ref 245) [.ref ar]) Q E s
end
end
section
section -- X4
section
variable {Q : Value → Shared → Prop} {cn : Str} {cs : Scope} {a : Addr} {ccd : Value} {cl : List (Str × Addr)}

noncomputable def ringP (ns : List Int) (k : Nat) : Bool := decide (ns.getD k 0 ∈ ns.drop (k + 1))
noncomputable def ringK (ns : List Int) (i : Nat) : List Int := ((List.range i).filter (ringP ns)).map Int.ofNat
noncomputable def farR (ns : List Int) (t r : Nat) : List Int := ns.take t ++ (List.replicate 20 ((ns.drop t).take r)).flatten
noncomputable def metR (t r : Nat) : Nat := (if (t + r - 1) / r > 1 then (t + r - 1) / r else 1) * r
noncomputable def T65 {ar : Addr} {vs : List Value} {ns : List Int} {nr : Nat} {t r : Nat} {x₀ : Int} : Prop := ∀ (B : Below A₀ base outer h₀) (F : Fr h₀ L s.heap m) (X : (h0.heap_1 w.params).In h₀) (N : News h₀ L s.heap news) (T : TopX mean mg mb h₀) (hk : cs.kind = .function) (mr : (ar, W.listOf vs.toArray nr) ∈ news) (hi : IntsAre vs ns) (hl : ns.length = 7) (htr : t + r ≤ 6) (hr1 : 1 ≤ r) (hP : ∀ k, k < 6 → (ringP ns k = true ↔ t ≤ k ∧ k + r ≤ 6)) (hx0 : ns[((t : Int)).toNat]? = some x₀) (hj : x₀ ∈ ns.drop ((t : Int) + 1).toNat ∧ ((ns.drop ((t : Int) + 1).toNat).idxOf x₀ : Int) = (r : Int) - 1) (hdp : dp + 8 < recursionLimit) (hun : un + 80 < cLine) (ret : ∀ h' tk' T ls lf ll ws wf wl, IntsAre ws ((farR ns t r).take (metR t r) ++ (farR ns t r).take t) → IntsAre wf ((farR ns t r).take (2 * metR t r + t) ++ ((farR ns t r).drop t).take r) → IntsAre wl [(farR ns t r).getD t 0, (farR ns t r).getD t 0] → Fr h₀ L h' m → News h₀ L h' (Three T ls lf ll ws wf wl news) → Q (.ref T) { s with heap := h', toks := tk' }), wpAny (model PG w) (ktrTop dp un gd cn cs L a ccd cl outer) (call (.ref 245) [.ref ar]) Q E s
end
end
end
end
section
section -- B20
section
variable {Q : Value → Shared → Prop} {cn : Str} {cs : Scope} {a : Addr} {ccd : Value} {cl : List (Str × Addr)}

noncomputable def T66 {b : Bool} {ad aen : Addr} {n0 n1 : Int} {t0 t1 tw u0 u1 : Tok} {nd ne : Nat} {e0 e1 : Str} : Prop := ∀ (B : Below A₀ base outer h₀) (F : Fr h₀ L s.heap m) (X : (h0.heap_1 w.params).In h₀) (N : News h₀ L s.heap news) (T : TopX mean mg mb h₀) (hk : cs.kind = .function) (md : (ad, W.listOf #[.int n0 t0, .int n1 t1] nd) ∈ news) (me : (aen, W.listOf #[.str e0 u0, .str e1 u1] ne) ∈ news) (b0 : 0 ≤ n0 ∧ n0 < 100) (b1 : 0 ≤ n1 ∧ n1 < 100) (z0 : SL e0 2) (z1 : SL e1 2) (hdp : dp + 10 < recursionLimit) (hun : un + 100 < cLine) (ret : ∀ t h' tk', Fr h₀ L h' m → News h₀ L h' news → Q (.str (mailT b n0 n1 e0 e1) t) { s with heap := h', toks := tk' }), wpAny (model PG w) (ktrTop dp un gd cn cs L a ccd cl outer) (call (.ref 228) [.ref ad, .int (cond b 1 0) tw, .ref aen]) Q E s
end
end
section -- B6
section

noncomputable def T67 {b : Bool} {ad : Addr} {ocw ocd : Obj} {d0 d1 turn : Int} {td0 td1 tt t0 : Tok} {nd : Nat} : Prop := ∀ (B : Below A₀ base outer h₀) (F : Fr h₀ L s.heap m) (X : (h0.heap_1 w.params).In h₀) (N : News h₀ L s.heap news) (T : TopX mean mg mb h₀) (hdp : dp + 30 < recursionLimit) (hun : un + 300 < cLine) (v1 : m (Str.ofString "turn") = some (.int turn tt)) (mw : (L + 1, ocw) ∈ news) (hcw : ocw.data = .cell (some (.int (cond b 1 0) t0))) (mc : (L + 1 + 1, ocd) ∈ news) (hcd : ocd.data = .cell (some (.ref ad))) (md : (ad, W.listOf #[.int d0 td0, .int d1 td1] nd) ∈ news) (b0 : 0 ≤ d0 ∧ d0 < 100) (b1 : 0 ≤ d1 ∧ d1 < 100) (g0 : 1 ≤ d0) (g1 : 1 ≤ d1) (ret : ∀ h' tk' t, Fr h₀ L h' (fun y => if y = Str.ofString "sent" then some (.str (dueT b d0 d1) t) else m y) → News h₀ L h' news → Q .next { s with heap := h', toks := tk' }), wpAny (model PG w) (arH dp un gd L outer) (exec (hopB.getD 6 default) (envH L)) Q E s
end
end
section -- B7
section

noncomputable def T68 {b : Bool} {ad : Addr} {ocw ocd : Obj} {d0 d1 : Int} {td0 td1 t0 : Tok} {nd : Nat} : Prop := ∀ (B : Below A₀ base outer h₀) (F : Fr h₀ L s.heap m) (X : (h0.heap_1 w.params).In h₀) (N : News h₀ L s.heap news) (T : TopX mean mg mb h₀) (hdp : dp + 30 < recursionLimit) (hun : un + 300 < cLine) (mw : (L + 1, ocw) ∈ news) (hcw : ocw.data = .cell (some (.int (cond b 1 0) t0))) (mc : (L + 1 + 1, ocd) ∈ news) (hcd : ocd.data = .cell (some (.ref ad))) (md : (ad, W.listOf #[.int d0 td0, .int d1 td1] nd) ∈ news) (b0 : 0 ≤ d0 ∧ d0 < 99) (b1 : 0 ≤ d1 ∧ d1 < 99) (ret : ∀ h' tk' t, Fr h₀ L h' (fun y => if y = Str.ofString "due" then some (.str (dueT b d0 d1) t) else m y) → News h₀ L h' news → Q .next { s with heap := h', toks := tk' }), wpAny (model PG w) (arH dp un gd L outer) (exec (hopB.getD 7 default) (envH L)) Q E s
end
end
section -- B9
section

noncomputable def T69 {b : Bool} {aw aat ad ab aas : Addr} {ow : Obj} {d0 d1 : Int} {t : Tok} {gv : Value} {rest : Led} : Prop := ∀ (B : Below A₀ base outer h₀) (F : Fr h₀ L s.heap m) (X : (h0.heap_1 w.params).In h₀) (N : News h₀ L s.heap ((aw, ow) :: rest)) (T : TopX mean mg mb h₀) (hdp : dp + 30 < recursionLimit) (hun : un + 300 < cLine) (v1 : m (Str.ofString "sent") = some (.str (dueT b d0 d1) t)) (v2 : m (Str.ofString "walk") = some (.ref aw)) (hr : ∀ q ∈ rest, q.1 ≠ aw) (hw : ow.IsDictOf (strKind PG w) [(Str.ofString "at", .ref aat), (Str.ofString "dots", .ref ad), (Str.ofString "book", .ref ab), (Str.ofString "asked", .ref aas), (Str.ofString "good", gv)]) (b0 : 0 ≤ d0 ∧ d0 < 100) (b1 : 0 ≤ d1 ∧ d1 < 100) (ret : ∀ h' tk' ad' o' t0 t1 n, Fr h₀ L h' m → News h₀ L h' ((ad', W.listOf #[.int (d0 + cond b 0 1) t0, .int (d1 + cond b 1 0) t1] n) :: (aw, o') :: rest) → PyProof.Rows.LCg.Off1 ad' rest → aw ≠ ad' →
      o'.IsDictOf (strKind PG w) [(Str.ofString "at", .ref aat), (Str.ofString "dots", .ref ad'), (Str.ofString "book", .ref ab), (Str.ofString "asked", .ref aas), (Str.ofString "good", gv)] → Q .next { s with heap := h', toks := tk' }), wpAny (model PG w) (arH dp un gd L outer) (exec (hopB.getD 9 default) (envH L)) Q E s
end
end
section -- W1
section

noncomputable def T70 {b : Bool} {D : Adr} {keep : Led} {tns wns : List Int} {tvs wvs : List Value} {atab aws : Addr} {nt nw : Nat} {p0 p1 x marks : Int} {ts hs asked : List Int} {t0 tm : Tok} {led : Led} {ocd ocw : Obj} {v0 : Option Value} : Prop := ∀ (B : Below A₀ base outer h₀) (F : Fr h₀ L s.heap m) (X : (h0.heap_1 w.params).In h₀) (T : TopX mean mg mb h₀) (N : News h₀ L s.heap ((L + 1 + 1, ocd) :: (L + 1, ocw) :: led)) (lt : ∀ q ∈ led, q.1 < L) (hcd : ocd.data = .cell v0) (hcw : ocw.data = .cell (some (.int (cond b 1 0) t0))) (v1 : m (Str.ofString "walk") = some (.ref D.aw)) (v2 : m (Str.ofString "table") = some (.ref atab)) (v3 : m (Str.ofString "weights") = some (.ref aws)) (v4 : m (Str.ofString "marks") = some (.int marks tm)) (ok : D.Ok) (Wk0 : Wk w D keep wns p0 p1 ts hs asked led) (mt : (atab, W.listOf tvs.toArray nt) ∈ keep) (ht : IntsAre tvs tns) (mwt : (aws, W.listOf wvs.toArray nw) ∈ keep) (hwt : IntsAre wvs wns) (ot : Off4 D atab) (owt : Off4 D aws) (hp : 0 ≤ cond b p1 p0 ∧ cond b p1 p0 < 6) (hx : tns[(cond b p1 p0).toNat]? = some x) (hwx : wns.length = 6) (hlt : Int.fmod x 7 < 6) (hts : ts.length ≤ 60) (hhs : hs.length ≤ 60) (has : asked.length ≤ 60) (hkp : ∀ q ∈ keep, Off4 D q.1) (hdp : dp + 35 < recursionLimit) (hun : un + 350 < cLine) (ret : ∀ led' h' tk' m', Fr h₀ L h' m' → News h₀ L h' led' → Wk w D keep wns (cond b p0 (Int.fmod x 7)) (cond b (Int.fmod x 7) p1) (cond b ts (ts ++ [p0])) (cond b (hs ++ [p1]) hs) (asked ++ [cond b p1 p0]) led' → Q .next { s with heap := h', toks := tk' }), wpAny (model PG w) (arH dp un gd L outer) (execs hopB (envH L)) Q E s
end
end
section -- W2
section
variable {Q : Value → Shared → Prop} {cn : Str} {cs : Scope} {a : Addr} {ccd : Value} {cl : List (Str × Addr)}

noncomputable def T71 {b : Bool} {D : Adr} {keep : Led} {tns wns : List Int} {tvs : List Value} {atab aws : Addr} {nt : Nat} {p0 p1 x marks : Int} {ts hs asked : List Int} {t0 tm : Tok} : Prop := ∀ (B : Below A₀ base outer h₀) (F : Fr h₀ L s.heap m) (X : (h0.heap_1 w.params).In h₀) (N : News h₀ L s.heap news) (T : TopX mean mg mb h₀) (hk : cs.kind = .function) (ok : D.Ok) (Wk0 : Wk w D keep wns p0 p1 ts hs asked news) (mt : (atab, W.listOf tvs.toArray nt) ∈ keep) (ht : IntsAre tvs tns) (ot : Off4 D atab) (hp : 0 ≤ cond b p1 p0 ∧ cond b p1 p0 < 6) (hx : tns[(cond b p1 p0).toNat]? = some x) (hlt : ¬ Int.fmod x 7 < 6) (has : asked.length ≤ 60) (hkp : ∀ q ∈ keep, Off4 D q.1) (hdp : dp + 40 < recursionLimit) (hun : un + 400 < cLine) (exc : ∀ e C D' es n vs sl G led' h' tk', RefIs D.ab (cond b p1 p0) C es → Fr h₀ L G m → RaisedX base G (envX cn cs L a ccd cl :: outer) e ⟨.ref C, some D', .fields vs, sl⟩ ((D', dictOf es n) :: led') h' → G.UpToSlots h' → Wk w D keep wns p0 p1 ts hs (asked ++ [cond b p1 p0]) led' → E (.ref e) { s with heap := h', toks := tk' }), wpAny (model PG w) (ktrTop dp un gd cn cs L a ccd cl outer) (call (.ref 233) [.ref D.aw, .int (cond b 1 0) t0, .ref atab, .ref aws, .int marks tm]) Q E s
end
end
section -- W7
noncomputable def Asked (ts hs asked : List Int) : Prop := asked.length = ts.length + hs.length ∧ ∀ k, asked.count k = ts.count k + hs.count k
noncomputable def Sg (w : World) (D : Adr) (keep : Led) (tns wns : List Int) (s0 : Int) (pre : List Int) (a b : Nat) (led : Led) : Prop :=
  ∃ asked, Wk w D keep wns (orbF tns s0 a) (orbF tns s0 b) (pre ++ orb tns s0 a) (orb tns s0 b) asked led ∧ Asked (pre ++ orb tns s0 a) (orb tns s0 b) asked
noncomputable def Sr (w : World) (D : Adr) (keep : Led) (tns wns : List Int) (s0 : Int) (pre : List Int) (a b : Nat) (p : Int) (led : Led) : Prop :=
  ∃ asked, Wk w D keep wns (orbF tns s0 a) (orbF tns s0 b) (pre ++ orb tns s0 a) (orb tns s0 b) asked led ∧ ∀ k, asked.count k = (pre ++ orb tns s0 a).count k + (orb tns s0 b).count k + (if k = p then 1 else 0)
structure FV (D : Adr) (atab aws arow aj : Addr) (start marks : Int) (tm tst : Tok) (m : Str → Option Value) : Prop where
  walk : m (Str.ofString "walk") = some (.ref D.aw)
  start : m (Str.ofString "start") = some (.int start tst)
  table : m (Str.ofString "table") = some (.ref atab)
  weights : m (Str.ofString "weights") = some (.ref aws)
  marks : m (Str.ofString "marks") = some (.int marks tm)
  rows : m (Str.ofString "rows") = some (.ref arow)
  judge : m (Str.ofString "judge") = some (.ref aj)
noncomputable def aOf (l : Nat) : Nat := if l = 0 then 0 else l / 2 + 1
noncomputable def GoExc (w : World) (D : Adr) (keep : Led) (tns wns : List Int) (s0 : Int) (base : Heap) (outer : List Env) (h₀ : Heap) (L : Addr) (E : Value → Shared → Prop) (s : Shared) : Prop :=
  ∀ l e C D' es n vs sl G led' h' tk' m', Alv tns s0 l → ¬ orbF tns s0 (l + 1) < 6 → RefIs D.ab (orbF tns s0 l) C es → Fr h₀ L G m' → RaisedX base G (envG L :: outer) e ⟨.ref C, some D', .fields vs, sl⟩ ((D', dictOf es n) :: led') h' → G.UpToSlots h' →
    Sr w D keep tns wns s0 [] (aOf l) l (orbF tns s0 l) led' → E (.ref e) { s with heap := h', toks := tk' }
end
section -- M1
section
variable {tns : List Int} {s0 : Int} {t r : Nat}
noncomputable def T72 {k j x : Nat} : Prop := ∀ (h : Ring tns s0 t r) (k1 : 1 ≤ k) (k7 : k ≤ 7) (ke : orbF tns s0 k = orbF tns s0 (2 * k)) (kl : ∀ i, 1 ≤ i → i < k → orbF tns s0 i ≠ orbF tns s0 (2 * i)) (j5 : j ≤ 5) (je : orbF tns s0 j = orbF tns s0 (2 * k + j)) (jl : ∀ i, i < j → orbF tns s0 i ≠ orbF tns s0 (2 * k + i)) (x1 : 1 ≤ x) (x6 : x ≤ 6) (xe : orbF tns s0 j = orbF tns s0 (2 * k + j + x)) (xl : ∀ i, 1 ≤ i → i < x → orbF tns s0 j ≠ orbF tns s0 (2 * k + j + i)), (Mine.farR (orb tns s0 7) t r).take (metR t r) ++ (Mine.farR (orb tns s0 7) t r).take t = orb tns s0 k ++ orb tns s0 j ∧
    (Mine.farR (orb tns s0 7) t r).take (2 * metR t r + t) ++ ((Mine.farR (orb tns s0 7) t r).drop t).take r = orb tns s0 (2 * k + j + x) ∧
    (Mine.farR (orb tns s0 7) t r).getD t 0 = orbF tns s0 j ∧ (Mine.farR (orb tns s0 7) t r).getD t 0 = orbF tns s0 (2 * k + j + x)
end
end
end
section -- W8
section

noncomputable def T73 {c : Bool} {D : Adr} {keep its led : Led} {tns wns pre : List Int} {s0 marks : Int} {a b : Nat} {atab aws arow aj : Addr} {tw tm : Tok} : Prop := ∀ (B : Below A₀ base outer h₀) (F : Fr h₀ L s.heap m) (X : (h0.heap_1 w.params).In h₀) (N : News h₀ L s.heap led) (T : TopX mean mg mb h₀) (C : Cx D keep tns wns atab aws arow aj) (Wk0 : Sg w D keep tns wns s0 pre a b led) (hits : ∀ q ∈ its, q ∈ led) (oits : ∀ q ∈ its, Off4 D q.1) (v1 : m (Str.ofString "walk") = some (.ref D.aw)) (v2 : m (Str.ofString "table") = some (.ref atab)) (v3 : m (Str.ofString "weights") = some (.ref aws)) (v4 : m (Str.ofString "marks") = some (.int marks tm)) (v5 : m (Str.ofString "who") = some (.int (cond c 1 0) tw)) (hp : 0 ≤ orbF tns s0 (cond c b a) ∧ orbF tns s0 (cond c b a) < 6) (za : pre.length + a ≤ 30) (zb : b ≤ 30) (hdp : dp + 60 < recursionLimit) (hun : un + 600 < cLine) (ret : orbF tns s0 (cond c b a + 1) < 6 → ∀ led' h' tk', Fr h₀ L h' m → News h₀ L h' led' → Sg w D keep tns wns s0 pre (cond c a (a + 1)) (cond c (b + 1) b) led' → (∀ q ∈ its, q ∈ led') → Q .next { s with heap := h', toks := tk' }) (exc : ¬ orbF tns s0 (cond c b a + 1) < 6 → ∀ e C D' es n vs sl G led' h' tk', RefIs D.ab (orbF tns s0 (cond c b a)) C es → Fr h₀ L G m → RaisedX base G (envG L :: outer) e ⟨.ref C, some D', .fields vs, sl⟩ ((D', dictOf es n) :: led') h' → G.UpToSlots h' → Sr w D keep tns wns s0 pre a b (orbF tns s0 (cond c b a)) led' → E (.ref e) { s with heap := h', toks := tk' }), wpAny (model PG w) (arG dp un gd L outer) (exec ((forB ((goF 0).getD 0 default)).getD 0 default) (envG L)) Q E s
end
end
section -- W9
section

noncomputable def a1 (i k : Nat) : Nat := i + min k 1
noncomputable def b1 (i k : Nat) : Nat := 2 * i + (k - 1)
inductive JI (w : World) (D : Adr) (keep its : Led) (tns wns : List Int) (s0 : Int) (fv : (Str → Option Value) → Prop) (i : Nat) (k : Nat) (m : Str → Option Value) (n : Led) : Prop
  | mk : Sg w D keep tns wns s0 [] (a1 i k) (b1 i k) n → fv m → Alv tns s0 (max (a1 i k) (b1 i k)) → (∀ q ∈ its, q ∈ n) → JI w D keep its tns wns s0 fv i k m n
noncomputable def T74 {D : Adr} {keep its led : Led} {tns wns : List Int} {s0 start marks : Int} {i : Nat} {atab aws arow aj : Addr} {tm tst : Tok} : Prop := ∀ (B : Below A₀ base outer h₀) (F : Fr h₀ L s.heap m) (X : (h0.heap_1 w.params).In h₀) (N : News h₀ L s.heap led) (T : TopX mean mg mb h₀) (C : Cx D keep tns wns atab aws arow aj) (Wk0 : Sg w D keep tns wns s0 [] i (2 * i) led) (hits : ∀ q ∈ its, q ∈ led) (oits : ∀ q ∈ its, Off4 D q.1) (hv : FV D atab aws arow aj start marks tm tst m) (al : Alv tns s0 (2 * i)) (hi : i ≤ 8) (hE : PassesOwn (model PG w) (arG dp un gd L outer) (envG L) E) (hdp : dp + 60 < recursionLimit) (hun : un + 600 < cLine) (ret : ∀ led' h' tk' m', Fr h₀ L h' m' → News h₀ L h' led' → Sg w D keep tns wns s0 [] (i + 1) (2 * i + 2) led' → FV D atab aws arow aj start marks tm tst m' → Alv tns s0 (2 * i + 2) → (∀ q ∈ its, q ∈ led') → Q .next { s with heap := h', toks := tk' }) (exc : GoExc w D keep tns wns s0 base outer h₀ L E s), wpAny (model PG w) (arG dp un gd L outer) (exec ((goF 0).getD 0 default) (envG L)) Q E s
end
end
section -- W10
section

inductive JO (w : World) (D : Adr) (keep : Led) (tns wns : List Int) (s0 : Int) (fv : (Str → Option Value) → Prop) (i : Nat) (m : Str → Option Value) (n : Led) : Prop
  | mk : Sg w D keep tns wns s0 [] i (2 * i) n → fv m → Alv tns s0 (2 * i) → (∀ k, 1 ≤ k → k ≤ i → orbF tns s0 k ≠ orbF tns s0 (2 * k)) → JO w D keep tns wns s0 fv i m n
noncomputable def T75 {D : Adr} {keep led : Led} {tns wns : List Int} {s0 start marks : Int} {atab aws arow aj : Addr} {tm tst : Tok} : Prop := ∀ (B : Below A₀ base outer h₀) (F : Fr h₀ L s.heap m) (X : (h0.heap_1 w.params).In h₀) (N : News h₀ L s.heap led) (T : TopX mean mg mb h₀) (C : Cx D keep tns wns atab aws arow aj) (Wk0 : Sg w D keep tns wns s0 [] 0 0 led) (hv : FV D atab aws arow aj start marks tm tst m) (al : Alv tns s0 0) (hE : PassesOwn (model PG w) (arG dp un gd L outer) (envG L) E) (hdp : dp + 60 < recursionLimit) (hun : un + 600 < cLine) (ret : ∀ k led' h' tk' m', 1 ≤ k → k ≤ 7 → orbF tns s0 k = orbF tns s0 (2 * k) → (∀ i, 1 ≤ i → i < k → orbF tns s0 i ≠ orbF tns s0 (2 * i)) → Alv tns s0 (2 * k) → Fr h₀ L h' m' → News h₀ L h' led' → Sg w D keep tns wns s0 [] k (2 * k) led' → FV D atab aws arow aj start marks tm tst m' → Q .next { s with heap := h', toks := tk' }) (exc : GoExc w D keep tns wns s0 base outer h₀ L E s), wpAny (model PG w) (arG dp un gd L outer) (exec (goB.getD 0 default) (envG L)) Q E s
end
end
section -- W11
section

noncomputable def T76 {D : Adr} {keep led : Led} {tns wns : List Int} {s0 marks : Int} {a b : Nat} {atab aws arow aj : Addr} {tm tst : Tok} : Prop := ∀ (B : Below A₀ base outer h₀) (F : Fr h₀ L s.heap m) (X : (h0.heap_1 w.params).In h₀) (N : News h₀ L s.heap led) (T : TopX mean mg mb h₀) (C : Cx D keep tns wns atab aws arow aj) (Wk0 : Sg w D keep tns wns s0 [] a b led) (hv : FV D atab aws arow aj s0 marks tm tst m) (ret : ∀ led' h' tk', Fr h₀ L h' m → News h₀ L h' led' → Sg w D keep tns wns s0 (orb tns s0 a) 0 b led' → Q .next { s with heap := h', toks := tk' }), wpAny (model PG w) (arG dp un gd L outer) (exec (goB.getD 1 default) (envG L)) Q E s
end
end
section -- W12
section

inductive J2O (w : World) (D : Adr) (keep : Led) (tns wns : List Int) (s0 : Int) (fv : (Str → Option Value) → Prop) (k : Nat) (i : Nat) (m : Str → Option Value) (n : Led) : Prop
  | mk : Sg w D keep tns wns s0 (orb tns s0 k) i (2 * k + i) n → fv m → (∀ j, j < i → orbF tns s0 j ≠ orbF tns s0 (2 * k + j)) → J2O w D keep tns wns s0 fv k i m n
noncomputable def T77 {D : Adr} {keep led : Led} {tns wns : List Int} {s0 start marks : Int} {k : Nat} {atab aws arow aj : Addr} {tm tst : Tok} : Prop := ∀ (B : Below A₀ base outer h₀) (F : Fr h₀ L s.heap m) (X : (h0.heap_1 w.params).In h₀) (N : News h₀ L s.heap led) (T : TopX mean mg mb h₀) (C : Cx D keep tns wns atab aws arow aj) (Wk0 : Sg w D keep tns wns s0 (orb tns s0 k) 0 (2 * k) led) (hv : FV D atab aws arow aj start marks tm tst m) (al : ∀ n, Alv tns s0 n) (hk1 : 1 ≤ k) (hk7 : k ≤ 7) (hke : orbF tns s0 k = orbF tns s0 (2 * k)) (hE : PassesOwn (model PG w) (arG dp un gd L outer) (envG L) E) (hdp : dp + 60 < recursionLimit) (hun : un + 600 < cLine) (ret : ∀ j led' h' tk' m', j ≤ 5 → orbF tns s0 j = orbF tns s0 (2 * k + j) → (∀ i, i < j → orbF tns s0 i ≠ orbF tns s0 (2 * k + i)) → Fr h₀ L h' m' → News h₀ L h' led' → Sg w D keep tns wns s0 (orb tns s0 k) j (2 * k + j) led' → FV D atab aws arow aj start marks tm tst m' → Q .next { s with heap := h', toks := tk' }), wpAny (model PG w) (arG dp un gd L outer) (exec (goB.getD 2 default) (envG L)) Q E s
inductive J3O (w : World) (D : Adr) (keep : Led) (tns wns : List Int) (s0 : Int) (fv : (Str → Option Value) → Prop) (k j : Nat) (i : Nat) (m : Str → Option Value) (n : Led) : Prop
  | mk : Sg w D keep tns wns s0 (orb tns s0 k) j (2 * k + j + i) n → fv m → (∀ x, 1 ≤ x → x ≤ i → orbF tns s0 j ≠ orbF tns s0 (2 * k + j + x)) → J3O w D keep tns wns s0 fv k j i m n
noncomputable def T78 {D : Adr} {keep led : Led} {tns wns : List Int} {s0 start marks : Int} {k j : Nat} {atab aws arow aj : Addr} {tm tst : Tok} : Prop := ∀ (B : Below A₀ base outer h₀) (F : Fr h₀ L s.heap m) (X : (h0.heap_1 w.params).In h₀) (N : News h₀ L s.heap led) (T : TopX mean mg mb h₀) (C : Cx D keep tns wns atab aws arow aj) (Wk0 : Sg w D keep tns wns s0 (orb tns s0 k) j (2 * k + j) led) (hv : FV D atab aws arow aj start marks tm tst m) (al : ∀ n, Alv tns s0 n) (hk1 : 1 ≤ k) (hk7 : k ≤ 7) (hke : orbF tns s0 k = orbF tns s0 (2 * k)) (hj5 : j ≤ 5) (hje : orbF tns s0 j = orbF tns s0 (2 * k + j)) (hE : PassesOwn (model PG w) (arG dp un gd L outer) (envG L) E) (hdp : dp + 60 < recursionLimit) (hun : un + 600 < cLine) (ret : ∀ x led' h' tk' m', 1 ≤ x → x ≤ 6 → orbF tns s0 j = orbF tns s0 (2 * k + j + x) → (∀ i, 1 ≤ i → i < x → orbF tns s0 j ≠ orbF tns s0 (2 * k + j + i)) → Fr h₀ L h' m' → News h₀ L h' led' → Sg w D keep tns wns s0 (orb tns s0 k) j (2 * k + j + x) led' → Q .next { s with heap := h', toks := tk' }), wpAny (model PG w) (arG dp un gd L outer) (exec (goB.getD 3 default) (envG L)) Q E s
end
end
section -- V0
noncomputable def runB : List Stmt := (nth 27).1
noncomputable def runS : Scope := (nth 27).2.1
noncomputable def runCl (L : Addr) : List (Str × Addr) := cellsFrom (L + 1) runS.names []
noncomputable abbrev envR (L : Addr) : Env := envX (Str.ofString "_law_run") runS L 250 (.ref 249) (runCl L)
noncomputable abbrev arR (dp un : Nat) (gd : Option (List Code)) (L : Addr) (outer : List Env) : Around := ktrTop dp un gd (Str.ofString "_law_run") runS L 250 (.ref 249) (runCl L) outer
inductive OctsAre (led : Led) : List Value → List Int → Prop
  | nil : OctsAre led [] []
  | cons {a : Addr} {x : Int} {n : Nat} {vo vs : List Value} {xs : List Int} : (a, W.listOf vo.toArray n) ∈ led → IntsAre vo (octs x) → OctsAre led vs xs → OctsAre led (.ref a :: vs) (x :: xs)
inductive TupsAre (led : Led) : List Value → List (List Int) → Prop
  | nil : TupsAre led [] []
  | cons {a : Addr} {n : Nat} {vt vs : List Value} {x : List Int} {xs : List (List Int)} : (a, ({ cls := .type "tuple", data := .seq vt.toArray n } : Obj)) ∈ led → IntsAre vt x → TupsAre led vs xs → TupsAre led (.ref a :: vs) (x :: xs)
noncomputable def NoCell (o : Obj) : Prop := ∀ v, o.data ≠ .cell v
noncomputable def forB6 : List Stmt := forB (runB.getD 6 default)
inductive JdAt (keep : Led) (vj : List Value) (ks : List (Int × Int)) (i : Nat) : Prop
  | mk : ∀ j Dj al hsh tkc vs nl, vj[i]? = some (Value.ref j) → (j, instObj 92 Dj) ∈ keep → (Dj, dictOf [⟨hsh, .str (Str.ofString "comp_select_list") tkc, .ref al⟩] 1) ∈ keep → (al, W.listOf (List.toArray vs) nl) ∈ keep → KeysAre keep vs (ks.take i) → JdAt keep vj ks i
structure Jd (keep : Led) (ak aj : Addr) (ks : List (Int × Int)) : Prop where
  keys : ∃ vk n, (ak, W.listOf (List.toArray vk) n) ∈ keep ∧ KeysAre keep vk ks
  k3 : ks.length = 3
  judges : ∃ vj n, (aj, W.listOf (List.toArray vj) n) ∈ keep ∧ ∀ i : Nat, i < 4 → JdAt keep vj ks i
noncomputable def gapL (xs ys : List Int) : List Int := (List.range 3).map fun k => xs.getD k 0 - ys.getD k 0
noncomputable def cmpL (ks : List (Int × Int)) (gs : List Int) : List Int := ks.filterMap fun p => if gs.getD p.1.toNat 0 ≠ 0 then some (if gs.getD p.1.toNat 0 > 0 then p.2 else -p.2) else none
structure RN (an ak aj : Addr) (p : Int) (tp : Tok) (m : Str → Option Value) : Prop where
  numbers : m (Str.ofString "numbers") = some (.ref an)
  plan : m (Str.ofString "plan") = some (.int p tp)
  keys : m (Str.ofString "keys") = some (.ref ak)
  judges : m (Str.ofString "judges") = some (.ref aj)
noncomputable def ToldIs (p : Int) (its : Array Value) : Prop := ∃ t1 t2 t3, its = #[.int (Int.fmod p 3) t1, .int (550 + p * (if Int.fmod p 3 > 0 then 1 else 0)) t2, .str (if Int.fmod p 3 > 0 then Txt.item (Str.ofString "abcdef") p else Str.ofString "") t3, .bool true]
noncomputable def ClP (P : (Str → Option Value) → Prop) : Prop := ∀ (m : Str → Option Value) (x : Str) (v : Option Value), (x = Str.ofString "one" ∨ x = Str.ofString "other" ∨ x = Str.ofString "many") → P m → P (fun y => if y = x then v else m y)
structure RP (P : (Str → Option Value) → Prop) (an ak aj : Addr) (p : Int) (tp : Tok) (m : Str → Option Value) : Prop where
  rn : RN an ak aj p tp m
  q : P m
end
section -- V3
noncomputable def rowN (tns : List Int) (s0 : Int) : Nat → List Int
  | 0 => [s0]
  | i + 1 => rowN tns s0 i ++ if Int.fmod (tns.getD ((rowN tns s0 i).getD ((rowN tns s0 i).length - 1) 0).toNat 0) 7 < 6 then [Int.fmod (tns.getD ((rowN tns s0 i).getD ((rowN tns s0 i).length - 1) 0).toNat 0) 7] else []
inductive SameV : Value → Value → Prop
  | int (n : Int) (t u : Tok) : SameV (.int n t) (.int n u)
  | str (x : Str) (t u : Tok) : SameV (.str x t) (.str x u)
  | bool (b : Bool) : SameV (.bool b) (.bool b)
noncomputable def SameL (xs ys : Array Value) : Prop := xs.size = ys.size ∧ ∀ (j : Nat) (h1 : j < xs.size) (h2 : j < ys.size), SameV xs[j] ys[j]
noncomputable def T79 {p : Int} {xs ys : Array Value} : Prop := ∀ (h1 : ToldIs p xs) (h2 : ToldIs p ys), SameL xs ys
section
open PySem.Calls
variable {prog : Program} {w : World} {A : Around} {E : Value → Shared → Prop} {s : Shared} {h₀ : Heap} {L : Addr} {m : Str → Option Value} {news : Led}
noncomputable def T80 {l b : Addr} {xs ys : Array Value} {n1 n2 : Nat} {Q : Value → Shared → Prop} : Prop := ∀ (N : News h₀ L s.heap news) (hm : (l, W.listOf xs n1) ∈ news) (hk : (b, W.listOf ys n2) ∈ news) (hsz : xs.size ≠ ys.size) (hu : A.units < cLine) (h : Q (.bool true) s), wpAny (model prog w) A (compareOp .NotEq (.ref l) (.ref b)) Q E s
end
noncomputable def partC (ts hs : List Int) (k : Int) (b : Bool) : List (Str × Int) := if 0 < (cond b hs ts).count k then [(letter b, (((cond b hs ts).count k : Nat) : Int))] else []
noncomputable def callsI (ts hs : List Int) (k : Int) : Nat → List (Str × Int)
  | 0 => []
  | i + 1 => callsI ts hs k i ++ partC ts hs k (decide (1 ≤ i))
structure CallL (led : Led) (ys : List Value) (ps : List (Str × Value)) : Prop where
  len : ys.length = ps.length
  tup : ∀ (j : Nat) (v : Value), ys[j]? = some v → ∃ T t nT x y, v = .ref T ∧ ps[j]? = some (x, y) ∧ (T, ({ cls := .type "tuple", data := .seq #[.str x t, y] nT } : Obj)) ∈ led
noncomputable def T81 {c c' : List (Str × Int)} {nt nh : Nat} : Prop := ∀ (h : CC c nt nh) (h' : CC c' nt nh), c.length = c'.length ∧ ∀ p ∈ c, p ∈ c'
end
section -- V2
section
open PySem.Calls
variable {prog : Program} {w : World} {A : Around} {E : Value → Shared → Prop} {s : Shared} {K : Frag} {x C D L : Addr} {h₀ : Heap} {m : Str → Option Value} {news : Led} {ox : Obj} {od : Obj}
noncomputable def T82 {c : Value} {dep : Int} {tk : Tok} {Q : Fin → Shared → Prop} : Prop := ∀ (X : K.In s.heap) (I : InstAt s.heap x ox D (some od)) (hga : findIn K (.ref D) "__getattribute__" = some (some (.builtin "BaseException.__getattribute__"))) (hgt : findIn K (.ref D) "__getattr__" = some none) (hos : osIn K D = true) (hdct : hasDictIn K D = true) (ha : findIn K (.ref D) "__class__" = some (some (.builtin "object.__class__"))) (hn : specialIn K (.builtin "object.__class__") "__get__" = some (some (.builtin "getset_descriptor.__get__"))) (htk : takesIn K (.builtin "object.__class__") = some true) (hm : mroIn K D (.type "object") = some true) (hty : Looks (model prog w) s.heap (typeOf c) (.type "type")) (his : Looks (model prog w) s.heap (isType c) true) (hne : (Value.ref D == c) = false) (hsub : Looks (model prog w) s.heap (isSubtype (.ref D) c) false) (h : Q (.done (.ret (.bool false))) { s with toks := s.toks + 1 }), wpAny (model prog w) A (Builtin.«isinstance.nested» ⟨[.ref x, c, .int dep tk], []⟩) Q E s
end
end
section
section
section -- U10
inductive EntE (w : World) (led : Led) (x : Value) : Prop
  | mk : ∀ (e c : Addr) (o : Obj) (n : Nat) (t1 t2 t3 t4 : Tok), x = .ref e → (e, ({ cls := .type "tuple", data := .seq #[.int 0 t1, .int 0 t2, .int 0 t3, .int 0 t4, .ref c] n } : Obj)) ∈ led → (c, o) ∈ led → o.IsDictOf (strKind PG w) [] → (c == sysModules) = false → EntE w led x
structure BookL (w : World) (led : Led) (ys : List Value) (ps : List (Int × Value)) (n : Nat) : Prop where
  len : ys.length = n
  keys : ps.map (·.1) = (List.range n).map Int.ofNat
  ent : ∀ p ∈ ps, EntE w led p.2
  tup : ∀ (j : Nat) (v : Value), ys[j]? = some v → ∃ T t nT x, v = .ref T ∧ ps[j]? = some ((j : Int), x) ∧ (T, ({ cls := .type "tuple", data := .seq #[.int (j : Int) t, x] nT } : Obj)) ∈ led
section

noncomputable def T83 {p : Int} {tp : Tok} : Prop := ∀ (B : Below A₀ base outer h₀) (F : Fr h₀ L s.heap m) (X : (h0.heap_1 w.params).In h₀) (N : News h₀ L s.heap news) (T : TopX mean mg mb h₀) (vp : m (Str.ofString "plan") = some (.int p tp)) (hdp : dp + 8 < recursionLimit) (hun : un + 80 < cLine) (ret : ∀ h' tk' at_ ab ob ps ts n1 news', Fr h₀ L h' (fun y => if y = Str.ofString "book" then some (.ref ab) else if y = Str.ofString "start" then some (.int (Int.fmod p 6) ts) else if y = Str.ofString "told" then some (.ref at_) else m y) → News h₀ L h' ((at_, W.listOf #[] n1) :: (ab, ob) :: news') →
      (∀ q ∈ news, q ∈ news') → (∀ q ∈ news', q ∈ news ∨ NoCell q.2) → (∀ q ∈ news', q.1 < ab) → ab < at_ → (ab == sysModules) = false → ob.IsDictOf (intKind PG w) ps → ps.length = 6 → (∀ k : Int, 0 ≤ k → k < 6 → ∃ x, valueAt ps k = some x ∧ EntE w news' x) → Q .next { s with heap := h', toks := tk' }), wpAny (model PG w) (arR dp un gd L outer) (exec (runB.getD 7 default) (envR L)) Q E s
end
end
section -- V4
noncomputable def isC (o : Obj) : Bool := (match o.data with | .cell _ => true | _ => false) || (match o.cls with | .type t => t == "list_iterator" | _ => false)
noncomputable def nc (l : Led) : Led := l.filter fun q => !isC q.2
end
section -- V5
structure S5 (L : Addr) (led : Led) (v1 v2 v3 v4 v5 : Option Value) : Prop where
  c1 : ∃ o, (L + 1, o) ∈ led ∧ o.data = .cell v1
  c2 : ∃ o, (L + 1 + 1, o) ∈ led ∧ o.data = .cell v2
  c3 : ∃ o, (L + 1 + 1 + 1, o) ∈ led ∧ o.data = .cell v3
  c4 : ∃ o, (L + 1 + 1 + 1 + 1, o) ∈ led ∧ o.data = .cell v4
  c5 : ∃ o, (L + 1 + 1 + 1 + 1 + 1, o) ∈ led ∧ o.data = .cell v5
noncomputable def keepD (D : Adr) (l : Led) : Led := wo D.aw (wo D.aat (wo D.ab (wo D.aas l)))
end
section -- U5
section

noncomputable def T84 {aw : Addr} {vw : List Value} {wns : List Int} {nw : Nat} {o1 o4 : Obj} {rest : Led} : Prop := ∀ (B : Below A₀ base outer h₀) (F : Fr h₀ L s.heap m) (X : (h0.heap_1 w.params).In h₀) (N : News h₀ L s.heap ((L + 1 + 1 + 1 + 1, o4) :: rest)) (T : TopX mean mg mb h₀) (hr : ∀ q ∈ rest, q.1 ≠ L + 1 + 1 + 1 + 1) (d4 : o4.data = .cell none) (mc1 : (L + 1, o1) ∈ rest) (d1 : o1.data = .cell (some (.ref aw))) (mw : (aw, W.listOf vw.toArray nw) ∈ rest) (hi : IntsAre vw wns) (hl : wns.length = 6) (hdp : dp + 8 < recursionLimit) (hun : un + 80 < cLine) (ret : ∀ h' tk' a ys n1 o' rest', Fr h₀ L h' m → News h₀ L h' ((a, W.listOf (List.toArray ys) n1) :: (L + 1 + 1 + 1 + 1, o') :: rest') → o'.data = .cell (some (.ref a)) →
      (∀ q ∈ rest, q ∈ rest') → (∀ q ∈ rest', q ∈ rest ∨ NoCell q.2) → TupsAre rest' ys ((List.range 6).map fun k : Nat => rowOf wns (k : Int)) → Q .next { s with heap := h', toks := tk' }), wpAny (model PG w) (arR dp un gd L outer) (exec (runB.getD 5 default) (envR L)) Q E s
end
end
section -- U1
section

noncomputable def T85 {an : Addr} {vs : List Value} {ns : List Int} {nc : Nat} : Prop := ∀ (B : Below A₀ base outer h₀) (F : Fr h₀ L s.heap m) (X : (h0.heap_1 w.params).In h₀) (N : News h₀ L s.heap news) (T : TopX mean mg mb h₀) (mn : (an, W.listOf vs.toArray nc) ∈ news) (hi : IntsAre vs ns) (hl : ns.length = 6) (hb : ∀ n ∈ ns, 0 ≤ n ∧ n < 262143) (vc : m (Str.ofString "numbers") = some (.ref an)) (hdp : dp + 8 < recursionLimit) (hun : un + 80 < cLine) (ret : ∀ h' tk' ao ys n1 news', Fr h₀ L h' (fun y => if y = Str.ofString "octets" then some (.ref ao) else m y) → News h₀ L h' ((ao, W.listOf (List.toArray ys) n1) :: news') →
      (∀ q ∈ news, q ∈ news') → (∀ q ∈ news', q ∈ news ∨ NoCell q.2) → OctsAre news' ys ns → Q .next { s with heap := h', toks := tk' }), wpAny (model PG w) (arR dp un gd L outer) (exec (runB.getD 1 default) (envR L)) Q E s
end
end
section -- U0
section

noncomputable def T86 {ac : Addr} {cv : List Value} {cns : List Int} {nc : Nat} {o1 : Obj} {rest : Led} {p : Int} : Prop := ∀ (B : Below A₀ base outer h₀) (F : Fr h₀ L s.heap m) (X : (h0.heap_1 w.params).In h₀) (N : News h₀ L s.heap ((L + 1, o1) :: rest)) (T : TopX mean mg mb h₀) (hr : ∀ q ∈ rest, q.1 ≠ L + 1) (d1 : o1.data = .cell none) (mc : (ac, W.listOf cv.toArray nc) ∈ rest) (hi : IntsAre cv cns) (hl : cns.length = 7) (hp : cns[(6 : Int).toNat]? = some p) (vc : m (Str.ofString "cells") = some (.ref ac)) (hdp : dp + 8 < recursionLimit) (hun : un + 80 < cLine) (ret : ∀ h' tk' an aw ys zs n1 n2 tp o', Fr h₀ L h' (fun y => if y = Str.ofString "plan" then some (.int p tp) else if y = Str.ofString "numbers" then some (.ref an) else m y) → News h₀ L h' ((aw, W.listOf (List.toArray zs) n1) :: (an, W.listOf (List.toArray ys) n2) :: (L + 1, o') :: rest) →
      o'.data = .cell (some (.ref aw)) → IntsAre ys ((cns.take 6).map fun n => Int.fmod n 262143) → IntsAre zs ((cns.take 6).map fun n => Int.fdiv n 7) → Q .next { s with heap := h', toks := tk' }), wpAny (model PG w) (arR dp un gd L outer) (exec (runB.getD 0 default) (envR L)) Q E s
end
end
section -- U2
section

noncomputable def T87 {an ao : Addr} {vs vo : List Value} {ns : List Int} {nc no : Nat} {o2 : Obj} {rest : Led} : Prop := ∀ (B : Below A₀ base outer h₀) (F : Fr h₀ L s.heap m) (X : (h0.heap_1 w.params).In h₀) (N : News h₀ L s.heap ((L + 1 + 1, o2) :: rest)) (T : TopX mean mg mb h₀) (hr : ∀ q ∈ rest, q.1 ≠ L + 1 + 1) (d2 : o2.data = .cell none) (mn : (an, W.listOf vs.toArray nc) ∈ rest) (hi : IntsAre vs ns) (hl : ns.length = 6) (hb : ∀ n ∈ ns, 0 ≤ n ∧ n < 262143) (v1 : m (Str.ofString "numbers") = some (.ref an)) (mo : (ao, W.listOf vo.toArray no) ∈ rest) (ho : OctsAre rest vo ns) (v2 : m (Str.ofString "octets") = some (.ref ao)) (hdp : dp + 8 < recursionLimit) (hun : un + 80 < cLine) (ret : ∀ h' tk' at_ it ys n1 o', Fr h₀ L h' m → News h₀ L h' ((it, litObj at_ 0) :: (at_, W.listOf (List.toArray ys) n1) :: (L + 1 + 1, o') :: rest) →
      o'.data = .cell (some (.ref it)) → IntsAre ys (ns.flatMap enc) → Q .next { s with heap := h', toks := tk' }), wpAny (model PG w) (arR dp un gd L outer) (exec (runB.getD 2 default) (envR L)) Q E s
end
end
section -- U3
section

noncomputable def T88 {it ax : Addr} {vt : List Value} {ns : List Int} {nt : Nat} {o2 : Obj} {rest : Led} : Prop := ∀ (B : Below A₀ base outer h₀) (F : Fr h₀ L s.heap m) (X : (h0.heap_1 w.params).In h₀) (N : News h₀ L s.heap ((it, litObj ax 0) :: rest)) (T : TopX mean mg mb h₀) (hr : ∀ q ∈ rest, q.1 ≠ it) (mc2 : (L + 1 + 1, o2) ∈ rest) (d2 : o2.data = .cell (some (.ref it))) (hl : ns.length = 6) (hb : ∀ n ∈ ns, 0 ≤ n ∧ n < 262143) (mt : (ax, W.listOf vt.toArray nt) ∈ rest) (hi : IntsAre vt (ns.flatMap enc)) (hdp : dp + 20 < recursionLimit) (hun : un + 120 < cLine) (ret : ∀ h' tk' a ys n1, Fr h₀ L h' (fun y => if y = Str.ofString "table" then some (.ref a) else m y) → News h₀ L h' ((a, W.listOf (List.toArray ys) n1) :: (it, litObj ax (ns.flatMap enc).length) :: rest) →
      IntsAre ys ns → Q .next { s with heap := h', toks := tk' }), wpAny (model PG w) (arR dp un gd L outer) (exec (runB.getD 3 default) (envR L)) Q E s
end
end
section -- U6
section

noncomputable def T89 {a1 a2 ak aj ag : Addr} {o5 : Obj} {vx vy vg : List Value} {xs ys : List Int} {n1 n2 ng : Nat} {ks : List (Int × Int)} {mm : Int} {tm : Tok} : Prop := ∀ (B : Below A₀ base outer h₀) (F : Fr h₀ L s.heap m) (X : (h0.heap_1 w.params).In h₀) (N : News h₀ L s.heap news) (T : TopX mean mg mb h₀) (m1 : (a1, ({ cls := .type "tuple", data := .seq vx.toArray n1 } : Obj)) ∈ news) (hx : IntsAre vx xs) (m2 : (a2, ({ cls := .type "tuple", data := .seq vy.toArray n2 } : Obj)) ∈ news) (hy : IntsAre vy ys) (lx : xs.length = 3) (ly : ys.length = 3) (mg5 : (L + 1 + 1 + 1 + 1 + 1, o5) ∈ news) (d5 : o5.data = .cell (some (.ref ag))) (mg : (ag, W.listOf vg.toArray ng) ∈ news) (hg : IntsAre vg (gapL xs ys)) (v1 : m (Str.ofString "one") = some (.ref a1)) (v2 : m (Str.ofString "other") = some (.ref a2)) (v3 : m (Str.ofString "keys") = some (.ref ak)) (v4 : m (Str.ofString "judges") = some (.ref aj)) (v5 : m (Str.ofString "many") = some (.int mm tm)) (hmm : 0 ≤ mm ∧ mm < 4) (J : Jd news ak aj ks) (hdp : dp + 20 < recursionLimit) (hun : un + 200 < cLine) (ret : ∀ h' tk', Fr h₀ L h' m → News h₀ L h' news → Q .next { s with heap := h', toks := tk' }), wpAny (model PG w) (arR dp un gd L outer) (exec ((forB (forB6.getD 1 default)).getD 0 default) (envR L)) Q E s
end
end
section -- U7
section

noncomputable def T90 {a1 a2 : Addr} {o5 : Obj} {v0 : Option Value} {vx vy : List Value} {xs ys : List Int} {n1 n2 : Nat} {rest : Led} : Prop := ∀ (B : Below A₀ base outer h₀) (F : Fr h₀ L s.heap m) (X : (h0.heap_1 w.params).In h₀) (N : News h₀ L s.heap ((L + 1 + 1 + 1 + 1 + 1, o5) :: rest)) (T : TopX mean mg mb h₀) (hr : ∀ q ∈ rest, q.1 ≠ L + 1 + 1 + 1 + 1 + 1) (d5 : o5.data = .cell v0) (m1 : (a1, ({ cls := .type "tuple", data := .seq vx.toArray n1 } : Obj)) ∈ rest) (hx : IntsAre vx xs) (m2 : (a2, ({ cls := .type "tuple", data := .seq vy.toArray n2 } : Obj)) ∈ rest) (hy : IntsAre vy ys) (lx : xs.length = 3) (ly : ys.length = 3) (v1 : m (Str.ofString "one") = some (.ref a1)) (v2 : m (Str.ofString "other") = some (.ref a2)) (hdp : dp + 20 < recursionLimit) (hun : un + 200 < cLine) (ret : ∀ h' tk' ag vg ng o', Fr h₀ L h' m → News h₀ L h' ((ag, W.listOf (List.toArray vg) ng) :: (L + 1 + 1 + 1 + 1 + 1, o') :: rest) → o'.data = .cell (some (.ref ag)) → IntsAre vg (gapL xs ys) → Q .next { s with heap := h', toks := tk' }), wpAny (model PG w) (arR dp un gd L outer) (exec (forB6.getD 0 default) (envR L)) Q E s
end
end
section -- U8
section

inductive J6i (P : (Str → Option Value) → Prop) (a1 a2 an ak aj : Addr) (p : Int) (tp : Tok) (led : Led) (i9 : Nat) (m : Str → Option Value) (n : Led) : Prop
  | mk : n = led → RP P an ak aj p tp m → m (Str.ofString "one") = some (.ref a1) → m (Str.ofString "other") = some (.ref a2) → J6i P a1 a2 an ak aj p tp led i9 m n
noncomputable def T91 {P : (Str → Option Value) → Prop} {a1 a2 ak aj ag an : Addr} {o5 : Obj} {vx vy vg : List Value} {xs ys : List Int} {n1 n2 ng : Nat} {ks : List (Int × Int)} {p x2 y2 : Int} {tp : Tok} : Prop := ∀ (B : Below A₀ base outer h₀) (F : Fr h₀ L s.heap m) (X : (h0.heap_1 w.params).In h₀) (N : News h₀ L s.heap news) (T : TopX mean mg mb h₀) (m1 : (a1, ({ cls := .type "tuple", data := .seq vx.toArray n1 } : Obj)) ∈ news) (hx : IntsAre vx xs) (m2 : (a2, ({ cls := .type "tuple", data := .seq vy.toArray n2 } : Obj)) ∈ news) (hy : IntsAre vy ys) (lx : xs.length = 3) (ly : ys.length = 3) (ex : xs[(2 : Int).toNat]? = some x2) (ey : ys[(2 : Int).toNat]? = some y2) (mg5 : (L + 1 + 1 + 1 + 1 + 1, o5) ∈ news) (d5 : o5.data = .cell (some (.ref ag))) (mg : (ag, W.listOf vg.toArray ng) ∈ news) (hg : IntsAre vg (gapL xs ys)) (v1 : m (Str.ofString "one") = some (.ref a1)) (v2 : m (Str.ofString "other") = some (.ref a2)) (V : RP P an ak aj p tp m) (J : Jd news ak aj ks) (hP : ClP P) (hE : PassesOwn (model PG w) (arR dp un gd L outer) (envR L) E) (hdp : dp + 20 < recursionLimit) (hun : un + 200 < cLine) (ret : ∀ h' tk' m', Fr h₀ L h' m' → News h₀ L h' news → RP P an ak aj p tp m' → Q .next { s with heap := h', toks := tk' }), wpAny (model PG w) (arR dp un gd L outer) (exec (forB6.getD 1 default) (envR L)) Q E s
end
end
section -- U9
inductive PairV (led : Led) (wns : List Int) (v : Value) : Prop
  | mk : ∀ (T a b : Addr) (n n1 n2 : Nat) (v1 v2 : List Value) (p q : Nat), v = .ref T → (T, ({ cls := .type "tuple", data := .seq #[.ref a, .ref b] n } : Obj)) ∈ led → (a, ({ cls := .type "tuple", data := .seq v1.toArray n1 } : Obj)) ∈ led → IntsAre v1 (rowOf wns p) → (b, ({ cls := .type "tuple", data := .seq v2.toArray n2 } : Obj)) ∈ led → IntsAre v2 (rowOf wns q) → PairV led wns v
structure JP (c5 : Addr) (o5 : Obj) (rest : Led) (wns : List Int) (n : Nat) (ys : List Value) (rr : Led) : Prop where
  sub : ∀ q ∈ rest, q ∈ rr
  ne : ∀ q ∈ rr, q.1 ≠ c5
  len : ys.length = n
  pairs : ∀ v ∈ ys, PairV rr wns v
inductive J6 (P : (Str → Option Value) → Prop) (an ak aj : Addr) (p : Int) (tp : Tok) (c5 : Addr) (led : Led) (i9 : Nat) (m : Str → Option Value) (n : Led) : Prop
  | mk : RP P an ak aj p tp m → ∀ o5 v', n = (c5, o5) :: led → o5.data = .cell v' → J6 P an ak aj p tp c5 led i9 m n
section

noncomputable def T92 {P : (Str → Option Value) → Prop} {ar ak aj an : Addr} {o4 o5 : Obj} {v0 : Option Value} {vr : List Value} {wns : List Int} {nr : Nat} {ks : List (Int × Int)} {p : Int} {tp : Tok} {rest : Led} : Prop := ∀ (B : Below A₀ base outer h₀) (F : Fr h₀ L s.heap m) (X : (h0.heap_1 w.params).In h₀) (N : News h₀ L s.heap ((L + 1 + 1 + 1 + 1 + 1, o5) :: rest)) (T : TopX mean mg mb h₀) (hr : ∀ q ∈ rest, q.1 ≠ L + 1 + 1 + 1 + 1 + 1) (d5 : o5.data = .cell v0) (mc4 : (L + 1 + 1 + 1 + 1, o4) ∈ rest) (d4 : o4.data = .cell (some (.ref ar))) (mr : (ar, W.listOf vr.toArray nr) ∈ rest) (hv : TupsAre rest vr ((List.range 6).map fun k : Nat => rowOf wns (k : Int))) (V : RP P an ak aj p tp m) (J : Jd rest ak aj ks) (hP : ClP P) (hE : PassesOwn (model PG w) (arR dp un gd L outer) (envR L) E) (hdp : dp + 20 < recursionLimit) (hun : un + 200 < cLine) (ret : ∀ h' tk' m' o' v', Fr h₀ L h' m' → News h₀ L h' ((L + 1 + 1 + 1 + 1 + 1, o') :: rest) → o'.data = .cell v' → RP P an ak aj p tp m' → Q .next { s with heap := h', toks := tk' }), wpAny (model PG w) (arR dp un gd L outer) (exec (runB.getD 6 default) (envR L)) Q E s
end
end
section -- U11
section

noncomputable def T93 {ab : Addr} {st : Int} {ts : Tok} : Prop := ∀ (B : Below A₀ base outer h₀) (F : Fr h₀ L s.heap m) (X : (h0.heap_1 w.params).In h₀) (N : News h₀ L s.heap news) (T : TopX mean mg mb h₀) (v1 : m (Str.ofString "start") = some (.int st ts)) (v2 : m (Str.ofString "book") = some (.ref ab)) (hdp : dp + 8 < recursionLimit) (hun : un + 80 < cLine) (ret : ∀ h' tk' aw aat ad aas ow t1 t2, Fr h₀ L h' (fun y => if y = Str.ofString "walk" then some (.ref aw) else m y) → News h₀ L h' ((aas, W.listOf #[] 0) :: (ad, W.listOf #[.int 1 t1, .int 1 t2] 0) :: (aat, W.listOf #[.int st ts, .int st ts] 0) :: (aw, ow) :: news) →
      (aw == sysModules) = false → ow.IsDictOf (strKind PG w) (walkKv ⟨aw, aat, ab, aas⟩ ad) → AllLt aw news → @LT.lt Nat _ aw aat → @LT.lt Nat _ aat ad → @LT.lt Nat _ ad aas → Q .next { s with heap := h', toks := tk' }), wpAny (model PG w) (arR dp un gd L outer) (exec (runB.getD 8 default) (envR L)) Q E s
end
end
section -- U12
section

noncomputable def tryB : Stmt → List Stmt
  | .Try b _ _ _ _ => b
  | _ => []
noncomputable def tryH : Stmt → List ExceptHandler
  | .Try _ h _ _ _ => h
  | _ => []
noncomputable def hBody : ExceptHandler → List Stmt
  | .ExceptHandler _ _ b _ => b
noncomputable def s1 : List Stmt := hBody ((tryH (runB.getD 9 default)).getD 0 (.ExceptHandler none none [] default))
noncomputable def s2 : List Stmt := hBody ((tryH (runB.getD 9 default)).getD 1 (.ExceptHandler none none [] default))
noncomputable def T94 {e D1 : Addr} {es : List DictEntry} {n : Nat} {vs : Array Value} {sl : Array (Option Value)} {c : Int} {t1 t2 : Tok} {msg : Str} : Prop := ∀ (B : Below A₀ base outer h₀) (F : Fr h₀ L s.heap m) (X : (h0.heap_1 w.params).In h₀) (N : News h₀ L s.heap news) (T : TopX mean mg mb h₀) (me : (e, (⟨.ref 207, some D1, .fields vs, sl⟩ : Obj)) ∈ news) (mD : (D1, dictOf es n) ∈ news) (g1 : getL (Str.ofString "smtp_code") es = some (some (.int c t1))) (g2 : getL (Str.ofString "smtp_error") es = some (some (.str msg t2))) (v1 : m (Str.ofString "refused") = some (.ref e)) (hdp : dp + 8 < recursionLimit) (hun : un + 80 < cLine) (ret : ∀ h' tk' at_ t3, Fr h₀ L h' (fun y => if y = Str.ofString "told" then some (.ref at_) else m y) → News h₀ L h' ((at_, W.listOf #[.int 2 t3, .int c t1, .str msg t2, .bool true] 0) :: news) → Q .next { s with heap := h', toks := tk' }), wpAny (model PG w) ((arR dp un gd L outer).mark (some (.ref e))) (execs s1 (envR L)) Q E s
noncomputable def T95 {e D1 ab : Addr} {es : List DictEntry} {n : Nat} {vs : Array Value} {sl : Array (Option Value)} {c : Int} {t1 t2 : Tok} {msg : Str} : Prop := ∀ (B : Below A₀ base outer h₀) (F : Fr h₀ L s.heap m) (X : (h0.heap_1 w.params).In h₀) (N : News h₀ L s.heap news) (T : TopX mean mg mb h₀) (me : (e, (⟨.ref 176, some D1, .fields vs, sl⟩ : Obj)) ∈ news) (mD : (D1, dictOf es n) ∈ news) (g1 : getL (Str.ofString "smtp_code") es = some (some (.int c t1))) (g2 : getL (Str.ofString "smtp_error") es = some (some (.str msg t2))) (g3 : getL (Str.ofString "sender") es = some (some (.ref ab))) (v1 : m (Str.ofString "refused") = some (.ref e)) (v2 : m (Str.ofString "book") = some (.ref ab)) (hdp : dp + 8 < recursionLimit) (hun : un + 80 < cLine) (ret : ∀ h' tk' at_ t3 m', Fr h₀ L h' m' → (∀ y, m' y = if y = Str.ofString "told" then some (.ref at_) else m y) → News h₀ L h' ((at_, W.listOf #[.int 1 t3, .int c t1, .str msg t2, .bool true] 0) :: news) → Q .next { s with heap := h', toks := tk' }), wpAny (model PG w) ((arR dp un gd L outer).mark (some (.ref e))) (execs s1 (envR L)) Q E s
noncomputable def T96 {e D1 ab : Addr} {es : List DictEntry} {n : Nat} {vs : Array Value} {sl : Array (Option Value)} : Prop := ∀ (B : Below A₀ base outer h₀) (F : Fr h₀ L s.heap m) (X : (h0.heap_1 w.params).In h₀) (N : News h₀ L s.heap news) (T : TopX mean mg mb h₀) (me : (e, (⟨.ref 195, some D1, .fields vs, sl⟩ : Obj)) ∈ news) (mD : (D1, dictOf es n) ∈ news) (g3 : getL (Str.ofString "recipients") es = some (some (.ref ab))) (v1 : m (Str.ofString "refused") = some (.ref e)) (v2 : m (Str.ofString "book") = some (.ref ab)) (hdp : dp + 8 < recursionLimit) (hun : un + 80 < cLine) (ret : ∀ h' tk' at_ t3 t1 t2, Fr h₀ L h' (fun y => if y = Str.ofString "told" then some (.ref at_) else m y) → News h₀ L h' ((at_, W.listOf #[.int 0 t3, .int 550 t1, .str (Str.ofString "") t2, .bool true] 0) :: news) → Q .next { s with heap := h', toks := tk' }), wpAny (model PG w) ((arR dp un gd L outer).mark (some (.ref e))) (execs s2 (envR L)) Q E s
end
end
section -- U13
section

noncomputable def T97 {D : Adr} {keep : Led} {tns wns : List Int} {s0 p : Int} {atab aws arow aj ajl : Addr} {o1 o4 : Obj} {vj : List Value} {nj : Nat} {tst tp : Tok} : Prop := ∀ (B : Below A₀ base outer h₀) (F : Fr h₀ L s.heap m) (X : (h0.heap_1 w.params).In h₀) (N : News h₀ L s.heap news) (T : TopX mean mg mb h₀) (XB : (h0.heap_1 w.params).In base) (TB : TopX mean mg mb base) (KD : KtsDicts (outer.filterMap (·.frame)) h₀) (C : Cx D keep tns wns atab aws arow aj) (Wk0 : Sg w D keep tns wns s0 [] 0 0 news) (hs : 0 ≤ s0 ∧ s0 < 6) (c1 : (L + 1, o1) ∈ keep) (d1 : o1.data = .cell (some (.ref aws))) (c4 : (L + 1 + 1 + 1 + 1, o4) ∈ keep) (d4 : o4.data = .cell (some (.ref arow))) (mj : (ajl, W.listOf vj.toArray nj) ∈ keep) (hj : vj[(3 : Int).toNat]? = some (.ref aj)) (v1 : m (Str.ofString "walk") = some (.ref D.aw)) (v2 : m (Str.ofString "start") = some (.int s0 tst)) (v3 : m (Str.ofString "table") = some (.ref atab)) (v4 : m (Str.ofString "plan") = some (.int p tp)) (v5 : m (Str.ofString "judges") = some (.ref ajl)) (v6 : m (Str.ofString "book") = some (.ref D.ab)) (hdp : dp + 80 < recursionLimit) (hun : un + 800 < cLine) (ret1 : ∀ k j x led' h' tk', 1 ≤ k → k ≤ 7 → orbF tns s0 k = orbF tns s0 (2 * k) → (∀ i, 1 ≤ i → i < k → orbF tns s0 i ≠ orbF tns s0 (2 * i)) → (∀ n, Alv tns s0 n) →
      j ≤ 5 → orbF tns s0 j = orbF tns s0 (2 * k + j) → (∀ i, i < j → orbF tns s0 i ≠ orbF tns s0 (2 * k + i)) → 1 ≤ x → x ≤ 6 → orbF tns s0 j = orbF tns s0 (2 * k + j + x) → (∀ i, 1 ≤ i → i < x → orbF tns s0 j ≠ orbF tns s0 (2 * k + j + i)) →
      Fr h₀ L h' m → News h₀ L h' led' → Sg w D keep tns wns s0 (orb tns s0 k) j (2 * k + j + x) led' → Q .next { s with heap := h', toks := tk' }) (ret2 : ∀ l g' led' h' tk' m' at_ its, Alv tns s0 l → ¬ orbF tns s0 (l + 1) < 6 → Fr g' L h' m' → News g' L h' ((at_, W.listOf its 0) :: led') → Sr w D keep tns wns s0 [] (aOf l) l (orbF tns s0 l) led' →
      Below A₀ base outer g' → (h0.heap_1 w.params).In g' → TopX mean mg mb g' → KtsDicts (outer.filterMap (·.frame)) g' → (∀ y, y ≠ Str.ofString "told" → y ≠ Str.ofString "refused" → m' y = m y) → m' (Str.ofString "told") = some (.ref at_) → ToldIs (orbF tns s0 l) its → Q .next { s with heap := h', toks := tk' }), wpAny (model PG w) (arR dp un gd L outer) (exec (runB.getD 9 default) (envR L)) Q E s
end
end
section -- U14
section

noncomputable def T98 {s0 : Int} {ts : Tok} : Prop := ∀ (B : Below A₀ base outer h₀) (F : Fr h₀ L s.heap m) (X : (h0.heap_1 w.params).In h₀) (N : News h₀ L s.heap news) (T : TopX mean mg mb h₀) (v1 : m (Str.ofString "start") = some (.int s0 ts)) (hdp : dp + 8 < recursionLimit) (hun : un + 80 < cLine) (ret : ∀ h' tk' ar ad m', Fr h₀ L h' m' → (∀ y, y ≠ Str.ofString "row" → y ≠ Str.ofString "due" → m' y = m y) → m' (Str.ofString "row") = some (.ref ar) → m' (Str.ofString "due") = some (.ref ad) → News h₀ L h' ((ad, W.listOf #[] 0) :: (ar, W.listOf #[.int s0 ts] 0) :: news) → Q .next { s with heap := h', toks := tk' }), wpAny (model PG w) (arR dp un gd L outer) (exec (runB.getD 10 default) (envR L)) Q E s
end
end
section -- U15
section

noncomputable def forB11 : List Stmt := forB (runB.getD 11 default)
noncomputable def T99 {ar an : Addr} {vr vn : List Value} {rs tns : List Int} {nr nn : Nat} {p x : Int} : Prop := ∀ (B : Below A₀ base outer h₀) (F : Fr h₀ L s.heap m) (X : (h0.heap_1 w.params).In h₀) (N : News h₀ L s.heap news) (T : TopX mean mg mb h₀) (mr : (ar, W.listOf vr.toArray nr) ∈ news) (ir : IntsAre vr rs) (lr : 0 < rs.length ∧ rs.length ≤ 7) (hp : rs.getD (rs.length - 1) 0 = p) (hp6 : 0 ≤ p ∧ p < 1000) (mn : (an, W.listOf vn.toArray nn) ∈ news) (in_ : IntsAre vn tns) (hx : tns[p.toNat]? = some x) (v1 : m (Str.ofString "row") = some (.ref ar)) (v2 : m (Str.ofString "numbers") = some (.ref an)) (hdp : dp + 8 < recursionLimit) (hun : un + 80 < cLine) (ret : ∀ h' tk' D ws n, Fr h₀ L h' (fun y => if y = Str.ofString "row" then some (.ref D) else m y) → News h₀ L h' ((D, W.listOf (List.toArray ws) n) :: news) → (∀ q ∈ news, q.1 < D) → IntsAre ws (rs ++ if Int.fmod x 7 < 6 then [Int.fmod x 7] else []) → Q .next { s with heap := h', toks := tk' }), wpAny (model PG w) (arR dp un gd L outer) (exec (forB11.getD 0 default) (envR L)) Q E s
inductive J11 (tns : List Int) (s0 : Int) (m0 : Str → Option Value) (led : Led) (i : Nat) (m : Str → Option Value) (n : Led) : Prop
  | mk : (∀ q ∈ led, q ∈ n) → (∀ y, y ≠ Str.ofString "row" → y ≠ Str.ofString "_" → m y = m0 y) → ∀ ar vr nr, (ar, W.listOf (List.toArray vr) nr) ∈ n → IntsAre vr (rowN tns s0 i) → m (Str.ofString "row") = some (.ref ar) → J11 tns s0 m0 led i m n
noncomputable def T100 {ar an : Addr} {vr vn : List Value} {tns : List Int} {nr nn : Nat} {s0 : Int} : Prop := ∀ (B : Below A₀ base outer h₀) (F : Fr h₀ L s.heap m) (X : (h0.heap_1 w.params).In h₀) (N : News h₀ L s.heap news) (T : TopX mean mg mb h₀) (mr : (ar, W.listOf vr.toArray nr) ∈ news) (ir : IntsAre vr [s0]) (h0 : 0 ≤ s0 ∧ s0 < 6) (mn : (an, W.listOf vn.toArray nn) ∈ news) (in_ : IntsAre vn tns) (lt : tns.length = 6) (v1 : m (Str.ofString "row") = some (.ref ar)) (v2 : m (Str.ofString "numbers") = some (.ref an)) (hE : PassesOwn (model PG w) (arR dp un gd L outer) (envR L) E) (hdp : dp + 8 < recursionLimit) (hun : un + 80 < cLine) (ret : ∀ h' tk' m' news' ar' vr' nr', Fr h₀ L h' m' → News h₀ L h' news' → (∀ q ∈ news, q ∈ news') → (∀ y, y ≠ Str.ofString "row" → y ≠ Str.ofString "_" → m' y = m y) → (ar', W.listOf (List.toArray vr') nr') ∈ news' → IntsAre vr' (rowN tns s0 6) → m' (Str.ofString "row") = some (.ref ar') → Q .next { s with heap := h', toks := tk' }), wpAny (model PG w) (arR dp un gd L outer) (exec (runB.getD 11 default) (envR L)) Q E s
end
end
section -- U16
section

noncomputable def WaysC (w : World) (dp un : Nat) (gd : Option (List Code)) (L : Addr) (outer : List Env) (h₀ : Heap) (m : Str → Option Value) (news : Led) (ar : Addr) (S Fs : List Int) (a b : Int) : Prop :=
  ∀ (Q E : Value → Shared → Prop) (s : Shared), Fr h₀ L s.heap m → News h₀ L s.heap news → (∀ h' tk' T ls lf ll ws wf wl, IntsAre ws S → IntsAre wf Fs → IntsAre wl [a, b] → Fr h₀ L h' m → News h₀ L h' (Three T ls lf ll ws wf wl news) → Q (.ref T) { s with heap := h', toks := tk' }) →
    wpAny (model PG w) (arR dp un gd L outer) (call (.ref 245) [.ref ar]) Q E s
end
end
section -- U17
section

noncomputable def T101 {ar : Addr} {vr : List Value} {rs : List Int} {nr : Nat} {p : Int} : Prop := ∀ (B : Below A₀ base outer h₀) (F : Fr h₀ L s.heap m) (X : (h0.heap_1 w.params).In h₀) (N : News h₀ L s.heap news) (T : TopX mean mg mb h₀) (mr : (ar, W.listOf vr.toArray nr) ∈ news) (ir : IntsAre vr rs) (lr : 0 < rs.length ∧ rs.length ≤ 7) (l7 : rs.length < 7) (hp : rs.getD (rs.length - 1) 0 = p) (hp6 : 0 ≤ p ∧ p < 6) (v1 : m (Str.ofString "row") = some (.ref ar)) (hdp : dp + 8 < recursionLimit) (hun : un + 80 < cLine) (ret : ∀ h' tk' ad its, Fr h₀ L h' (fun y => if y = Str.ofString "due" then some (.ref ad) else m y) → News h₀ L h' ((ad, W.listOf its 0) :: news) → ToldIs p its → Q .next { s with heap := h', toks := tk' }), wpAny (model PG w) (arR dp un gd L outer) (exec (runB.getD 13 default) (envR L)) Q E s
end
end
section -- U18
section

noncomputable def T102 {D : Adr} {at_ ad adt als alf all : Addr} {ow : Obj} {its1 its2 : Array Value} {n1 n2 n3 n4 nt ns nf : Nat} {vs vf vl : List Value} {ts hs : List Int} {p0 p1 : Int} {t0 t1 t2 t3 : Tok} : Prop := ∀ (B : Below A₀ base outer h₀) (F : Fr h₀ L s.heap m) (X : (h0.heap_1 w.params).In h₀) (N : News h₀ L s.heap news) (T : TopX mean mg mb h₀) (m1 : (at_, W.listOf its1 n1) ∈ news) (m2 : (ad, W.listOf its2 n2) ∈ news) (hsm : SameL its1 its2) (mw : (D.aw, ow) ∈ news) (hw : ow.IsDictOf (strKind PG w) (walkKv D adt)) (mat : (D.aat, W.listOf #[.int p0 t0, .int p1 t1] n3) ∈ news) (mdt : (adt, W.listOf #[.int (1 + (ts.length : Int)) t2, .int (1 + (hs.length : Int)) t3] n4) ∈ news) (ms : (als, W.listOf vs.toArray ns) ∈ news) (is : IntsAre vs ts) (mf : (alf, W.listOf vf.toArray nf) ∈ news) (if_ : IntsAre vf hs) (ml : (all, W.listOf vl.toArray nt) ∈ news) (il : IntsAre vl [p0, p1]) (zs : ts.length < 1000) (zh : hs.length < 1000) (v1 : m (Str.ofString "told") = some (.ref at_)) (v2 : m (Str.ofString "due") = some (.ref ad)) (v3 : m (Str.ofString "walk") = some (.ref D.aw)) (v4 : m (Str.ofString "last") = some (.ref all)) (v5 : m (Str.ofString "slow") = some (.ref als)) (v6 : m (Str.ofString "fast") = some (.ref alf)) (hdp : dp + 8 < recursionLimit) (hun : un + 200 < cLine) (ret : ∀ h' tk', Fr h₀ L h' m → News h₀ L h' news → Q .next { s with heap := h', toks := tk' }), wpAny (model PG w) (arR dp un gd L outer) (exec (runB.getD 14 default) (envR L)) Q E s
end
end
section -- U19
noncomputable def forB15 : List Stmt := forB (runB.getD 15 default)
inductive WayP (news : Led) (ts hs : List Int) (i : Nat) (x y : Value) : Prop
  | mk : ∀ (b : Bool) (t : Tok) (aw : Addr) (vw : List Value) (nw : Nat) (ns : List Int), i = cond b 1 0 → x = .str (letter b) t → y = .ref aw → (aw, W.listOf vw.toArray nw) ∈ news → IntsAre vw ns → ns = cond b hs ts → WayP news ts hs i x y
section

noncomputable def T103 {als alf : Addr} {vs vf : List Value} {ts hs : List Int} {ns nf : Nat} {o3 : Obj} {k : Int} {tk3 : Tok} : Prop := ∀ (B : Below A₀ base outer h₀) (F : Fr h₀ L s.heap m) (X : (h0.heap_1 w.params).In h₀) (N : News h₀ L s.heap news) (T : TopX mean mg mb h₀) (ms : (als, W.listOf vs.toArray ns) ∈ news) (is : IntsAre vs ts) (mf : (alf, W.listOf vf.toArray nf) ∈ news) (if_ : IntsAre vf hs) (mk : (L + 1 + 1 + 1, o3) ∈ news) (d3 : o3.data = .cell (some (.int k tk3))) (v5 : m (Str.ofString "slow") = some (.ref als)) (v6 : m (Str.ofString "fast") = some (.ref alf)) (hdp : dp + 8 < recursionLimit) (hun : un + 200 < cLine) (ret : ∀ h' tk' dc oc ps, Fr h₀ L h' (fun y => if y = Str.ofString "calls" then some (.ref dc) else m y) → News h₀ L h' ((dc, oc) :: news) → (dc == sysModules) = false → (∀ q ∈ news, q.1 < dc) → oc.IsDictOf (strKind PG w) ps → CallersAre ps (callsI ts hs k 2) → Q .next { s with heap := h', toks := tk' }), wpAny (model PG w) (arR dp un gd L outer) (exec (forB15.getD 0 default) (envR L)) Q E s
end
end
section -- U20
section

noncomputable def T104 {als alf ad : Addr} {vs vf : List Value} {ts hs : List Int} {ns nf nd : Nat} {o3 : Obj} {k : Int} {tk3 : Tok} : Prop := ∀ (B : Below A₀ base outer h₀) (F : Fr h₀ L s.heap m) (X : (h0.heap_1 w.params).In h₀) (N : News h₀ L s.heap news) (T : TopX mean mg mb h₀) (ms : (als, W.listOf vs.toArray ns) ∈ news) (is : IntsAre vs ts) (mf : (alf, W.listOf vf.toArray nf) ∈ news) (if_ : IntsAre vf hs) (mk : (L + 1 + 1 + 1, o3) ∈ news) (d3 : o3.data = .cell (some (.int k tk3))) (md : (ad, W.listOf #[] nd) ∈ news) (v5 : m (Str.ofString "slow") = some (.ref als)) (v6 : m (Str.ofString "fast") = some (.ref alf)) (v7 : m (Str.ofString "due") = some (.ref ad)) (hdp : dp + 8 < recursionLimit) (hun : un + 200 < cLine) (ret : ∀ h' tk' m' t1 t2, Fr h₀ L h' m' → (∀ y, y ≠ Str.ofString "count" → y ≠ Str.ofString "more" → m' y = m y) → m' (Str.ofString "count") = some (.int (((ts.count k : Nat) : Int) + ((hs.count k : Nat) : Int)) t1) → m' (Str.ofString "more") = some (.int 0 t2) → News h₀ L h' news → Q .next { s with heap := h', toks := tk' }), wpAny (model PG w) (arR dp un gd L outer) (exec (forB15.getD 1 default) (envR L)) Q E s
noncomputable def T105 {als alf ad ar : Addr} {vs vf vr : List Value} {ts hs rs : List Int} {ns nf nd nr : Nat} {o3 : Obj} {k p : Int} {tk3 : Tok} {its : Array Value} : Prop := ∀ (B : Below A₀ base outer h₀) (F : Fr h₀ L s.heap m) (X : (h0.heap_1 w.params).In h₀) (N : News h₀ L s.heap news) (T : TopX mean mg mb h₀) (ms : (als, W.listOf vs.toArray ns) ∈ news) (is : IntsAre vs ts) (mf : (alf, W.listOf vf.toArray nf) ∈ news) (if_ : IntsAre vf hs) (mk : (L + 1 + 1 + 1, o3) ∈ news) (d3 : o3.data = .cell (some (.int k tk3))) (md : (ad, W.listOf its nd) ∈ news) (hits : its.size ≠ (#[] : Array Value).size) (mr : (ar, W.listOf vr.toArray nr) ∈ news) (ir : IntsAre vr rs) (lr : 0 < rs.length ∧ rs.length ≤ 7) (hp : rs.getD (rs.length - 1) 0 = p) (v5 : m (Str.ofString "slow") = some (.ref als)) (v6 : m (Str.ofString "fast") = some (.ref alf)) (v7 : m (Str.ofString "due") = some (.ref ad)) (v8 : m (Str.ofString "row") = some (.ref ar)) (hdp : dp + 8 < recursionLimit) (hun : un + 200 < cLine) (ret : ∀ h' tk' m' t1 t2, Fr h₀ L h' m' → (∀ y, y ≠ Str.ofString "count" → y ≠ Str.ofString "more" → m' y = m y) → m' (Str.ofString "count") = some (.int (((ts.count k : Nat) : Int) + ((hs.count k : Nat) : Int)) t1) → m' (Str.ofString "more") = some (.int (if k = p then 1 else 0) t2) → News h₀ L h' news → Q .next { s with heap := h', toks := tk' }), wpAny (model PG w) (arR dp un gd L outer) (exec (forB15.getD 1 default) (envR L)) Q E s
end
end
section -- U22
section

noncomputable def T106 {D : Adr} {adt : Addr} {ow ob o3 oc : Obj} {bkv : List (Int × Value)} {k c1 c2 c3 c4 : Int} {tk3 t1 t2 t3 t4 : Tok} {ae ac : Addr} {ne na : Nat} {ckv : List (Str × Value)} {cc : List (Str × Int)} {avs : List Value} {asked : List Int} : Prop := ∀ (B : Below A₀ base outer h₀) (F : Fr h₀ L s.heap m) (X : (h0.heap_1 w.params).In h₀) (N : News h₀ L s.heap news) (T : TopX mean mg mb h₀) (mk : (L + 1 + 1 + 1, o3) ∈ news) (d3 : o3.data = .cell (some (.int k tk3))) (mw : (D.aw, ow) ∈ news) (hw : ow.IsDictOf (strKind PG w) (walkKv D adt)) (mb : (D.ab, ob) ∈ news) (hb : ob.IsDictOf (intKind PG w) bkv) (hval : valueAt bkv k = some (.ref ae)) (mae : (ae, ({ cls := .type "tuple", data := .seq #[.int c1 t1, .int c2 t2, .int c3 t3, .int c4 t4, .ref ac] ne} : Obj)) ∈ news) (mac : (ac, oc) ∈ news) (hoc : oc.IsDictOf (strKind PG w) ckv) (lac : (ac == sysModules) = false) (hcc : CallersAre ckv cc) (mas : (D.aas, W.listOf avs.toArray na) ∈ news) (ia : IntsAre avs asked) (v1 : m (Str.ofString "book") = some (.ref D.ab)) (v2 : m (Str.ofString "walk") = some (.ref D.aw)) (hdp : dp + 20 < recursionLimit) (hun : un + 200 < cLine) (ret : ∀ h' tk' at_ t5 t6, Fr h₀ L h' (fun y => if y = Str.ofString "told" then some (.ref at_) else m y) → News h₀ L h' ((at_, W.listOf #[.ref ae, .int (sumC cc) t5, .int ((asked.count k : Nat) : Int) t6] 0) :: news) → (∀ q ∈ news, q.1 < at_) → Q .next { s with heap := h', toks := tk' }), wpAny (model PG w) (arR dp un gd L outer) (exec (forB15.getD 2 default) (envR L)) Q E s
end
end
section -- U23
section

noncomputable def T107 {aws at_ dc ae ac : Addr} {o1 o3 oc oc' : Obj} {k c wt : Int} {tk3 tc tm t1 t2 t3 t4 t5 t6 : Tok} {nw ne n1 : Nat} {vw : List Value} {wns : List Int} {ckv ps : List (Str × Value)} {cc cs' : List (Str × Int)} {more : Int} : Prop := ∀ (B : Below A₀ base outer h₀) (F : Fr h₀ L s.heap m) (X : (h0.heap_1 w.params).In h₀) (N : News h₀ L s.heap news) (T : TopX mean mg mb h₀) (mk : (L + 1 + 1 + 1, o3) ∈ news) (d3 : o3.data = .cell (some (.int k tk3))) (mw1 : (L + 1, o1) ∈ news) (d1 : o1.data = .cell (some (.ref aws))) (mw : (aws, W.listOf vw.toArray nw) ∈ news) (iw : IntsAre vw wns) (hk6 : 0 ≤ k ∧ k < 1000) (hwt : wns[k.toNat]? = some wt) (mt : (at_, W.listOf #[.ref ae, .int c t5, .int (c + more) t6] n1) ∈ news) (mae : (ae, ({ cls := .type "tuple", data := .seq #[.int c t1, .int c t2, .int (c * wt) t3, .int (-c * wt) t4, .ref ac] ne} : Obj)) ∈ news) (mac : (ac, oc) ∈ news) (hoc : oc.IsDictOf (strKind PG w) ckv) (lac : (ac == sysModules) = false) (hcc : CallersAre ckv cc) (mdc : (dc, oc') ∈ news) (hdc : oc'.IsDictOf (strKind PG w) ps) (ldc : (dc == sysModules) = false) (hps : CallersAre ps cs') (hne : ac ≠ dc) (hnd : (cs'.map (·.1)).Nodup) (hlen : cc.length = cs'.length) (hsub : ∀ p ∈ cc, p ∈ cs') (hc : -1000 < c ∧ c < 1000) (hc' : -1000 < -c ∧ -c < 1000) (v1 : m (Str.ofString "told") = some (.ref at_)) (v2 : m (Str.ofString "count") = some (.int c tc)) (v3 : m (Str.ofString "more") = some (.int more tm)) (v4 : m (Str.ofString "calls") = some (.ref dc)) (hdp : dp + 20 < recursionLimit) (hun : un + 200 < cLine) (ret : ∀ h' tk', Fr h₀ L h' m → News h₀ L h' news → Q .next { s with heap := h', toks := tk' }), wpAny (model PG w) (arR dp un gd L outer) (exec (forB15.getD 3 default) (envR L)) Q E s
end
end
section -- U24
section

inductive DueM (m : Str → Option Value) (rest : Led) (mo : Int → Int) : Prop
  | mk : ∀ ad its nd, m (Str.ofString "due") = some (.ref ad) → (ad, W.listOf its nd) ∈ rest → ((its = #[] ∧ ∀ k, mo k = 0) ∨ (its.size ≠ (#[] : Array Value).size ∧ ∃ ar vr nr rs p, m (Str.ofString "row") = some (.ref ar) ∧ (ar, W.listOf (List.toArray vr) nr) ∈ rest ∧ IntsAre vr rs ∧ (0 < rs.length ∧ rs.length ≤ 7) ∧ rs.getD (rs.length - 1) 0 = p ∧ ∀ k, mo k = if k = p then 1 else 0)) → DueM m rest mo
structure NV (D : Adr) (als alf : Addr) (m : Str → Option Value) : Prop where
  slow : m (Str.ofString "slow") = some (.ref als)
  fast : m (Str.ofString "fast") = some (.ref alf)
  book : m (Str.ofString "book") = some (.ref D.ab)
  walk : m (Str.ofString "walk") = some (.ref D.aw)
noncomputable def NotL (y : Str) : Prop := y ≠ Str.ofString "calls" ∧ y ≠ Str.ofString "count" ∧ y ≠ Str.ofString "more" ∧ y ≠ Str.ofString "told"
noncomputable def T108 {D : Adr} {keep : Led} {wns : List Int} {p0 p1 k : Int} {ts hs asked : List Int} {als alf aws : Addr} {vs vf vw : List Value} {ns nf nw : Nat} {o1 o3 : Obj} {t3 : Tok} {mo : Int → Int} {rest : Led} : Prop := ∀ (B : Below A₀ base outer h₀) (F : Fr h₀ L s.heap m) (X : (h0.heap_1 w.params).In h₀) (N : News h₀ L s.heap ((L + 1 + 1 + 1, o3) :: rest)) (T : TopX mean mg mb h₀) (d3 : o3.data = .cell (some (.int k t3))) (Wk0 : Wk w D keep wns p0 p1 ts hs asked rest) (hk : 0 ≤ k ∧ k < 6) (lw : wns.length = 6) (hask : ((asked.count k : Nat) : Int) = (((ts.count k : Nat) : Int) + ((hs.count k : Nat) : Int)) + mo k) (V : NV D als alf m) (Du : DueM m rest mo) (ms : (als, W.listOf vs.toArray ns) ∈ rest) (is : IntsAre vs ts) (mf : (alf, W.listOf vf.toArray nf) ∈ rest) (if_ : IntsAre vf hs) (mw1 : (L + 1, o1) ∈ rest) (d1 : o1.data = .cell (some (.ref aws))) (mw : (aws, W.listOf vw.toArray nw) ∈ rest) (iw : IntsAre vw wns) (zs : ts.length < 400) (zh : hs.length < 400) (hdp : dp + 20 < recursionLimit) (hun : un + 200 < cLine) (ret : ∀ h' tk' m', Fr h₀ L h' m' → News h₀ L h' ((L + 1 + 1 + 1, o3) :: rest) → (∀ y, NotL y → m' y = m y) → Q .next { s with heap := h', toks := tk' }), wpAny (model PG w) (arR dp un gd L outer) (execs forB15 (envR L)) Q E s
inductive J15 (c3 : Addr) (m0 : Str → Option Value) (rest : Led) (i9 : Nat) (m : Str → Option Value) (n : Led) : Prop
  | mk : (∀ y, NotL y → m y = m0 y) → ∀ o3 v, n = (c3, o3) :: rest → o3.data = .cell v → J15 c3 m0 rest i9 m n
noncomputable def T109 {D : Adr} {keep : Led} {wns : List Int} {p0 p1 : Int} {ts hs asked : List Int} {als alf aws : Addr} {vs vf vw : List Value} {ns nf nw : Nat} {o1 o3 : Obj} {v3 : Option Value} {mo : Int → Int} {rest : Led} : Prop := ∀ (B : Below A₀ base outer h₀) (F : Fr h₀ L s.heap m) (X : (h0.heap_1 w.params).In h₀) (N : News h₀ L s.heap ((L + 1 + 1 + 1, o3) :: rest)) (T : TopX mean mg mb h₀) (hr : ∀ q ∈ rest, q.1 ≠ L + 1 + 1 + 1) (d3 : o3.data = .cell v3) (Wk0 : Wk w D keep wns p0 p1 ts hs asked rest) (lw : wns.length = 6) (hask : ∀ k, ((asked.count k : Nat) : Int) = (((ts.count k : Nat) : Int) + ((hs.count k : Nat) : Int)) + mo k) (V : NV D als alf m) (Du : DueM m rest mo) (ms : (als, W.listOf vs.toArray ns) ∈ rest) (is : IntsAre vs ts) (mf : (alf, W.listOf vf.toArray nf) ∈ rest) (if_ : IntsAre vf hs) (mw1 : (L + 1, o1) ∈ rest) (d1 : o1.data = .cell (some (.ref aws))) (mw : (aws, W.listOf vw.toArray nw) ∈ rest) (iw : IntsAre vw wns) (zs : ts.length < 400) (zh : hs.length < 400) (hE : PassesOwn (model PG w) (arR dp un gd L outer) (envR L) E) (hdp : dp + 20 < recursionLimit) (hun : un + 200 < cLine) (ret : ∀ h' tk' m', Fr h₀ L h' m' → News h₀ L h' rest → (∀ y, NotL y → m' y = m y) → Q .next { s with heap := h', toks := tk' }), wpAny (model PG w) (arR dp un gd L outer) (exec (runB.getD 15 default) (envR L)) Q E s
end
end
section -- U25
section

structure Kp (L : Addr) (keep : Led) (an aws it ax : Addr) (tns wns : List Int) : Prop where
  c1 : ∃ o1, (L + 1, o1) ∈ keep ∧ o1.data = .cell (some (.ref aws))
  c2 : ∃ o2, (L + 1 + 1, o2) ∈ keep ∧ o2.data = .cell (some (.ref it))
  c3 : ∃ o3 v3, (L + 1 + 1 + 1, o3) ∈ keep ∧ o3.data = .cell v3
  wts : ∃ vw nw, (aws, W.listOf (List.toArray vw) nw) ∈ keep ∧ IntsAre vw wns
  num : ∃ vn nn, (an, W.listOf (List.toArray vn) nn) ∈ keep ∧ IntsAre vn tns
  tape : (it, litObj ax (tns.flatMap enc).length) ∈ keep
  oct : ∃ vt nt, (ax, W.listOf (List.toArray vt) nt) ∈ keep ∧ IntsAre vt (tns.flatMap enc)
  lt : tns.length = 6
  lw : wns.length = 6
noncomputable def RoadB (tns : List Int) (s0 : Int) (its : Array Value) (mo : Int → Int) : Prop :=
  ((rowN tns s0 6).length = 7 ∧ its = #[] ∧ ∀ k, mo k = 0) ∨ ((rowN tns s0 6).length < 7 ∧ ∃ p, (rowN tns s0 6).getD ((rowN tns s0 6).length - 1) 0 = p ∧ ToldIs p its ∧ ∀ k, mo k = if k = p then 1 else 0)
noncomputable def T110 {D : Adr} {keep led : Led} {tns wns : List Int} {s0 p0 p1 : Int} {ts hs asked : List Int} {an aws it ax at_ : Addr} {its : Array Value} {n1 : Nat} {tst : Tok} {mo : Int → Int} : Prop := ∀ (B : Below A₀ base outer h₀) (F : Fr h₀ L s.heap m) (X : (h0.heap_1 w.params).In h₀) (N : News h₀ L s.heap led) (T : TopX mean mg mb h₀) (XB : (h0.heap_1 w.params).In base) (TB : TopX mean mg mb base) (KD : KtsDicts (outer.filterMap (·.frame)) h₀) (Wk0 : Wk w D keep wns p0 p1 ts hs asked led) (K : Kp L keep an aws it ax tns wns) (h0 : 0 ≤ s0 ∧ s0 < 6) (mt : (at_, W.listOf its n1) ∈ led) (hroad : RoadB tns s0 its mo) (hways : ∀ (h' : Heap) (m' : Str → Option Value) (news' : Led) (ar : Addr) (vr : List Value) (nr : Nat), (ar, W.listOf vr.toArray nr) ∈ news' → IntsAre vr (rowN tns s0 6) → WaysC w dp un gd L outer h₀ m' news' ar ts hs p0 p1) (hask : ∀ k, ((asked.count k : Nat) : Int) = (((ts.count k : Nat) : Int) + ((hs.count k : Nat) : Int)) + mo k) (zs : ts.length < 400) (zh : hs.length < 400) (v1 : m (Str.ofString "numbers") = some (.ref an)) (v2 : m (Str.ofString "start") = some (.int s0 tst)) (v3 : m (Str.ofString "walk") = some (.ref D.aw)) (v4 : m (Str.ofString "book") = some (.ref D.ab)) (v5 : m (Str.ofString "told") = some (.ref at_)) (hE : PassesOwn (model PG w) (arR dp un gd L outer) (envR L) E) (hdp : dp + 100 < recursionLimit) (hun : un + 1000 < cLine) (ret : ∀ s', Kept base s s' → Q (.ret (.bool true)) s'), wpAny (model PG w) (arR dp un gd L outer) (execs [runB.getD 10 default, runB.getD 11 default, runB.getD 12 default, runB.getD 13 default, runB.getD 14 default, runB.getD 15 default, runB.getD 16 default, runB.getD 17 default] (envR L)) Q E s
end
end
section -- U27
section

noncomputable def T111 {ac ak aj : Addr} {cv : List Value} {cns : List Int} {nc0 : Nat} {ks : List (Int × Int)} {led : Led} : Prop := ∀ (B : Below A₀ base outer h₀) (F : Fr h₀ L s.heap m) (X : (h0.heap_1 w.params).In h₀) (N : News h₀ L s.heap led) (T : TopX mean mg mb h₀) (XB : (h0.heap_1 w.params).In base) (TB : TopX mean mg mb base) (KD : KtsDicts (outer.filterMap (·.frame)) h₀) (S : S5 L led none none none none none) (mc : (ac, W.listOf cv.toArray nc0) ∈ led) (hi : IntsAre cv cns) (hl : cns.length = 7) (J : Jd led ak aj ks) (hk0 : ∀ k d, (k, d) ∈ ks → d ≠ 0) (hk2 : ∃ d, (2, d) ∈ ks) (vc : m (Str.ofString "cells") = some (.ref ac)) (vk : m (Str.ofString "keys") = some (.ref ak)) (vj : m (Str.ofString "judges") = some (.ref aj)) (hE : PassesOwn (model PG w) (arR dp un gd L outer) (envR L) E) (hdp : dp + 200 < recursionLimit) (hun : un + 2000 < cLine) (ret : ∀ s', Kept base s s' → Q (.ret (.bool true)) s'), wpAny (model PG w) (arR dp un gd L outer) (execs runB (envR L)) Q E s
end
end
section -- U28
noncomputable def lawB : List Stmt := (nth 28).1
noncomputable def lawS : Scope := (nth 28).2.1
noncomputable def lawCl (L : Addr) : List (Str × Addr) := cellsFrom (L + 1) lawS.names []
noncomputable abbrev envW (fa : Addr) (cd : Value) (L : Addr) : Env := envX (Str.ofString "law") lawS L fa cd (lawCl L)
noncomputable abbrev arW (fa : Addr) (cd : Value) (dp un : Nat) (gd : Option (List Code)) (L : Addr) (outer : List Env) : Around := ktrTop dp un gd (Str.ofString "law") lawS L fa cd (lawCl L) outer
section

variable {fa : Addr} {cd : Value}
noncomputable def T112 {scr ao : Addr} {vs yo : List Value} {ns os : List Int} {no : Nat} {oS oO : Obj} {led : Led} : Prop := ∀ (B : Below A₀ base outer h₀) (F : Fr h₀ L s.heap m) (X : (h0.heap_1 w.params).In h₀) (N : News h₀ L s.heap led) (T : TopX mean mg mb h₀) (hL : h₀.IsList scr vs.toArray) (hi : IntsAre vs ns) (hl : ns.length ≤ 63) (mS : (L + 1, oS) ∈ led) (dS : oS.data = .cell (some (.ref scr))) (mO : (L + 1 + 1, oO) ∈ led) (dO : oO.data = .cell (some (.ref ao))) (mo : (ao, W.listOf yo.toArray no) ∈ led) (io : IntsAre yo os) (ol : os.length = 7) (hdp : dp + 8 < recursionLimit) (hun : un + 80 < cLine) (ret : ∀ h' tk' ac cv nc cns, Fr h₀ L h' (fun y => if y = Str.ofString "cells" then some (.ref ac) else m y) → News h₀ L h' ((ac, W.listOf (List.toArray cv) nc) :: led) →
      IntsAre cv cns → cns.length = 7 → Q .next { s with heap := h', toks := tk' }), wpAny (model PG w) (arW fa cd dp un gd L outer) (exec (lawB.getD 1 default) (envW fa cd L)) Q E s
end
end
section -- U30
section

variable {fa : Addr} {cd : Value}
noncomputable def T113 {o1 : Obj} {rest : Led} {n : Int} {tn : Tok} : Prop := ∀ (B : Below A₀ base outer h₀) (F : Fr h₀ L s.heap m) (X : (h0.heap_1 w.params).In h₀) (N : News h₀ L s.heap ((L + 1 + 1 + 1, o1) :: rest)) (T : TopX mean mg mb h₀) (hr : ∀ q ∈ rest, q.1 ≠ L + 1 + 1 + 1) (d1 : o1.data = .cell none) (vt : m (Str.ofString "turns") = some (.int n tn)) (hdp : dp + 8 < recursionLimit) (hun : un + 80 < cLine) (ret : ∀ h' tk' ak vk nk o' led', Fr h₀ L h' m → News h₀ L h' led' → (ak, W.listOf (List.toArray vk) nk) ∈ led' → (L + 1 + 1 + 1, o') ∈ led' → o'.data = .cell (some (.ref ak)) → (∀ q ∈ rest, q ∈ led') →
      KeysAre led' vk [(Int.fmod n 2, 1 - 2 * Int.fmod (Int.fdiv n 2) 2), (1 - Int.fmod n 2, 2 - 4 * Int.fmod (Int.fdiv n 4) 2), (2, 3 - 6 * Int.fmod (Int.fdiv n 8) 2)] → Q .next { s with heap := h', toks := tk' }), wpAny (model PG w) (arW fa cd dp un gd L outer) (exec (lawB.getD 3 default) (envW fa cd L)) Q E s
end
end
section -- U31
section

variable {fa : Addr} {cd : Value}
noncomputable def T114 {ac ak : Addr} {cv vk : List Value} {cns : List Int} {nc nk : Nat} {ks : List (Int × Int)} {oK : Obj} {led : Led} : Prop := ∀ (B : Below A₀ base outer h₀) (F : Fr h₀ L s.heap m) (X : (h0.heap_1 w.params).In h₀) (N : News h₀ L s.heap led) (T : TopX mean mg mb h₀) (XB : (h0.heap_1 w.params).In base) (TB : TopX mean mg mb base) (KD : KtsDicts (outer.filterMap (·.frame)) h₀) (mc : (ac, W.listOf cv.toArray nc) ∈ led) (hi : IntsAre cv cns) (hl : cns.length = 7) (vc : m (Str.ofString "cells") = some (.ref ac)) (mk : (ak, W.listOf vk.toArray nk) ∈ led) (hk : KeysAre led vk ks) (k3 : ks.length = 3) (hk0 : ∀ k d, (k, d) ∈ ks → d ≠ 0) (hk2 : ∃ d, (2, d) ∈ ks) (mK : (L + 1 + 1 + 1, oK) ∈ led) (dK : oK.data = .cell (some (.ref ak))) (hdp : dp + 300 < recursionLimit) (hun : un + 3000 < cLine) (ret : ∀ s', Kept base s s' → Q (.ret (.bool true)) s'), wpAny (model PG w) (arW fa cd dp un gd L outer) (exec (lawB.getD 4 default) (envW fa cd L)) Q E s
end
end
end
end
end
section
open PySem PySem.W PyProof.Rows
noncomputable def PtL : List (Pt → Prop) := Go.at_ (by k_extra "go") @T1 0 :: Go.at_ (by k_extra "go") @T2 0 :: Go.at_ (by k_extra "go") @T3 0 :: Go.at_ (by k_extra "go") @T4 0 :: Go.at_ (by k_extra "go") @T5 0 :: Go.at_ (by k_extra "go") @T6 0 :: Go.at_ (by k_extra "go") @T7 0 :: Go.at_ (by k_extra "go") @T8 0 :: Go.at_ (by k_extra "go") @T9 0 :: Go.at_ (by k_extra "go") @T10 0 :: Go.at_ (by k_extra "go") @T11 0 :: Go.at_ (by k_extra "go") @T12 0 :: Go.at_ (by k_extra "go") @T13 0 :: Go.at_ (by k_extra "go") @T14 0 :: Go.at_ (by k_extra "go") @T15 0 :: Go.at_ (by k_extra "go") @T16 0 :: Go.at_ (by k_extra "go") @T17 0 :: Go.at_ (by k_extra "go") @T18 0 :: Go.at_ (by k_extra "go") @T19 0 :: Go.at_ (by k_extra "go") @T20 0 :: Go.at_ (by k_extra "go") @T21 0 :: Go.at_ (by k_extra "go") @T22 0 :: Go.at_ (by k_extra "go") @T23 0 :: Go.at_ (by k_extra "go") @T24 0 :: Go.at_ (by k_extra "go") @T25 0 :: Go.at_ (by k_extra "go") @T26 0 :: Go.at_ (by k_extra "go") @T27 0 :: Go.at_ (by k_extra "go") @T28 0 :: Go.at_ (by k_extra "go") @T29 0 :: Go.at_ (by k_extra "go") @T30 0 :: Go.at_ (by k_extra "go") @T31 0 :: Go.at_ (by k_extra "go") @T32 0 :: Go.at_ (by k_extra "go") @T33 0 :: Go.at_ (by k_extra "go") @T34 0 :: Go.at_ (by k_extra "go") @T35 0 :: Go.at_ (by k_extra "go") @T36 0 :: Go.at_ (by k_extra "go") @T37 0 :: Go.at_ (by k_extra "go") @T38 0 :: Go.at_ (by k_extra "go") @T39 0 :: Go.at_ (by k_extra "go") @T40 0 :: Go.at_ (by k_extra "go") @T41 0 :: Go.at_ (by k_extra "go") @T42 0 :: Go.at_ (by k_extra "go") @T43 0 :: Go.at_ (by k_extra "go") @T44 0 :: Go.at_ (by k_extra "go") @T45 0 :: Go.at_ (by k_extra "go") @T46 0 :: Go.at_ (by k_extra "go") @T47 0 :: Go.at_ (by k_extra "go") @T48 0 :: Go.at_ (by k_extra "go") @T49 0 :: Go.at_ (by k_extra "go") @T50 0 :: Go.at_ (by k_extra "go") @T51 0 :: Go.at_ (by k_extra "go") @T52 0 :: Go.at_ (by k_extra "go") @T53 0 :: Go.at_ (by k_extra "go") @T54 0 :: Go.at_ (by k_extra "go") @T55 0 :: Go.at_ (by k_extra "go") @T56 0 :: Go.at_ (by k_extra "go") @T57 0 :: Go.at_ (by k_extra "go") @T58 0 :: Go.at_ (by k_extra "go") @T59 0 :: Go.at_ (by k_extra "go") @T60 0 :: Go.at_ (by k_extra "go") @T61 0 :: Go.at_ (by k_extra "go") @T62 0 :: Go.at_ (by k_extra "go") @T63 0 :: Go.at_ (by k_extra "go") @T64 0 :: Go.at_ (by k_extra "go") @T65 0 :: Go.at_ (by k_extra "go") @T66 0 :: Go.at_ (by k_extra "go") @T67 0 :: Go.at_ (by k_extra "go") @T68 0 :: Go.at_ (by k_extra "go") @T69 0 :: Go.at_ (by k_extra "go") @T70 0 :: Go.at_ (by k_extra "go") @T71 0 :: Go.at_ (by k_extra "go") @T72 0 :: Go.at_ (by k_extra "go") @T73 0 :: Go.at_ (by k_extra "go") @T74 0 :: Go.at_ (by k_extra "go") @T75 0 :: Go.at_ (by k_extra "go") @T76 0 :: Go.at_ (by k_extra "go") @T77 0 :: Go.at_ (by k_extra "go") @T78 0 :: Go.at_ (by k_extra "go") @T79 0 :: Go.at_ (by k_extra "go") @T80 0 :: Go.at_ (by k_extra "go") @T81 0 :: Go.at_ (by k_extra "go") @T82 0 :: Go.at_ (by k_extra "go") @T83 0 :: Go.at_ (by k_extra "go") @T84 0 :: Go.at_ (by k_extra "go") @T85 0 :: Go.at_ (by k_extra "go") @T86 0 :: Go.at_ (by k_extra "go") @T87 0 :: Go.at_ (by k_extra "go") @T88 0 :: Go.at_ (by k_extra "go") @T89 0 :: Go.at_ (by k_extra "go") @T90 0 :: Go.at_ (by k_extra "go") @T91 0 :: Go.at_ (by k_extra "go") @T92 0 :: Go.at_ (by k_extra "go") @T93 0 :: Go.at_ (by k_extra "go") @T94 0 :: Go.at_ (by k_extra "go") @T95 0 :: Go.at_ (by k_extra "go") @T96 0 :: Go.at_ (by k_extra "go") @T97 0 :: Go.at_ (by k_extra "go") @T98 0 :: Go.at_ (by k_extra "go") @T99 0 :: Go.at_ (by k_extra "go") @T100 0 :: Go.at_ (by k_extra "go") @T101 0 :: Go.at_ (by k_extra "go") @T102 0 :: Go.at_ (by k_extra "go") @T103 0 :: Go.at_ (by k_extra "go") @T104 0 :: Go.at_ (by k_extra "go") @T105 0 :: Go.at_ (by k_extra "go") @T106 0 :: Go.at_ (by k_extra "go") @T107 0 :: Go.at_ (by k_extra "go") @T108 0 :: Go.at_ (by k_extra "go") @T109 0 :: Go.at_ (by k_extra "go") @T110 0 :: Go.at_ (by k_extra "go") @T111 0 :: Go.at_ (by k_extra "go") @T112 0 :: Go.at_ (by k_extra "go") @T113 0 :: Go.at_ (by k_extra "go") @T114 0 :: []
noncomputable def Up (n : Nat) : Prop := ∀ j P, j < n → PtL[j]? = some P → ∀ y, P y
noncomputable def PtB (y : Pt) : Prop := ∃ n P, PtL[n]? = some P ∧ ¬ P y ∧ Up n
theorem ne_Pt : Nonempty Pt := ⟨fun _ _ i => Classical.choice i⟩
noncomputable def pt0 : Pt := @Classical.epsilon _ ne_Pt PtB
theorem u0 : Up 0 := fun j _ h => absurd h (Nat.not_lt_zero j)
theorem Up.step {n : Nat} {P : Pt → Prop} (h : Up n) (e : PtL[n]? = some P) (hc : P pt0) : Up (n + 1) := by
  intro j Q hj eQ y
  rcases Nat.lt_or_eq_of_le (Nat.le_of_lt_succ hj) with hl | rfl
  · exact h j Q hl eQ y
  · rw [e] at eQ
    cases eQ
    apply Classical.byContradiction
    intro hn
    obtain ⟨n', P', e', b', u'⟩ := @Classical.epsilon_spec _ PtB ⟨y, _, _, e, hn, h⟩
    rcases Nat.lt_trichotomy n' j with hl | rfl | hl
    · exact b' (h n' P' hl e' _)
    · rw [e] at e'
      cases e'
      exact b' hc
    · exact hn (u' j _ hl e y)
theorem Up.get {n : Nat} {α : Type} {g : Go α} {T : α} (h : Up (n + 1)) (e : PtL[n]? = some (g.at_ T 0)) : g.all T := g.law T 0 (h n _ (Nat.lt_succ_self n) e)
end
theorem kw_om : True := by
  k_with "xomega" => (first | (with_reducible refine rl ?hq7 ?bq7; (case hq7 => with_reducible assumption); (case bq7 => decide)) | lia | omega (config := {}))
  trivial
section -- C0
open PySem PySem.W PyProof.Rows
theorem ne_of_allLt {d : Addr} {l : Led} (h : AllLt d l) : ∀ p ∈ l, p.1 ≠ d := by
  induction l with
  | nil => intro p hp; cases hp
  | cons x r ih =>
    have h' : @LT.lt Nat _ x.1 d ∧ AllLt d r := h
    intro p hp
    rcases List.mem_cons.mp hp with e | hp
    · rw [e]; exact Nat.ne_of_lt h'.1
    · exact ih h'.2 p hp
theorem allLt_mem {d : Addr} {l : Led} (h : AllLt d l) : ∀ p ∈ l, p.1 < d := by
  induction l with
  | nil => intro p hp; cases hp
  | cons x r ih =>
    have h' : @LT.lt Nat _ x.1 d ∧ AllLt d r := h
    intro p hp
    rcases List.mem_cons.mp hp with e | hp
    · rw [e]; exact h'.1
    · exact ih h'.2 p hp
theorem ne_of_allLt1 {d : Addr} {l : Led} (h : AllLt d l) : ∀ p ∈ l, p.1 ≠ d + 1 := fun p hp => Nat.ne_of_lt (Nat.lt_succ_of_lt (allLt_mem h p hp))
theorem ne_of_allLt2 {d : Addr} {l : Led} (h : AllLt d l) : ∀ p ∈ l, p.1 ≠ d + 1 + 1 := fun p hp => Nat.ne_of_lt (Nat.lt_succ_of_lt (Nat.lt_succ_of_lt (allLt_mem h p hp)))
theorem news_sub {h₀ h : Heap} {L : Addr} {n n' : Led} (N : News h₀ L h n) (hs : ∀ p ∈ n', p ∈ n) : News h₀ L h n' := fun p hp => N p (hs p hp)
section
variable {prog : Program} {w : World} {A : Around} {E : Value → Shared → Prop} {s : Shared} {h₀ : Heap} {L : Addr} {news : Led}
theorem li_item {value slice : PySem.Expr} {l : Addr} {vs : List Value} {ns : List Int} {n : Nat} {k x : Int} {u : Tok} {Q : Value → Shared → Prop} (N : News h₀ L s.heap news) (hm : (l, W.listOf vs.toArray n) ∈ news)
    (hi : IntsAre vs ns) (h0 : 0 ≤ k ∧ k < 6) (hx : ns[k.toNat]? = some x) (h : ∀ t, Q (.int x t) s)
    (hs : subscripted slice false (.ref l) (.int k u) = operate [.ref l, .int k u] (getItem (.ref l) (.int k u)) := by with_unfolding_all rfl) : wpAny (model prog w) A (subscriptTail value slice (.ref l) (.int k u)) Q E s := by
  obtain ⟨t, ht⟩ := hi.get _ _ hx
  have hL : s.heap.IsList l vs.toArray := N.isList hm
  exact tail_any hL.typeIs slot_list_getitem.lookup (wpAny_getItem_list hL h0.1 (by omega) (by simpa using ht) (h t)) hs
theorem lit_item {value slice : PySem.Expr} {l : Addr} {items : Array Value} {n : Nat} {k : Int} {u : Tok} {v : Value} {Q : Value → Shared → Prop} (N : News h₀ L s.heap news) (hm : (l, W.listOf items n) ∈ news)
    (h0 : 0 ≤ k) (hf : k < 2 ^ 63) (hx : items.toList[k.toNat]? = some v) (h : Q v s)
    (hs : subscripted slice false (.ref l) (.int k u) = operate [.ref l, .int k u] (getItem (.ref l) (.int k u)) := by with_unfolding_all rfl) (hg : ∀ r, letTemporaryGo value (.ref l) r = pure () := by intro _; with_unfolding_all rfl) : wpAny (model prog w) A (subscriptTail value slice (.ref l) (.int k u)) Q E s := by
  have hL : s.heap.IsList l items := N.isList hm
  exact subscriptTail_builtin hL.typeIs slot_list_getitem.lookup (wpAny_getItem_list hL h0 hf (by simpa using hx) h) hs hg
end
theorem fillC (w : World) (h : Heap) : (h0.heap_1 w.params).In h → PySem.Challenge.rw_xc0016_01 = PySem.Challenge.rw_xc0016_01 := by
  k_fill
  intro _; rfl
end
section -- D0
open PySem PySem.W PyProof.Rows
theorem cut_exec {M : Model} {A : Around} {E : Value → Shared → Prop} {s : Shared} {Q : Flow → Shared → Prop} {l l' : Stmt} {env env' : Env} (e : l = l') (e' : env = env') (h : wpAny M A (exec l' env') Q E s) : wpAny M A (exec l env) Q E s := by subst e; subst e'; exact h
theorem cut_execs {M : Model} {A : Around} {E : Value → Shared → Prop} {s : Shared} {Q : Flow → Shared → Prop} {l l' : List Stmt} {env env' : Env} (e : l = l') (e' : env = env') (h : wpAny M A (execs l' env') Q E s) : wpAny M A (execs l env) Q E s := by subst e; subst e'; exact h
section
variable {prog : Program} {w : World} {A : Around} {E : Value → Shared → Prop} {s : Shared} {h₀ : Heap} {L : Addr} {m : Str → Option Value} {news : Led}
theorem dict_copy {K : Type} [DecidableEq K] {knd : KeyKind prog w K} {d : Addr} {o : Obj} {kvs : List (K × Value)} {Q : Value → Shared → Prop} (F : Fr h₀ L s.heap m) (N : News h₀ L s.heap news) (hbig : h₀.NoLimit) (hm : (d, o) ∈ news) (hd : o.IsDictOf knd kvs) (lo : (d == sysModules) = false) (hsz : kvs.length < 100)
    (h : ∀ d' h' o', Fr h₀ L h' m → News h₀ L h' ((d', o') :: news) → (∀ p ∈ news, p.1 < d') → (d' == sysModules) = false → o'.IsDictOf knd kvs → Q (.ref d') { s with heap := h' }) :
    wpAny (model prog w) A (call (.type "dict") [.ref d]) Q E s := by
  refine kt_call_dict lo (kda_dict N hm hd) (by rw [sizeLine_eq]; omega) fun h' hm' hs => ?_
  obtain ⟨o', ho', hd'⟩ := Heap.dictOf_iff.mp hm'
  have N1 := News.push F N { cls := .type "dict", data := .dict #[] }
  exact h _ h' o' ((F.push _).change hs (N1 _ (.head _)).2.1 (N1.fresh (.head _))) (N1.setHead N.apart hs ho') (fun p hp => Heap.lt_size (N p hp).1) (F.notModules (modules_low hbig)) hd'
end
theorem dict_letter {prog : Program} {w : World} {o : Obj} {b : Bool} {x : Str} {t u : Tok} (h : o.IsDictOf (strKind prog w) (strPairs [(Value.str x t, Value.int 1 u)])) (e : x = letter b) : o.IsDictOf (strKind prog w) [(letter b, .int 1 u)] := by
  subst e; exact h
theorem sub_refl {l : Led} : ∀ p ∈ l, p ∈ l := fun _ h => h
theorem sub_cons {l l' : Led} {x : Addr × Obj} (h : ∀ p ∈ l, p ∈ l') : ∀ p ∈ x :: l, p ∈ x :: l' := fun p hp => by
  rcases List.mem_cons.mp hp with e | hp
  · rw [e]; exact List.mem_cons_self
  · exact List.mem_cons_of_mem _ (h p hp)
theorem sub_skip {l l' : Led} {x : Addr × Obj} (h : ∀ p ∈ l, p ∈ l') : ∀ p ∈ l, p ∈ x :: l' := fun p hp => List.mem_cons_of_mem _ (h p hp)
section
variable {prog : Program} {w : World} {A : Around} {E : Value → Shared → Prop} {s : Shared} {h₀ : Heap} {L : Addr} {m : Str → Option Value} {news : Led}
theorem sum_listK {l : Addr} {vs : List Value} {ns : List Int} {n : Nat} {Q : Value → Shared → Prop} (hh : A.handled = none) (F : Fr h₀ L s.heap m) (N : News h₀ L s.heap news) (hm : (l, W.listOf vs.toArray n) ∈ news) (hi : IntsAre vs ns)
    (h : ∀ h' tk t', Fr h₀ L h' m → News h₀ L h' news → Q (.int ns.sum t') { s with heap := h', toks := tk }) :
    wpAny (model prog w) A (call (.builtin "sum") [.ref l]) Q E s := by
  have hl : s.heap.IsList l vs.toArray := N.isList hm
  obtain ⟨xs, hx⟩ := hi.allInts.items
  have hn : numsOf vs.toArray.toList = ns := by rw [show vs.toArray.toList = vs from rfl, hi.numsOf]
  rw [hx] at hl hn
  rw [nums_intItems] at hn
  refine sum_intListG hh hl fun h' tk t' hk => ?_
  have := h h' tk t' (F.keeps hk) (N.grown hk)
  rw [preSum_eq, List.take_of_length_le (by simp), hn]
  exact this
theorem sum_two {l : Addr} {a b : Int} {ta tb : Tok} {n : Nat} {Q : Value → Shared → Prop} (hh : A.handled = none) (F : Fr h₀ L s.heap m) (N : News h₀ L s.heap news) (hm : (l, W.listOf #[.int a ta, .int b tb] n) ∈ news)
    (h : ∀ h' tk t', Fr h₀ L h' m → News h₀ L h' news → Q (.int (a + b) t') { s with heap := h', toks := tk }) :
    wpAny (model prog w) A (call (.builtin "sum") [.ref l]) Q E s :=
  sum_listK (vs := [.int a ta, .int b tb]) (ns := [a, b]) hh F N hm (.cons _ _ (.cons _ _ .nil)) fun h' tk t' F' N' => by
    have := h h' tk t' F' N'
    simpa using this
end
end
section -- D1
open PySem PySem.W PyProof.Rows
open PySem.Spec PySem.Calls PyProof.Rows.LCg
section
variable {prog : Program} {w : World} {A : Around} {E : Value → Shared → Prop} {s : Shared} {h₀ : Heap} {L : Addr} {m : Str → Option Value} {env : Env} {news : Led}
theorem ListComp_G {elt iter : PySem.Expr} {x : Str} {px : Pos} {scope : Scope} {cl : List (Str × Addr)} {pos : Pos} {Q : Value → Shared → Prop} (_F : Fr h₀ L s.heap m)
    (hclos : closureFor scope env = pure cl) (hcell : ∀ y ∈ scope.names, y.2 ≠ .cell) (hkind : scope.kind = .function)
    (hnames : ∀ y ∈ scope.names, y.2 = .local → scope.names.lookup y.1 = some .local) (hx : scope.names.lookup x = some .local)
    (h : wpAny (model prog w) A (eval iter env) (fun xv s₁ => wpAny (model prog w) A (pyIter xv) (ItG prog w A h₀ L m env elt x scope cl (fun s₂ => FinE h₀ L m s₂ Q)) E s₁) E s)
    (hs : ∀ x, foldedSetIterable iter env x = pure x := by intro _; rfl) :
    wpAny (model prog w) A (eval (.ListComp elt [⟨.Name x px, iter, [], 0⟩] scope pos) env) Q E s := by
  rw [eval_ListComp]
  refine wpAny_comprehension_free (use := none) rfl hs hclos hkind hnames (wpAny_mono h (fun xv s₁ h₁ => wpAny_mono h₁ (fun it s₂ h₂ => ?_) fun _ _ e => e) fun _ _ e => e)
  obtain ⟨I, fp, n, P, St, S, nw, rfl, W, hsz, hIo, hSt, hst, hfp, F, N, hIL, hI₀, off, hS, R⟩ := h₂
  refine block_U W hsz hIo hSt hcell hkind hx hst hfp F N hIL hI₀ off hS R ?_
  intro D C h' tk m' ys news' F' N' o1 hn hC₀ hD₀ hCL hDL hCD offC fin
  refine ⟨m', hn, fun h'' hs'' => fin D h'' tk (F'.change hs'' hCL hC₀) (fun p hp => ?_) o1⟩
  refine ⟨hs''.extBut _ _ ?_ (N' p hp).1, (N' p hp).2⟩
  rcases List.mem_cons.mp hp with rfl | hp
  · exact Ne.symm hCD
  · exact offC p hp
theorem Assign_ListComp_G {elt iter : PySem.Expr} {x y : Str} {px py : Pos} {scope : Scope} {cl : List (Str × Addr)} {pos spos : Pos} {Q : Flow → Shared → Prop} (_F : Fr h₀ L s.heap m) (hLe : env.locals = L)
    (hsw : swapsWith (.ListComp elt [⟨.Name x px, iter, [], 0⟩] scope pos) (some (.Name y py)) spos.line env = pure true)
    (hclos : closureFor scope env = pure cl) (hcell : ∀ z ∈ scope.names, z.2 ≠ .cell) (hkind : scope.kind = .function)
    (hnames : ∀ z ∈ scope.names, z.2 = .local → scope.names.lookup z.1 = some .local) (hx : scope.names.lookup x = some .local)
    (hy : env.kindOf y = some .local) (hp : (env.scope.kind == .class || (env.scope.kind == .module && env.locals != env.globals)) = false)
    (h : wpAny (model prog w) A (eval iter env) (fun xv s₁ => wpAny (model prog w) A (pyIter xv) (ItG prog w A h₀ L m env elt x scope cl (fun s₂ => FinA h₀ L m s₂ y Q)) E s₁) E s)
    (hs : ∀ x, foldedSetIterable iter env x = pure x := by intro _; rfl) :
    wpAny (model prog w) A (exec (.Assign [.Name y py] (.ListComp elt [⟨.Name x px, iter, [], 0⟩] scope pos) spos) env) Q E s := by
  subst hLe
  rw [exec_Assign_Name_used _ _ _ _ hsw]
  refine wpAny_bind (wpAny_standAt (wpAny_bind ?_))
  show wpAny _ A (do let _ ← comprehension (.ListComp elt [⟨.Name x px, iter, [], 0⟩] scope pos) scope env _ (newList []) false (eval iter env) (some (assign (.Name y py) env))) _ _ s
  refine wpAny_bind (wpAny_mono (wpAny_comprehension_free (use := some (assign (.Name y py) env)) (Q := fun _ s' => Q .next s') rfl hs hclos hkind hnames
    (wpAny_mono h (fun xv s₁ h₁ => wpAny_mono h₁ (fun it s₂ h₂ => ?_) fun _ _ e => e) fun _ _ e => e)) (fun _ s' hq => wpAny_pure (wpAny_pure hq)) fun _ _ e => e)
  obtain ⟨I, fp, n, P, St, S, nw, rfl, W, hsz, hIo, hSt, hst, hfp, F, N, hIL, hI₀, off, hS, R⟩ := h₂
  refine block_U W hsz hIo hSt hcell hkind hx hst hfp F N hIL hI₀ off hS R ?_
  intro D C h' tk m' ys news' F' N' o1 hn hC₀ hD₀ hCL hDL hCD offC fin
  show wpAny _ A (assign (.Name y py) env (.ref D)) _ _ _
  refine wpAny_assign_Name (wpAny_storeName_local hy F'.ns (fun h₂ hn₂ hs₂ => ?_) hp)
  have hL₀ : h₀.get? env.locals = none := Heap.get?_none_of_le F'.above
  have F₂ : Fr h₀ env.locals h₂ (fun z => if z = y then some (.ref D) else m z) := ⟨hn₂, fun b o e => hs₂.extBut b o (fun q => by rw [q, hL₀] at e; cases e) (F'.keep b o e), F'.above⟩
  refine ⟨m', hn.sameBut hs₂ hCL, fun h'' hs'' => fin D h'' _ (F₂.change hs'' hCL hC₀) (fun p hp => ?_) o1⟩
  have z : h₂.get? p.1 = some p.2 := hs₂.extBut _ _ (N' p hp).2.1 (N' p hp).1
  refine ⟨hs''.extBut _ _ ?_ z, (N' p hp).2⟩
  rcases List.mem_cons.mp hp with rfl | hp
  · exact Ne.symm hCD
  · exact offC p hp
theorem TupIn.tup {h : Heap} {ax : Addr} {its : Array Value} (x : TupIn ax its news) (N : News h₀ L h news) : h.IsTuple ax its := let ⟨o, hm, r⟩ := x; ⟨o, (N _ hm).1, r⟩
theorem itG_tuple {elt : PySem.Expr} {x : Str} {scope : Scope} {cl : List (Str × Addr)} {Fin : Shared → List Value → Led → Prop} {ax : Addr} {its : Array Value} {k : Nat}
    (hh : A.handled = none) (F : Fr h₀ L s.heap m) (N : News h₀ L s.heap news) (hm : (ax, ({ cls := .type "tuple", data := .seq its k } : Obj)) ∈ news) (hsz : its.size ≤ sizeLine)
    (h : ∀ g, CompRest prog w A h₀ L m env elt x scope cl { s with heap := g } (TupIn ax its) (fun i v => its[i]? = some v) (Fin { s with heap := g }) its.size 0 [] news) :
    wpAny (model prog w) A (pyIter (.ref ax)) (ItG prog w A h₀ L m env elt x scope cl Fin) E s := by
  have hS : TupIn ax its news := ⟨_, hm, rfl, _, rfl⟩
  have ht := hS.tup N
  have hlt : ax < s.heap.objs.size := by obtain ⟨_, e, _⟩ := ht; exact Heap.lt_size e
  have up : ∀ b o, s.heap.get? b = some o → (s.heap.push { cls := .type "tuple_iterator", data := .fields #[.ref ax, .int 0 0] }).get? b = some o := fun b o e => Heap.get?_push_of_some _ e
  refine wpAny_pyIter_tuple ht ⟨_, _, _, _, _, TupIn ax its, news, rfl, Walks.tuple hh s.heap.objs.size ax (Nat.ne_of_lt hlt) its, hsz, fun i h st => ?_, fun i h₁ h' o nw st e e' k' N' S' => ?_, ?_, fun b hb => ?_, F.keeps up, N.grown up, Nat.ne_of_lt F.ns.lt, next_is_new F, fun p hp => Nat.ne_of_lt (Heap.lt_size (N p hp).1), hS, h _⟩
  · obtain ⟨o, e, _⟩ := st.1; exact ⟨o, e⟩
  · refine ⟨?_, S'.tup N'⟩
    obtain ⟨o', q, r⟩ := st.1
    rw [e] at q; cases q
    exact ⟨o, e', r⟩
  · exact ⟨⟨_, Heap.get?_push_size _ rfl, rfl, rfl⟩, ht.at fun o e => up _ _ e⟩
  · show b < (s.heap.push _).objs.size
    rw [Heap.size_push]
    rcases List.mem_cons.mp hb with rfl | hb
    · exact Nat.lt_succ_self _
    · rw [List.mem_singleton.mp hb]; exact Nat.lt_succ_of_lt hlt
theorem LstIn.lst {h : Heap} {ax : Addr} {its : Array Value} (x : LstIn ax its news) (N : News h₀ L h news) : h.IsList ax its := let ⟨o, hm, r⟩ := x; ⟨o, (N _ hm).1, r⟩
theorem itG_list {elt : PySem.Expr} {x : Str} {scope : Scope} {cl : List (Str × Addr)} {Fin : Shared → List Value → Led → Prop} {ax : Addr} {its : Array Value} {k : Nat}
    (hh : A.handled = none) (F : Fr h₀ L s.heap m) (N : News h₀ L s.heap news) (hm : (ax, W.listOf its k) ∈ news) (hsz : its.size ≤ sizeLine)
    (h : ∀ g, CompRest prog w A h₀ L m env elt x scope cl { s with heap := g } (LstIn ax its) (fun i v => its[i]? = some v) (Fin { s with heap := g }) its.size 0 [] news) :
    wpAny (model prog w) A (pyIter (.ref ax)) (ItG prog w A h₀ L m env elt x scope cl Fin) E s := by
  have hS : LstIn ax its news := ⟨_, hm, rfl, _, rfl⟩
  have ht := hS.lst N
  have hlt : ax < s.heap.objs.size := by obtain ⟨_, e, _⟩ := ht; exact Heap.lt_size e
  have up : ∀ b o, s.heap.get? b = some o → (s.heap.push { cls := .type "list_iterator", data := .fields #[.ref ax, .int 0 0] }).get? b = some o := fun b o e => Heap.get?_push_of_some _ e
  refine wpAny_pyIter_list ht ⟨_, _, _, _, _, LstIn ax its, news, rfl, Walks.list hh s.heap.objs.size ax (Nat.ne_of_lt hlt) its, hsz, fun i h st => ?_, fun i h₁ h' o nw st e e' k' N' S' => ?_, ?_, fun b hb => ?_, F.keeps up, N.grown up, Nat.ne_of_lt F.ns.lt, next_is_new F, fun p hp => Nat.ne_of_lt (Heap.lt_size (N p hp).1), hS, h _⟩
  · obtain ⟨o, e, _⟩ := st.1; exact ⟨o, e⟩
  · refine ⟨?_, S'.lst N'⟩
    obtain ⟨o', q, r⟩ := st.1
    rw [e] at q; cases q
    exact ⟨o, e', r⟩
  · exact ⟨⟨_, Heap.get?_push_size _ rfl, rfl, rfl⟩, ht.at fun o e => up _ _ e⟩
  · show b < (s.heap.push _).objs.size
    rw [Heap.size_push]
    rcases List.mem_cons.mp hb with rfl | hb
    · exact Nat.lt_succ_self _
    · rw [List.mem_singleton.mp hb]; exact Nat.lt_succ_of_lt hlt
theorem itG_range {elt : PySem.Expr} {x : Str} {scope : Scope} {cl : List (Str × Addr)} {Fin : Shared → List Value → Led → Prop} {r : Addr} {a b : Int} {t u v : Tok} {n : Nat}
    (hh : A.handled = none) (F : Fr h₀ L s.heap m) (N : News h₀ L s.heap news) (hr : IsRange s.heap r a b 1 t u v) (hsm : Builtin.Range.small a b 1 = true) (hn : Builtin.Range.rangeSize a b 1 = ((n : Nat) : Int)) (hsz : n ≤ sizeLine)
    (h : ∀ g, CompRest prog w A h₀ L m env elt x scope cl { s with heap := g } (fun _ => True) (fun i v => ∃ t, v = .int (a + (i : Int)) t) (Fin { s with heap := g }) n 0 [] news) :
    wpAny (model prog w) A (pyIter (.ref r)) (ItG prog w A h₀ L m env elt x scope cl Fin) E s := by
  refine wpAny_pyIter_range hr hsm ⟨_, _, _, _, _, fun _ => True, news, rfl, range_walks hh a n, hsz, fun i h st => ⟨_, st⟩, range_st, ?_, fun b hb => ?_, F.keeps fun _ _ e => Heap.get?_push_of_some _ e, N.grown fun _ _ e => Heap.get?_push_of_some _ e, Nat.ne_of_lt F.ns.lt, next_is_new F, fun p hp => Nat.ne_of_lt (Heap.lt_size (N p hp).1), trivial, h _⟩
  · show IsRangeIter _ _ _ _ _
    rw [hn]; simpa using Heap.get?_push_size _ rfl
  · rw [List.mem_singleton.mp hb]
    show s.heap.objs.size < (s.heap.push _).objs.size
    rw [Heap.size_push]; exact Nat.lt_succ_self _
end
theorem sub_in1 {a b c x : Addr × Obj} {l : Led} : ∀ p ∈ a :: b :: c :: x :: l, p ∈ x :: a :: b :: c :: l := fun p hp => by
  simp only [List.mem_cons] at hp ⊢
  rcases hp with h | h | h | h | h
  · exact .inr (.inl h)
  · exact .inr (.inr (.inl h))
  · exact .inr (.inr (.inr (.inl h)))
  · exact .inl h
  · exact .inr (.inr (.inr (.inr h)))
theorem sub_in2 {a b c x y : Addr × Obj} {l : Led} : ∀ p ∈ a :: b :: c :: x :: y :: l, p ∈ x :: y :: a :: b :: c :: l := fun p hp => by
  simp only [List.mem_cons] at hp ⊢
  rcases hp with h | h | h | h | h | h <;> simp [h]
theorem sub_in3 {a b c x y z : Addr × Obj} {l : Led} : ∀ p ∈ a :: b :: c :: x :: y :: z :: l, p ∈ x :: y :: z :: a :: b :: c :: l := fun p hp => by
  simp only [List.mem_cons] at hp ⊢
  rcases hp with h | h | h | h | h | h | h <;> simp [h]
end
section -- S0
open PySem
theorem kw_S0 : True := by
  k_with "sre" => (first | with_unfolding_all rfl | (simp [S2, fB, fN, M.step, M.exec, M.resume, M.putBack, M.word, ops, c2, M.alternative, M.attempt, M.keep, M.frame, M.stick, M.say, f0, accepts, itemWidth, *]; done))
  k_with "sre1" => (first | with_unfolding_all rfl | (simp [S1, f1, M.step, M.exec, M.resume, M.putBack, M.word, ops, c1, M.alternative, M.attempt, M.attemptFrom, M.attemptAt, M.hasFirstSet, M.isAt, M.keep, M.frame, M.stick, M.say, accepts, itemWidth, *]; done))
  trivial
set_option linter.unusedSimpArgs false
set_option linter.unusedVariables false
open PySem.Sre
theorem Ends.step {n : Nat} {m r : M} (h : m.outcome = none) (e : Ends n m.step r) : Ends (n + 1) m r := by
  unfold Ends at *
  rw [M.runFor, h]
  exact e
theorem Ends.step' {n : Nat} {m m' r : M} (h : m.outcome = none) (hs : m.step = m') (e : Ends n m' r) : Ends (n + 1) m r := by
  subst hs; exact e.step h
theorem Ends.done {n : Nat} {m : M} (h : m.outcome.isSome = true) : Ends n m m := by
  cases n with
  | zero => rfl
  | succ n => show (if m.outcome.isSome then m else M.runFor n m.step) = m; rw [if_pos h]


theorem u1 : Up 1 := by
  refine u0.step rfl ?_
  k_extra "st"
  iterate 7 k_extra "g"
  intro first seen handed last s lim text h hc
  have h' : ¬ lim ≤ s := by omega
  apply Exists.intro
  refine Ends.step' (m' := S2 text lim s last false 12 s s first [fB 11 s first, f0 s first] 2 none (seen.add 7) none) rfl (by walk_at "sre") ?_
  refine Ends.step' (m' := S2 text lim s last false 12 s s first [fB 11 s first, f0 s first] 2 (some false) ((seen.add 7).add 16) none) rfl (by walk_at "sre") ?_
  refine Ends.step' (m' := S2 text lim s last false 19 s s first [fB 18 s first, f0 s first] 2 none ((seen.add 7).add 16) none) rfl (by walk_at "sre") ?_
  refine Ends.step' (m' := S2 text lim s last false 21 (s + 1) s first [fB 18 s first, f0 s first] 2 none (((seen.add 7).add 16).add 16) none) rfl (by walk_at "sre") ?_
  refine Ends.step' (m' := S2 text lim s last false 35 (s + 1) s first [fB 18 s first, f0 s first] 2 none ((((seen.add 7).add 16).add 16).add 15) none) rfl (by walk_at "sre") ?_
  refine Ends.step' (m' := S2 text lim s last false 35 (s + 1) (s + 1) first [fB 18 s first, f0 s first] 2 (some true) (((((seen.add 7).add 16).add 16).add 15).add 1) none) rfl (by walk_at "sre") ?_
  refine Ends.step' (m' := S2 text lim s last false 18 s (s + 1) first [f0 s first] 1 (some true) (((((seen.add 7).add 16).add 16).add 15).add 1) none) rfl (by walk_at "sre") ?_
  refine Ends.step' (m' := S2 text lim s last false 10 s (s + 1) first [] 0 (some true) (((((seen.add 7).add 16).add 16).add 15).add 1) none) rfl (by walk_at "sre") ?_
  refine Ends.step' (m' := S2 text lim s last false 10 s (s + 1) first [] 0 (some true) (((((seen.add 7).add 16).add 16).add 15).add 1) (some Outcome.matched)) rfl (by walk_at "sre") ?_
  exact Ends.done rfl
theorem s2_nl : ∀ (a b s c d e f : _), @T1 a b s c d e f := no_implicit_lambda% (u1.get rfl)
theorem u2 : Up 2 := by
  refine u1.step rfl ?_
  k_extra "st"
  iterate 7 k_extra "g"
  intro first seen handed last s lim text h hc hd
  have h' : ¬ lim ≤ s := by omega
  have h2 : ¬ lim ≤ s + 1 := by omega
  apply Exists.intro
  refine Ends.step' (m' := S2 text lim s last false 12 s s first [fB 11 s first, f0 s first] 2 none (seen.add 7) none) rfl (by walk_at "sre") ?_
  refine Ends.step' (m' := S2 text lim s last false 14 (s + 1) s first [fB 11 s first, f0 s first] 2 none ((seen.add 7).add 16) none) rfl (by walk_at "sre") ?_
  refine Ends.step' (m' := S2 text lim s last false 16 (s + 1 + 1) s first [fB 11 s first, f0 s first] 2 none (((seen.add 7).add 16).add 16) none) rfl (by walk_at "sre") ?_
  refine Ends.step' (m' := S2 text lim s last false 35 (s + 1 + 1) s first [fB 11 s first, f0 s first] 2 none ((((seen.add 7).add 16).add 16).add 15) none) rfl (by walk_at "sre") ?_
  refine Ends.step' (m' := S2 text lim s last false 35 (s + 1 + 1) (s + 1 + 1) first [fB 11 s first, f0 s first] 2 (some true) (((((seen.add 7).add 16).add 16).add 15).add 1) none) rfl (by walk_at "sre") ?_
  refine Ends.step' (m' := S2 text lim s last false 11 s (s + 1 + 1) first [f0 s first] 1 (some true) (((((seen.add 7).add 16).add 16).add 15).add 1) none) rfl (by walk_at "sre") ?_
  refine Ends.step' (m' := S2 text lim s last false 10 s (s + 1 + 1) first [] 0 (some true) (((((seen.add 7).add 16).add 16).add 15).add 1) none) rfl (by walk_at "sre") ?_
  refine Ends.step' (m' := S2 text lim s last false 10 s (s + 1 + 1) first [] 0 (some true) (((((seen.add 7).add 16).add 16).add 15).add 1) (some Outcome.matched)) rfl (by walk_at "sre") ?_
  exact Ends.done rfl
theorem s2_crlf : ∀ (a b s c d e f : _), @T2 a b s c d e f := no_implicit_lambda% (u2.get rfl)
theorem u3 : Up 3 := by
  refine u2.step rfl ?_
  k_extra "st"
  iterate 7 k_extra "g"
  intro first seen handed last s lim text h hc hd
  have h' : ¬ lim ≤ s := by omega
  have hk : lim ≤ s + 1 ∨ (¬ lim ≤ s + 1 ∧ (text[s + 1]?.getD 0 == 10) = false) := by
    by_cases h2 : lim ≤ s + 1
    · exact .inl h2
    · exact .inr ⟨h2, by simpa using hd (by omega)⟩
  apply Exists.intro
  refine Ends.step' (m' := S2 text lim s last false 12 s s first [fB 11 s first, f0 s first] 2 none (seen.add 7) none) rfl (by first | walk_at "sre" | (rcases hk with h2 | ⟨h2, h3⟩ <;> walk_at "sre")) ?_
  refine Ends.step' (m' := S2 text lim s last false 14 (s + 1) s first [fB 11 s first, f0 s first] 2 none ((seen.add 7).add 16) none) rfl (by first | walk_at "sre" | (rcases hk with h2 | ⟨h2, h3⟩ <;> walk_at "sre")) ?_
  refine Ends.step' (m' := S2 text lim s last false 14 (s + 1) s first [fB 11 s first, f0 s first] 2 (some false) (((seen.add 7).add 16).add 16) none) rfl (by first | walk_at "sre" | (rcases hk with h2 | ⟨h2, h3⟩ <;> walk_at "sre")) ?_
  refine Ends.step' (m' := S2 text lim s last false 19 s s first [fB 18 s first, f0 s first] 2 none (((seen.add 7).add 16).add 16) none) rfl (by first | walk_at "sre" | (rcases hk with h2 | ⟨h2, h3⟩ <;> walk_at "sre")) ?_
  refine Ends.step' (m' := S2 text lim s last false 19 s s first [fB 18 s first, f0 s first] 2 (some false) ((((seen.add 7).add 16).add 16).add 16) none) rfl (by first | walk_at "sre" | (rcases hk with h2 | ⟨h2, h3⟩ <;> walk_at "sre")) ?_
  refine Ends.step' (m' := S2 text lim s last false 24 s s first [fB 23 s first, f0 s first] 2 none ((((seen.add 7).add 16).add 16).add 16) none) rfl (by first | walk_at "sre" | (rcases hk with h2 | ⟨h2, h3⟩ <;> walk_at "sre")) ?_
  refine Ends.step' (m' := S2 text lim s last false 26 (s + 1) s first [fB 23 s first, f0 s first] 2 none (((((seen.add 7).add 16).add 16).add 16).add 16) none) rfl (by first | walk_at "sre" | (rcases hk with h2 | ⟨h2, h3⟩ <;> walk_at "sre")) ?_
  refine Ends.step' (m' := S2 text lim s last false 29 (s + 1) (s + 1) false [fN 26 (s + 1) first, fB 23 s first, f0 s first] 3 none ((((((seen.add 7).add 16).add 16).add 16).add 16).add 5) none) rfl (by first | walk_at "sre" | (rcases hk with h2 | ⟨h2, h3⟩ <;> walk_at "sre")) ?_
  refine Ends.step' (m' := S2 text lim s last false 29 (s + 1) (s + 1) false [fN 26 (s + 1) first, fB 23 s first, f0 s first] 3 (some false) (((((((seen.add 7).add 16).add 16).add 16).add 16).add 5).add 16) none) rfl (by first | walk_at "sre" | (rcases hk with h2 | ⟨h2, h3⟩ <;> walk_at "sre")) ?_
  refine Ends.step' (m' := S2 text lim s last false 32 (s + 1) (s + 1) first [fB 23 s first, f0 s first] 2 none (((((((seen.add 7).add 16).add 16).add 16).add 16).add 5).add 16) none) rfl (by first | walk_at "sre" | (rcases hk with h2 | ⟨h2, h3⟩ <;> walk_at "sre")) ?_
  refine Ends.step' (m' := S2 text lim s last false 35 (s + 1) (s + 1) first [fB 23 s first, f0 s first] 2 none ((((((((seen.add 7).add 16).add 16).add 16).add 16).add 5).add 16).add 15) none) rfl (by first | walk_at "sre" | (rcases hk with h2 | ⟨h2, h3⟩ <;> walk_at "sre")) ?_
  refine Ends.step' (m' := S2 text lim s last false 35 (s + 1) (s + 1) first [fB 23 s first, f0 s first] 2 (some true) (((((((((seen.add 7).add 16).add 16).add 16).add 16).add 5).add 16).add 15).add 1) none) rfl (by first | walk_at "sre" | (rcases hk with h2 | ⟨h2, h3⟩ <;> walk_at "sre")) ?_
  refine Ends.step' (m' := S2 text lim s last false 23 s (s + 1) first [f0 s first] 1 (some true) (((((((((seen.add 7).add 16).add 16).add 16).add 16).add 5).add 16).add 15).add 1) none) rfl (by first | walk_at "sre" | (rcases hk with h2 | ⟨h2, h3⟩ <;> walk_at "sre")) ?_
  refine Ends.step' (m' := S2 text lim s last false 10 s (s + 1) first [] 0 (some true) (((((((((seen.add 7).add 16).add 16).add 16).add 16).add 5).add 16).add 15).add 1) none) rfl (by first | walk_at "sre" | (rcases hk with h2 | ⟨h2, h3⟩ <;> walk_at "sre")) ?_
  refine Ends.step' (m' := S2 text lim s last false 10 s (s + 1) first [] 0 (some true) (((((((((seen.add 7).add 16).add 16).add 16).add 16).add 5).add 16).add 15).add 1) (some Outcome.matched)) rfl (by first | walk_at "sre" | (rcases hk with h2 | ⟨h2, h3⟩ <;> walk_at "sre")) ?_
  exact Ends.done rfl
theorem s2_cr : ∀ (a b s c d e f : _), @T3 a b s c d e f := no_implicit_lambda% (u3.get rfl)
theorem Ends.trans {a b : Nat} {m m' r : M} (h1 : Ends a m m') (h2 : Ends b m' r) : Ends (a + b) m r := by
  unfold Ends at *
  induction a generalizing m with
  | zero => rw [Nat.zero_add]; rw [← h1] at h2; exact h2
  | succ a ih =>
    rw [M.runFor] at h1
    rw [Nat.succ_add, M.runFor]
    split
    · rename_i ho
      rw [if_pos ho] at h1
      subst h1
      have := (Ends.done (n := b) ho : M.runFor b m = m)
      rw [← h2, this]
    · rename_i ho
      rw [if_neg ho] at h1
      exact ih h1
theorem Ends.mono {a b : Nat} {m r : M} (h : Ends a m r) (ho : r.outcome.isSome = true) (hab : a ≤ b) : Ends b m r := by
  obtain ⟨k, rfl⟩ := Nat.exists_eq_add_of_le hab
  exact h.trans (.done ho)
theorem u4 : Up 4 := by
  refine u3.step rfl ?_
  k_extra "st"
  iterate 7 k_extra "g"
  intro first seen handed last s lim text h hd
  obtain ⟨ha, hc⟩ := hd
  have h' : ¬ lim ≤ s := by omega
  have hb : (s == 0 || text[s - 1]?.getD 0 == 10) = true := by simpa using ha
  apply Exists.intro
  refine Ends.step' (m' := S1 text lim s last false 7 s handed first [f1 s first] 1 none ((seen.add 6).add 44) none) rfl (by walk_at "sre1") ?_
  refine Ends.step' (m' := S1 text lim s last false 9 (s + 1) handed first [f1 s first] 1 none (((seen.add 6).add 44).add 16) none) rfl (by walk_at "sre1") ?_
  refine Ends.step' (m' := S1 text lim s last false 9 (s + 1) (s + 1) first [f1 s first] 1 (some true) ((((seen.add 6).add 44).add 16).add 1) none) rfl (by walk_at "sre1") ?_
  refine Ends.step' (m' := S1 text lim s last false 5 s (s + 1) first [] 0 (some true) ((((seen.add 6).add 44).add 16).add 1) none) rfl (by walk_at "sre1") ?_
  refine Ends.step' (m' := S1 text lim s last false 5 s (s + 1) first [] 0 (some true) ((((seen.add 6).add 44).add 16).add 1) (some Outcome.matched)) rfl (by walk_at "sre1") ?_
  exact Ends.done rfl
theorem s1_hit : ∀ (a b s c d e f : _), @T4 a b s c d e f := no_implicit_lambda% (u4.get rfl)
theorem u5 : Up 5 := by
  refine u4.step rfl ?_
  k_extra "st"
  iterate 7 k_extra "g"
  intro first seen handed last s lim text h hd
  by_cases hb : (s = 0 ∨ text[s - 1]?.getD 0 = 10)
  · have hk : lim ≤ s ∨ (¬ lim ≤ s ∧ (text[s]?.getD 0 == 46) = false) := by
      by_cases h' : lim ≤ s
      · exact .inl h'
      · exact .inr ⟨h', by simp only [beq_eq_false_iff_ne]; intro e; exact hd ⟨by omega, hb, e⟩⟩
    refine ⟨3, ?_⟩; apply Exists.intro; apply Exists.intro; refine ⟨by decide, ?_⟩
    refine Ends.step' (m' := S1 text lim s last false 7 s handed first [f1 s first] 1 none ((seen.add 6).add 44) none) rfl (by first | walk_at "sre1" | (rcases hk with h2 | ⟨h2, h3⟩ <;> walk_at "sre1")) ?_
    refine Ends.step' (m' := S1 text lim s last false 7 s handed first [f1 s first] 1 (some false) (((seen.add 6).add 44).add 16) none) rfl (by first | walk_at "sre1" | (rcases hk with h2 | ⟨h2, h3⟩ <;> walk_at "sre1")) ?_
    refine Ends.step' (m' := S1 text lim (s + 1) last false 5 (s + 1) (s + 1) false [f1 (s + 1) false] 1 none (((seen.add 6).add 44).add 16) none) rfl (by first | walk_at "sre1" | (rcases hk with h2 | ⟨h2, h3⟩ <;> walk_at "sre1")) ?_
    exact rfl
  · have hb' : (decide (s = 0) || text[s - 1]?.getD 0 == 10) = false := by simpa using hb
    have hb2 : (s == 0 || text[s - 1]?.getD 0 == 10) = false := by simpa using hb
    refine ⟨2, ?_⟩; apply Exists.intro; apply Exists.intro; refine ⟨by decide, ?_⟩
    refine Ends.step' (m' := S1 text lim s last false 5 s handed first [f1 s first] 1 (some false) ((seen.add 6).add 44) none) rfl (by walk_at "sre1") ?_
    refine Ends.step' (m' := S1 text lim (s + 1) last false 5 (s + 1) (s + 1) false [f1 (s + 1) false] 1 none ((seen.add 6).add 44) none) rfl (by walk_at "sre1") ?_
    exact rfl
theorem s1_miss : ∀ (a b s c d e f : _), @T5 a b s c d e f := no_implicit_lambda% (u5.get rfl)
theorem u6 : Up 6 := by
  refine u5.step rfl ?_
  k_extra "st"
  iterate 6 k_extra "g"
  intro first seen handed s lim text h
  subst h
  by_cases hb : (s = 0 ∨ text[s - 1]?.getD 0 = 10)
  · apply Exists.intro; apply Exists.intro
    refine Ends.step' (m' := S1 text s s s false 7 s handed first [f1 s first] 1 none ((seen.add 6).add 44) none) rfl (by walk_at "sre1") ?_
    refine Ends.step' (m' := S1 text s s s false 7 s handed first [f1 s first] 1 (some false) (((seen.add 6).add 44).add 16) none) rfl (by walk_at "sre1") ?_
    refine Ends.step' (m' := S1 text s s s false 5 s handed first [] 0 (some false) (((seen.add 6).add 44).add 16) none) rfl (by walk_at "sre1") ?_
    refine Ends.step' (m' := S1 text s s s false 5 s handed first [] 0 (some false) (((seen.add 6).add 44).add 16) (some Outcome.failed)) rfl (by walk_at "sre1") ?_
    exact Ends.done rfl
  · have hb' : (decide (s = 0) || text[s - 1]?.getD 0 == 10) = false := by simpa using hb
    have hb2 : (s == 0 || text[s - 1]?.getD 0 == 10) = false := by simpa using hb
    apply Exists.intro; apply Exists.intro
    refine Ends.step' (m' := S1 text s s s false 5 s handed first [f1 s first] 1 (some false) ((seen.add 6).add 44) none) rfl (by walk_at "sre1") ?_
    refine Ends.step' (m' := S1 text s s s false 5 s handed first [] 0 (some false) ((seen.add 6).add 44) none) rfl (by walk_at "sre1") ?_
    refine Ends.step' (m' := S1 text s s s false 5 s handed first [] 0 (some false) ((seen.add 6).add 44) (some Outcome.failed)) rfl (by walk_at "sre1") ?_
    exact Ends.done rfl
theorem s1_end : ∀ (a b s c d e : _), @T6 a b s c d e := no_implicit_lambda% (u6.get rfl)
theorem s1_search (text : Array Nat) (lim : Nat) : ∀ (d s handed : Nat) (seen : Seen) (first : Bool), lim - s = d → s ≤ lim →
    ∃ r, Hit1 text lim s r ∧ Ends (4 * d + 24) (S1 text lim s lim false 5 s handed first [f1 s first] 1 none seen none) r := by
  intro d
  induction d with
  | zero =>
    intro s handed seen first hd hs
    obtain ⟨sn, hn, h2⟩ := s1_end text lim s handed seen first (by omega)
    exact ⟨_, .inl ⟨rfl, fun i h3 h4 => by omega⟩, h2.mono rfl (by omega)⟩
  | succ d ih =>
    intro s handed seen first hd hs
    by_cases hh : dotAt text s
    · obtain ⟨seen', h2⟩ := s1_hit text lim s lim handed seen first (by omega) hh
      exact ⟨_, .inr ⟨rfl, Nat.le_refl _, by show s < lim; omega, rfl, hh, fun i h3 h4 => absurd h4 (by show ¬ i < s; omega)⟩, h2.mono rfl (by omega)⟩
    · obtain ⟨k, seen', handed', hk, h2⟩ := s1_miss text lim s lim handed seen first (by omega) (fun x => hh x.2)
      obtain ⟨r, h3, h4⟩ := ih (s + 1) handed' seen' false (by omega) (by omega)
      refine ⟨r, ?_, (h2.trans h4).mono ?_ (by omega)⟩
      · rcases h3 with ⟨a, b⟩ | ⟨a, b, c, e, f, g⟩
        · exact .inl ⟨a, fun i h5 h6 => by
            rcases Nat.eq_or_lt_of_le h5 with rfl | h5
            · exact hh
            · exact b i h5 h6⟩
        · exact .inr ⟨a, by omega, c, e, f, fun i h5 h6 => by
            rcases Nat.eq_or_lt_of_le h5 with rfl | h5
            · exact hh
            · exact g i h5 h6⟩
      · rcases h3 with ⟨a, b⟩ | ⟨a, b⟩ <;> rw [a] <;> rfl
theorem search1 (text : Array Nat) (p : Nat) (hp : p ≤ text.size) : ∃ r, Hit1 text text.size p r ∧ Ends (4 * text.size + 24) (forSearch c1 text 0 p text.size false) r := by
  rcases Nat.eq_or_lt_of_le hp with rfl | hlt
  · refine ⟨{ (forSearch c1 text 0 text.size text.size false) with outcome := some .failed }, .inl ⟨rfl, fun i h3 h4 => by omega⟩, ?_⟩
    have e : (forSearch c1 text 0 text.size text.size false) = M.say (S1 text text.size text.size 0 false 5 text.size text.size true [] 0 none (({} : Seen).add 14) none) false := by
      unfold forSearch
      have : (decide (text.size > text.size) || decide (text.size - text.size < (header c1).1)) = true := by simp [header, c1, ops]
      simp only [this, if_true]
      rfl
    rw [e]
    exact Ends.step' rfl rfl (.done rfl)
  · have e : (forSearch c1 text 0 p text.size false) = S1 text text.size p text.size false 5 p p true [f1 p true] 1 none (({} : Seen).add 14) none := by
      unfold forSearch
      have : (decide (p > text.size) || decide (text.size - p < (header c1).1)) = false := by simp [header, c1, ops]; omega
      simp only [this]
      rfl
    rw [e]
    obtain ⟨r, h1, h2⟩ := s1_search text text.size (text.size - p) p p (({} : Seen).add 14) true rfl hp
    refine ⟨r, h1, h2.mono ?_ (by omega)⟩
    rcases h1 with ⟨a, b⟩ | ⟨a, b⟩ <;> rw [a] <;> rfl
theorem in2 (c : Nat) (seen : Seen) : ∃ seen', inSet c2 c 36 5 true seen = .ok (decide (c = 10 ∨ c = 13), seen') := by
  by_cases h1 : c = 10
  · subst h1; exact ⟨_, rfl⟩
  · by_cases h2 : c = 13
    · subst h2; exact ⟨_, rfl⟩
    · have e1 : (c == 10) = false := by simpa using h1
      have e2 : (c == 13) = false := by simpa using h2
      refine ⟨((seen.add 16).add 16).add 0, ?_⟩
      have q : inSet c2 c 36 5 true seen = if c == 10 then .ok (true, seen.add 16) else if c == 13 then .ok (true, (seen.add 16).add 16) else .ok (false, ((seen.add 16).add 16).add 0) := rfl
      rw [q, e1, e2, decide_eq_false (not_or.mpr ⟨h1, h2⟩)]
      rfl
theorem adm2 (m : M) (text : Array Nat) (lim : Nat) (hm : m.code = c2) (ht : m.text = text) (hl : m.lim = lim) : ∀ (d s : Nat) (seen : Seen), lim - s = d →
    ∃ seen', (M.admitted m (d + 1) s seen = .ok (none, seen') ∧ ∀ i, s ≤ i → i < lim → ¬ nlAt text i) ∨
      (∃ q, M.admitted m (d + 1) s seen = .ok (some q, seen') ∧ s ≤ q ∧ q < lim ∧ nlAt text q ∧ ∀ i, s ≤ i → i < q → ¬ nlAt text i) := by
  intro d
  induction d with
  | zero =>
    intro s seen hd
    refine ⟨seen, .inl ⟨?_, fun i h1 h2 => by omega⟩⟩
    rw [M.admitted, hl, if_pos (by omega)]
  | succ d ih =>
    intro s seen hd
    obtain ⟨seen1, h1⟩ := in2 (text[s]?.getD 0) seen
    have h1' : inSet c2 (text.getD s 0) c2.size 5 true seen = .ok (decide (text[s]?.getD 0 = 10 ∨ text[s]?.getD 0 = 13), seen1) := by
      rw [Array.getD_eq_getD_getElem?]; exact h1
    by_cases hh : nlAt text s
    · have : decide (text[s]?.getD 0 = 10 ∨ text[s]?.getD 0 = 13) = true := by simpa [nlAt] using hh
      rw [this] at h1'
      refine ⟨seen1, .inr ⟨s, ?_, Nat.le_refl _, by omega, hh, fun i h1 h2 => by omega⟩⟩
      rw [M.admitted, hl, if_neg (by omega), hm, ht, h1']
    · have : decide (text[s]?.getD 0 = 10 ∨ text[s]?.getD 0 = 13) = false := by simpa [nlAt] using hh
      rw [this] at h1'
      obtain ⟨seen2, h2⟩ := ih (s + 1) seen1 (by omega)
      have e : M.admitted m (d + 1 + 1) s seen = M.admitted m (d + 1) (s + 1) seen1 := by
        rw [M.admitted, hl, if_neg (by omega), hm, ht, h1']
      rw [e]
      refine ⟨seen2, ?_⟩
      rcases h2 with ⟨a, b⟩ | ⟨q, a, b, c, f, g⟩
      · exact .inl ⟨a, fun i h5 h6 => by
          rcases Nat.eq_or_lt_of_le h5 with rfl | h5
          · exact hh
          · exact b i h5 h6⟩
      · exact .inr ⟨q, a, by omega, c, f, fun i h5 h6 => by
          rcases Nat.eq_or_lt_of_le h5 with rfl | h5
          · exact hh
          · exact g i h5 h6⟩
theorem search2 (text : Array Nat) (p : Nat) (hp : p ≤ text.size) : ∃ r, Hit2 text text.size p r ∧ Ends 30 (forSearch c2 text 0 p text.size false) r := by
  rcases Nat.eq_or_lt_of_le hp with rfl | hlt
  · refine ⟨{ (forSearch c2 text 0 text.size text.size false) with outcome := some .failed }, .inl ⟨rfl, fun i h3 h4 => by omega⟩, ?_⟩
    have e : (forSearch c2 text 0 text.size text.size false) = M.say (S2 text text.size text.size 0 false 10 text.size text.size true [] 0 none (({} : Seen).add 14) none) false := by
      unfold forSearch
      have : (decide (text.size > text.size) || decide (text.size - text.size < (header c2).1)) = true := by simp [header, c2, ops]
      simp only [this, if_true]
      rfl
    rw [e]
    exact Ends.step' rfl rfl (.done rfl)
  · have e : (forSearch c2 text 0 p text.size false) = M.attemptFrom (S2 text text.size p text.size false 10 p p true [] 0 none (({} : Seen).add 14) none) p true := by
      unfold forSearch
      have : (decide (p > text.size) || decide (text.size - p < (header c2).1)) = false := by simp [header, c2, ops]; omega
      simp only [this]
      rfl
    rw [e]
    have hf : M.hasFirstSet (S2 text text.size p text.size false 10 p p true [] 0 none (({} : Seen).add 14) none) = true := rfl
    unfold M.attemptFrom
    rw [hf]
    have hfu : (S2 text text.size p text.size false 10 p p true [] 0 none (({} : Seen).add 14) none).lim + 1 - p = text.size - p + 1 := by show text.size + 1 - p = _; omega
    rw [hfu]
    obtain ⟨seen', h | ⟨q, h, h1, h2, h3, h4⟩⟩ := adm2 (S2 text text.size p text.size false 10 p p true [] 0 none (({} : Seen).add 14) none) text text.size rfl rfl rfl (text.size - p) p (({} : Seen).add 14) rfl
    · have h0 : M.admitted (S2 text text.size p text.size false 10 p p true [] 0 none (({} : Seen).add 14) none) (text.size - p + 1) p (S2 text text.size p text.size false 10 p p true [] 0 none (({} : Seen).add 14) none).seen = .ok (none, seen') := h.1
      simp only [h0]
      exact ⟨{ (S2 text text.size p text.size false 10 p p true [] 0 (some false) seen' (some .failed)) with outcome := some .failed }, .inl ⟨rfl, h.2⟩, Ends.step' rfl rfl (.done rfl)⟩
    · have h0 : M.admitted (S2 text text.size p text.size false 10 p p true [] 0 none (({} : Seen).add 14) none) (text.size - p + 1) p (S2 text text.size p text.size false 10 p p true [] 0 none (({} : Seen).add 14) none).seen = .ok (some q, seen') := h
      simp only [h0]
      show ∃ r, Hit2 text text.size p r ∧ Ends 30 (S2 text text.size q text.size false 10 q q true [f0 q true] 1 none seen' none) r
      rcases h3 with h3 | h3
      · obtain ⟨seen3, h5⟩ := s2_nl text text.size q text.size q seen' true h2 h3
        refine ⟨_, .inr ⟨rfl, h1, h2, ?_, .inl h3, h4⟩, h5.mono rfl (by decide)⟩
        show q + 1 = q + nlLen text q
        unfold nlLen; rw [if_neg (by rw [h3]; simp)]
      · by_cases hn : text[q + 1]?.getD 0 = 10
        · have hlt2 : q + 1 < text.size := by
            apply Nat.lt_of_not_le
            intro hle
            rw [Array.getElem?_eq_none hle] at hn
            cases hn
          obtain ⟨seen3, h5⟩ := s2_crlf text text.size q text.size q seen' true hlt2 h3 hn
          refine ⟨_, .inr ⟨rfl, h1, h2, ?_, .inr h3, h4⟩, h5.mono rfl (by decide)⟩
          show q + 2 = q + nlLen text q
          unfold nlLen; rw [if_pos ⟨h3, hn⟩]
        · obtain ⟨seen3, h5⟩ := s2_cr text text.size q text.size q seen' true h2 h3 (fun _ => hn)
          refine ⟨_, .inr ⟨rfl, h1, h2, ?_, .inr h3, h4⟩, h5.mono rfl (by decide)⟩
          show q + 1 = q + nlLen text q
          unfold nlLen; rw [if_neg (fun x => hn x.2)]
end
section -- S1
open PySem PySem.W PyProof.Rows
theorem plainAttrs_pat : PlainAttrs "re.Pattern" :=
  ⟨⟨"object.__getattribute__", by rw [typeLookup_type, builtinLookup_eq_fast]; kernel_rfl, by decide +kernel⟩, by rw [typeLookup_type, builtinLookup_eq_fast]; kernel_rfl⟩
theorem slot_pat_sub : Slot "re.Pattern" "sub" "re.Pattern.sub" :=
  .of (owner := "re.Pattern") (n := "sub") (by rw [typeLookup_type, builtinLookup_eq_fast]; kernel_rfl) (by decide +kernel) (by decide +kernel) (by decide +kernel)
    (by first | exact .inl (by decide +kernel) | exact .inr (by decide +kernel)) (by rw [isSubtype_type]; kernel_rfl)
theorem type_pat_sub : typeOf (.builtin "re.Pattern.sub") = pure (.type "method_descriptor") := by show builtinType _ = _; rw [builtinType_eq_fast]; kernel_rfl
theorem entry_pat_sub : entryFor table "re.Pattern.sub" = some Builtin.«re.Pattern.sub» := entryFor_of_tree (by kernel_rfl)
theorem entry_sub_loop : entryFor table "re.Pattern.sub.loop" = some Builtin.«re.Pattern.sub.loop» := entryFor_of_tree (by kernel_rfl)
theorem quiet_sub_loop (args : Args) : (Code.builtin "re.Pattern.sub.loop" args).quiet = true := Code.quiet_builtin args (by decide +kernel)
theorem args_pat_sub (a b c : Value) : argsOk "re.Pattern.sub" ⟨[a, b, c], []⟩ := by
  unfold argsOk; kernel_rfl
theorem str_nocall : typeLookup (.type "str") "__call__" = pure none := by rw [typeLookup_type, builtinLookup_eq_fast]; kernel_rfl
open PySem.Builtin PySem.Builtin.Re
section
variable {M : Model} {A : Around} {E : Value → Shared → Prop} {s : Shared}
theorem Ends.split {a k : Nat} {m r : Sre.M} (h : Ends (a + k) m r) : Ends k (m.runFor a) r := by
  have h2 : Ends (a + k) m ((m.runFor a).runFor k) := Ends.trans (a := a) (b := k) (m' := m.runFor a) rfl rfl
  unfold Ends at h h2 ⊢
  exact h2.symm.trans h
theorem wp_drive {r : Sre.M} {Q : Sre.M → Shared → Prop} (ho : r.outcome.isSome = true) (hq : Q r s) : ∀ (turns n : Nat) (m : Sre.M), Ends n m r → n ≤ 4 * turns → 0 < turns → wpAny M A (reDrive turns m) Q E s := by
  intro turns
  induction turns with
  | zero => intro n m _ _ h; cases h
  | succ turns ih =>
    intro n m h hn _
    unfold reDrive
    show wpAny M A (if (m.runFor 4).outcome.isSome then pure (m.runFor 4) else do rule "sre.turn"; reDrive turns (m.runFor 4)) Q E s
    by_cases h4 : n ≤ 4
    · have e : m.runFor 4 = r := h.mono ho h4
      rw [e, if_pos ho]
      exact wpAny_pure hq
    · by_cases hs : (m.runFor 4).outcome.isSome = true
      · have e : m.runFor 4 = r := by
          obtain ⟨k, rfl⟩ := Nat.exists_eq_add_of_le (Nat.le_of_lt (Nat.lt_of_not_le h4))
          have h5 := h.split
          have h6 : Ends k (m.runFor 4) (m.runFor 4) := .done hs
          unfold Ends at h5 h6
          rw [← h5, h6]
        rw [e, if_pos ho]
        exact wpAny_pure hq
      · rw [if_neg hs]
        refine wpAny_bind (wpAny_rule ?_)
        obtain ⟨k, rfl⟩ := Nat.exists_eq_add_of_le (Nat.le_of_lt (Nat.lt_of_not_le h4))
        exact ih k _ h.split (by omega) (by omega)
theorem wp_names {f : Nat → PUnit → Sem (ForInStep PUnit)} {Q : PUnit → Shared → Prop}
    (hf : ∀ (i : Nat) (u : PUnit) (Q' : ForInStep PUnit → Shared → Prop), Q' (.yield ⟨⟩) s → wpAny M A (f i u) Q' E s) (hq : Q ⟨⟩ s) : ∀ l : List Nat, wpAny M A (forIn l PUnit.unit f) Q E s := by
  intro l
  induction l with
  | nil => simp only [List.forIn_nil]; exact wpAny_pure hq
  | cons i l ih =>
    rw [List.forIn_cons]
    exact wpAny_bind (hf i _ _ ih)
theorem wp_toEnd {n : Nat} {m r : Sre.M} {Q : Option Sre.M → Shared → Prop} (h : Ends n m r) (hn : n ≤ 4 * 2 ^ 64) (hq : (r.outcome = some .matched ∧ Q (some r) s) ∨ (r.outcome = some .failed ∧ Q none s)) :
    wpAny M A (reRunToEnd m) Q E s := by
  unfold reRunToEnd
  have ho : r.outcome.isSome = true := by rcases hq with ⟨h, _⟩ | ⟨h, _⟩ <;> rw [h] <;> rfl
  refine wpAny_bind (wp_drive ho ?_ (2 ^ 64) n m h hn (by decide))
  refine wpAny_bind (wp_names (fun i u Q' hq' => ?_) ?_ _)
  · by_cases hb : r.seen.has i = true
    · rw [if_pos hb]; exact wpAny_bind (wpAny_rule (wpAny_pure hq'))
    · rw [if_neg hb]; exact wpAny_pure hq'
  · rcases hq with ⟨h, hq⟩ | ⟨h, hq⟩
    · rw [h]; exact wpAny_pure hq
    · rw [h]; exact wpAny_pure hq
theorem wp_whole {P : Addr} {code : Array Nat} {x : Str} {tx : Tok} {Q : ReTarget → Shared → Prop} (hP : PatAt s.heap P code) (hq : Q ⟨.ref P, .str x tx, code, x.cps, 0, 0, 0, x.cps.size⟩ s) :
    wpAny M A (reWholeTarget (.ref P) (.str x tx)) Q E s := by
  obtain ⟨a0, a1, t2, a3, a4, Tp, t6, cv, n, h1, h2, h3⟩ := hP
  unfold reWholeTarget
  refine wpAny_bind (wpAny_fieldsOf h1 rfl ?_)
  refine wpAny_bind (m := reTextOf (.str x tx)) (wpAny_pure ?_)
  show wpAny M A (do reNoCollectionInside (.str x tx) 0; pure { pattern := .ref P, string := .str x tx, code := (← reRawItems (.ref Tp)).map (·.toNat), text := x.cps, kind := 0, groups := 0, pos := 0, lim := x.cps.size }) Q E s
  refine wpAny_bind (m := reNoCollectionInside (.str x tx) 0) (wpAny_pure ?_)
  unfold reRawItems
  refine wpAny_bind (wpAny_bind (wpAny_seqItems h2 rfl (wpAny_pure ?_)))
  refine wpAny_pure ?_
  show Q ⟨.ref P, .str x tx, (cv.map reRawOf).map (·.toNat), x.cps, 0, 0, 0, x.cps.size⟩ s
  rw [h3]; exact hq
end
theorem glued_nil (texts : List Str) : (Txt.join ⟨#[]⟩ texts).cps.toList = texts.flatMap (fun x => x.cps.toList) := by
  show (Builtin.Str.glued ⟨#[]⟩ texts).cps.toList = _
  have h : ∀ (l : List Str) (acc : Array Nat), (l.foldl (fun acc p => acc ++ (#[] : Array Nat) ++ p.cps) acc).toList = acc.toList ++ l.flatMap (fun x => x.cps.toList) := by
    intro l
    induction l with
    | nil => intro acc; simp
    | cons x l ih => intro acc; rw [List.foldl_cons, ih]; simp
  cases texts with
  | nil => rfl
  | cons x l =>
    unfold Builtin.Str.glued
    simp only [List.drop_succ_cons, List.drop_zero, List.headD_cons]
    rw [h]; simp
theorem str_eq {x y : Str} (h : x.cps.toList = y.cps.toList) : x = y := by
  cases x; cases y; simp only [Str.mk.injEq]; exact Array.toList_inj.mp h
section
variable {prog : Program} {w : World} {A : Around} {R : Result → Shared → Prop}
theorem strVals_push (done : List (Str × Tok)) (acc : Array Value) (x : Str) (t : Tok) (h : acc.toList = strValues done) : (acc.push (.str x t)).toList = strValues (done ++ [(x, t)]) := by
  simp [strValues, h]
theorem u7 : Up 7 := by
  refine u6.step rfl ?_
  k_extra "st"
  iterate 11 k_extra "g"
  intro F tl tx lit x code P R A w prog spec hsz hF l
  have e24 : sizeLine = 16777216 := sizeLine_eq
  intro k
  induction k with
  | zero => intro p c s acc n done hk; omega
  | succ k ih =>
    intro p c s acc n done hk hp hpat hl hacc hlen hfl hR
    have hasz : acc.size = done.length := by
      have e1 : acc.toList.length = acc.size := by simp
      rw [← e1, hacc]; simp [strValues]
    refine codeAny_builtin entry_sub_loop ?_
    unfold Builtin.«re.Pattern.sub.loop»
    refine wpAny_bind (m := reWholeTarget (.ref P) (.str x tx)) (wp_whole (hpat _ fun _ _ _ e => e) ?_)
    refine wpAny_bind (m := reLiteralCannotBeTurned (.str lit tl)) (wpAny_pure ?_)
    obtain ⟨r, n', hn', hE, hr⟩ := spec p hp
    refine wpAny_bind (m := reNextFound ⟨.ref P, .str x tx, code, x.cps, 0, 0, 0, x.cps.size⟩ p false) (wp_toEnd (n := n') (r := r) hE hn' ?_)
    rcases hr with ⟨ho, hf⟩ | ⟨ho, h1, h2, h3, hf⟩
    · refine .inr ⟨ho, ?_⟩
      show wpAny _ _ (do
        if p < x.cps.size then updateSeq l (·.push (← reSlice x.cps 0 p x.cps.size))
        let joiner ← reSlice x.cps 0 0 0
        let text ← if ((← seqItems? (.ref l)).getD #[]).isEmpty then pure joiner else call (.builtin "str.join") [joiner, .ref l]
        ret text) _ _ s
      have fin : ∀ (s' : Shared) (acc' : Array Value) (n' : Nat) (done' : List (Str × Tok)), s'.heap.get? l = some { cls := .type "list", data := .seq acc' n' } → acc'.toList = strValues done' →
          done'.flatMap (fun q => q.1.cps.toList) = F 0 → done'.length ≤ 2 * p + 1 →
          (∀ u tk, R (.ok (.ret (.str ⟨(F 0).toArray⟩ u))) { s' with toks := tk }) →
          wpAny (model prog w) (A.under (.builtin "re.Pattern.sub.loop" ⟨[.ref P, .str x tx, .str lit tl, rawInt 0, rawInt 0, rawInt c, rawInt p, rawInt p, .bool false, .ref l, .bool false], []⟩)) (do
            let joiner ← reSlice x.cps 0 0 0
            let text ← if ((← seqItems? (.ref l)).getD #[]).isEmpty then pure joiner else call (.builtin "str.join") [joiner, .ref l]
            ret text) (fun fin s' => match fin with | .done f => R (.ok f) s' | .again c' => c'.quiet = true ∧ codeAny (model prog w) A c' R s') (fun e s' => R (.error e) s') s' := by
        intro s' acc' n' done' hl' hacc' hfl' hlen' hR'
        have z0 : (⟨x.cps.extract 0 0⟩ : Str) = ⟨#[]⟩ := by simp
        refine wpAny_bind (m := mkStr ⟨x.cps.extract 0 0⟩) (wpAny_mkStr ?_ (by rw [z0]; exact Nat.zero_le _))
        rw [z0]
        refine wpAny_bind (m := seqItems? (.ref l)) (wpAny_seqItems (s := { s' with toks := s'.toks + 1 }) hl' rfl ?_)
        show wpAny _ _ (if acc'.isEmpty = true then pure _ else _) _ _ _
        by_cases he : acc'.isEmpty = true
        · rw [if_pos he]
          refine wpAny_pure ?_
          have d0 : done' = [] := by
            have : acc'.toList = [] := by simpa using he
            rw [this] at hacc'
            cases done' with
            | nil => rfl
            | cons a b => simp [strValues] at hacc'
          subst d0
          have f0 : F 0 = [] := by rw [← hfl']; rfl
          have := hR' s'.toks (s'.toks + 1)
          rw [f0] at this
          exact this
        · rw [if_neg he]
          have ea : acc' = (strValues done').toArray := by rw [← hacc']
          have hIs : s'.heap.IsList l (strValues done').toArray := ⟨_, hl', rfl, n', by rw [← ea]⟩
          have etx : (Txt.join ⟨#[]⟩ (done'.map (·.1))) = ⟨(F 0).toArray⟩ := by
            apply str_eq
            rw [glued_nil, ← hfl', List.flatMap_map]
          have hsum : ((done'.map (·.1)).map (·.length)).sum = (F 0).length := by
            rw [← hfl', List.length_flatMap, List.map_map]; rfl
          refine wpAny_bind (SC.join (s := { s' with toks := s'.toks + 1 }) (texts := done'.map (·.1)) hIs rfl (joinOk_of ?_) fun t' tk => ?_)
          · rw [hsum]
            show (F 0).length + (done'.map (·.1)).length * 0 ≤ 16777216
            omega
          · rw [etx]
            exact wpAny_pure (hR' t' tk)
      have hdr : x.cps.toList.drop p = (x.cps.extract p x.cps.size).toList := by simp; rw [List.take_of_length_le]; simp
      by_cases hlt : p < x.cps.size
      · rw [if_pos hlt]
        refine wpAny_bind (m := mkStr ⟨x.cps.extract p x.cps.size⟩) (wpAny_mkStr ?_ (by show (x.cps.extract p x.cps.size).size ≤ _; rw [Array.size_extract]; omega))
        refine wpAny_bind (wpAny_updateSeq (s := { s with toks := s.toks + 1 }) (f := (·.push (.str ⟨x.cps.extract p x.cps.size⟩ s.toks))) hl rfl ?_ (by omega) (by rw [Array.size_push]; omega))
        refine fin _ _ _ (done ++ [(⟨x.cps.extract p x.cps.size⟩, s.toks)]) (Heap.get?_update_self _ hl rfl) (strVals_push _ _ _ _ hacc) ?_ (by simp; omega) fun u tk => ?_
        · rw [List.flatMap_append, ← hfl, hf, hdr]; simp
        · exact hR _ _ _ fun b o hb e => (Heap.get?_update_other _ _ (fun h : l = b => hb h.symm)).trans e
      · rw [if_neg hlt]
        refine fin s _ _ done hl hacc ?_ (by omega) fun u tk => hR _ _ _ fun _ _ _ e => e
        rw [← hfl, hf]
        have : p = x.cps.size := by omega
        subst this
        simp
    · refine .inl ⟨ho, ?_⟩
      show wpAny _ _ (do
        if p < r.start then updateSeq l (·.push (← reSlice x.cps 0 p r.start))
        let item ← pure (.str lit tl)
        if item != .none then updateSeq l (·.push item)
        again (.builtin "re.Pattern.sub.loop" ⟨[.ref P, .str x tx, .str lit tl, rawInt 0, rawInt 0, rawInt (c + 1), rawInt r.handed, rawInt r.handed, .bool (r.handed == r.start), .ref l, .bool false], []⟩)) _ _ s
      have hb : (r.handed == r.start) = false := by simp only [beq_eq_false_iff_ne]; omega
      rw [hb]
      have fin : ∀ (s' : Shared) (acc' : Array Value) (n' : Nat) (done' : List (Str × Tok)), s'.heap.get? l = some { cls := .type "list", data := .seq acc' n' } → acc'.toList = strValues done' →
          done'.flatMap (fun q => q.1.cps.toList) = done.flatMap (fun q => q.1.cps.toList) ++ (x.cps.extract p r.start).toList → done'.length + 1 ≤ 2 * r.handed →
          (∀ b o, b ≠ l → s.heap.get? b = some o → s'.heap.get? b = some o) → s'.gens = s.gens → s'.drawn = s.drawn → s'.os = s.os →
          wpAny (model prog w) (A.under (.builtin "re.Pattern.sub.loop" ⟨[.ref P, .str x tx, .str lit tl, rawInt 0, rawInt 0, rawInt c, rawInt p, rawInt p, .bool false, .ref l, .bool false], []⟩)) (do
            updateSeq l (·.push (.str lit tl))
            again (.builtin "re.Pattern.sub.loop" ⟨[.ref P, .str x tx, .str lit tl, rawInt 0, rawInt 0, rawInt (c + 1), rawInt r.handed, rawInt r.handed, .bool false, .ref l, .bool false], []⟩)) (fun fin s' => match fin with | .done f => R (.ok f) s' | .again c' => c'.quiet = true ∧ codeAny (model prog w) A c' R s') (fun e s' => R (.error e) s') s' := by
        intro s' acc' n' done' hl' hacc' hfl' hlen' hk' g1 g2 g3
        have hasz' : acc'.size = done'.length := by
          have e1 : acc'.toList.length = acc'.size := by simp
          rw [← e1, hacc']; simp [strValues]
        refine wpAny_bind (wpAny_updateSeq hl' rfl ?_ (by omega) (by rw [Array.size_push]; omega))
        refine wpAny_pure ⟨quiet_sub_loop _, ?_⟩
        have hkk : ∀ b o, b ≠ l → s.heap.get? b = some o → (s'.heap.update l (Obj.mapSeq (·.push (.str lit tl)))).get? b = some o := fun b o hb e => (Heap.get?_update_other _ _ (fun h : l = b => hb h.symm)).trans (hk' b o hb e)
        refine ih r.handed (c + 1) _ _ _ (done' ++ [(lit, tl)]) (by omega) h3 (fun h' hh => hpat h' fun b o hb e => hh b o hb (hkk b o hb e)) (Heap.get?_update_self _ hl' rfl) (strVals_push _ _ _ _ hacc') (by simp; omega) ?_ ?_
        · rw [List.flatMap_append, hfl', ← hfl, hf]; simp
        · intro h' u tk hh
          have := hR h' u tk fun b o hb e => hh b o hb (hkk b o hb e)
          show R _ { heap := h', gens := s'.gens, drawn := s'.drawn, toks := tk, os := s'.os }
          rw [g1, g2, g3]; exact this
      by_cases hlt : p < r.start
      · rw [if_pos hlt]
        refine wpAny_bind (m := mkStr ⟨x.cps.extract p r.start⟩) (wpAny_mkStr ?_ (by show (x.cps.extract p r.start).size ≤ _; rw [Array.size_extract]; omega))
        refine wpAny_bind (wpAny_updateSeq (s := { s with toks := s.toks + 1 }) (f := (·.push (.str ⟨x.cps.extract p r.start⟩ s.toks))) hl rfl ?_ (by omega) (by rw [Array.size_push]; omega))
        refine fin _ _ _ (done ++ [(⟨x.cps.extract p r.start⟩, s.toks)]) (Heap.get?_update_self _ hl rfl) (strVals_push _ _ _ _ hacc) ?_ (by simp; omega) (fun b o hb e => (Heap.get?_update_other _ _ (fun h : l = b => hb h.symm)).trans e) rfl rfl rfl
        rw [List.flatMap_append]; simp
      · rw [if_neg hlt]
        refine fin s _ _ done hl hacc ?_ (by omega) (fun _ _ _ e => e) rfl rfl rfl
        have : p = r.start := by omega
        rw [this]; simp
theorem sub_loop : ∀ {prog w A R P a x b c tl F}, @T7 prog w A R P a x b c tl F := no_implicit_lambda% (u7.get rfl)
end
section
variable {prog : Program} {w : World} {A : Around} {E : Value → Shared → Prop} {s : Shared} {h₀ : Heap} {L : Addr} {m : Str → Option Value} {news : Led}
theorem u8 : Up 8 := by
  refine u7.step rfl ?_
  k_extra "st"
  iterate 17 k_extra "g"
  intro Q F tl tx lit x code P news m L h₀ s E A w prog fr nw hP hT spec hsz hF hlit ret
  refine wpAny_call (codeAny_call_builtin slot_pat_sub.plain entry_pat_sub (slot_pat_sub.check _ _ _ _ _ _ _ _ hT (args_pat_sub _ _ _) ?_))
  unfold Builtin.«re.Pattern.sub» reSubstitute
  refine wpAny_bind (m := reNamed "re.Pattern.sub" "sub" ["repl", "string", "count"] 2 [.str lit tl, .str x tx] []) (wpAny_of_eq (a := [some (.str lit tl), some (.str x tx), none]) (by rfl) ?_)
  refine wpAny_bind (m := pure (0 : Int)) (wpAny_pure ?_)
  refine wpAny_bind (m := specialOf (.str lit tl) "__call__") (wpAny_specialOf (typeIs_str _ _ _) str_nocall ?_)
  refine wpAny_bind (m := asStr? (.str lit tl)) (wpAny_pure ?_)
  refine wpAny_bind (m := pure (!lit.cps.contains 92)) (wpAny_pure ?_)
  rw [hlit]
  refine wpAny_bind (m := pure (Value.str lit tl, (0 : Int))) (wpAny_pure ?_)
  refine wpAny_bind (m := holding [.str lit tl] (reWholeTarget (.ref P) (.str x tx))) (wpAny_holding (wp_whole (hP _ fun _ _ e => e) ?_))
  refine wpAny_bind (m := newList []) (wpAny_newList ?_)
  refine wpAny_pure ⟨quiet_sub_loop _, ?_⟩
  have up : ∀ b o, s.heap.get? b = some o → (s.heap.push { cls := .type "list", data := .seq [].toArray }).get? b = some o := fun b o e => Heap.get?_push_of_some _ e
  have ne : ∀ b o, s.heap.get? b = some o → b ≠ s.heap.objs.size := fun b o e => Nat.ne_of_lt (Heap.lt_size e)
  refine sub_loop spec hsz hF s.heap.objs.size (x.cps.size + 1) 0 0 _ #[] 0 [] (by omega) (Nat.zero_le _) (fun h' hh => hP h' fun b o e => hh b o (ne b o e) (up b o e)) (Heap.get?_push_size _ rfl) rfl (Nat.zero_le _) (by simp) fun h' u tk hh => ?_
  have k : ∀ b o, s.heap.get? b = some o → h'.get? b = some o := fun b o e => hh b o (ne b o e) (up b o e)
  exact ret u h' tk (fr.keeps k) (nw.grown k)
theorem sub_call : ∀ {prog w A E s h₀ L m news P a x b c tl F Q}, @T8 prog w A E s h₀ L m news P a x b c tl F Q := no_implicit_lambda% (u8.get rfl)
end
end
section -- S2
open PySem PySem.W PyProof.Rows
theorem run_free (text : Array Nat) (G : Nat → List Nat) (bad : Nat → Prop) (step : ∀ p, p < text.size → ¬ bad p → G p = text[p]?.getD 0 :: G (p + 1)) :
    ∀ (d p q : Nat), q - p = d → p ≤ q → q ≤ text.size → (∀ i, p ≤ i → i < q → ¬ bad i) → G p = (text.extract p q).toList ++ G q := by
  intro d
  induction d with
  | zero =>
    intro p q h1 h2 h3 h4
    have : p = q := by omega
    subst this; simp
  | succ d ih =>
    intro p q h1 h2 h3 h4
    have hlt : p < text.size := by omega
    rw [step p hlt (h4 p (Nat.le_refl _) (by omega)), ih (p + 1) q (by omega) (by omega) h3 fun i h5 h6 => h4 i (by omega) h6]
    have e : (text.extract p q).toList = text[p]?.getD 0 :: (text.extract (p + 1) q).toList := by
      simp only [Array.toList_extract, List.extract_eq_take_drop]
      rw [List.drop_eq_getElem_cons (by simpa using hlt)]
      have : q - p = (q - (p + 1)) + 1 := by omega
      rw [this, List.take_succ_cons]
      simp [hlt]
    rw [e]; rfl
theorem drop_at (text : Array Nat) (p : Nat) (h : p < text.size) : text.toList.drop p = text[p]?.getD 0 :: text.toList.drop (p + 1) := by
  rw [List.drop_eq_getElem_cons (by simpa using h)]
  simp [h]
theorem F2_free (text : Array Nat) (p : Nat) (h : p < text.size) (hn : ¬ nlAt text p) : F2 text p = text[p]?.getD 0 :: F2 text (p + 1) := by
  unfold F2
  rw [drop_at text p h, n2, if_neg (fun e => hn (.inl e)), if_neg (fun e => hn (.inr e))]
theorem n2_true {l : List Nat} (h : l[0]?.getD 0 ≠ 10) : n2 true l = n2 false l := by
  cases l with
  | nil => rfl
  | cons c r =>
    have : c ≠ 10 := by simpa using h
    rw [n2, n2, if_neg this, if_neg this]
theorem F2_hit (text : Array Nat) (p : Nat) (h : p < text.size) (hn : nlAt text p) : F2 text p = [13, 10] ++ F2 text (p + nlLen text p) := by
  unfold F2
  rw [drop_at text p h, n2]
  unfold nlLen
  rcases hn with hn | hn
  · rw [if_pos hn, if_neg Bool.false_ne_true, if_neg (fun x => by omega)]; rfl
  · rw [if_neg (by omega), if_pos hn]
    by_cases h2 : text[p + 1]?.getD 0 = 10
    · rw [if_pos ⟨hn, h2⟩]
      have hlt : p + 1 < text.size := by
        apply Nat.lt_of_not_le; intro hle
        rw [Array.getElem?_eq_none hle] at h2; cases h2
      rw [drop_at text (p + 1) hlt, n2, if_pos h2]; rfl
    · rw [if_neg (fun x => h2 x.2), n2_true]
      · rfl
      · simpa using h2
theorem F2_end (text : Array Nat) : F2 text text.size = [] := by unfold F2; rw [List.drop_eq_nil_of_le (by simp)]; rfl
theorem F1_end (text : Array Nat) : F1 text text.size = [] := by unfold F1; rw [List.drop_eq_nil_of_le (by simp)]; rfl
theorem F1_free (text : Array Nat) (p : Nat) (h : p < text.size) (hn : ¬ dotAt text p) : F1 text p = text[p]?.getD 0 :: F1 text (p + 1) := by
  unfold F1
  rw [drop_at text p h, dt, if_neg (fun x => hn ⟨of_decide_eq_true x.1, x.2⟩)]
  have e : (text[p]?.getD 0 == 10) = decide (p + 1 = 0 ∨ text[p + 1 - 1]?.getD 0 = 10) := by
    rw [Bool.eq_iff_iff]; simp
  rw [e]
theorem F1_hit (text : Array Nat) (p : Nat) (h : p < text.size) (hn : dotAt text p) : F1 text p = [46, 46] ++ F1 text (p + 1) := by
  unfold F1
  rw [drop_at text p h, dt, if_pos ⟨decide_eq_true hn.1, hn.2⟩]
  have e : decide (p + 1 = 0 ∨ text[p + 1 - 1]?.getD 0 = 10) = false := by simp [hn.2]
  rw [e]; rfl
theorem spec2 (text : Array Nat) (hs : text.size ≤ 1000) : SpecF c2 text [13, 10] (F2 text) := by
  intro p hp
  obtain ⟨r, h1, h2⟩ := search2 text p hp
  refine ⟨r, _, by decide, h2, ?_⟩
  rcases h1 with ⟨a, b⟩ | ⟨a, b, c, d, e, f⟩
  · refine .inl ⟨a, ?_⟩
    have := run_free text (F2 text) (nlAt text) (fun p h hn => F2_free text p h hn) _ p text.size rfl hp (Nat.le_refl _) b
    rw [this, F2_end]; simp; rw [List.take_of_length_le]; simp
  · have hl : nlLen text r.start ≤ text.size - r.start ∧ 0 < nlLen text r.start := by
      unfold nlLen
      split
      · rename_i h
        have hlt : r.start + 1 < text.size := by
          apply Nat.lt_of_not_le; intro hle
          rw [Array.getElem?_eq_none hle] at h; cases h.2
        omega
      · omega
    refine .inr ⟨a, b, by omega, by omega, ?_⟩
    rw [run_free text (F2 text) (nlAt text) (fun p h hn => F2_free text p h hn) _ p r.start rfl b (by omega) f, F2_hit text r.start c e, d, List.append_assoc]
theorem spec1 (text : Array Nat) (hs : text.size ≤ 1000) : SpecF c1 text [46, 46] (F1 text) := by
  intro p hp
  obtain ⟨r, h1, h2⟩ := search1 text p hp
  refine ⟨r, _, by omega, h2, ?_⟩
  rcases h1 with ⟨a, b⟩ | ⟨a, b, c, d, e, f⟩
  · refine .inl ⟨a, ?_⟩
    have := run_free text (F1 text) (dotAt text) (fun p h hn => F1_free text p h hn) _ p text.size rfl hp (Nat.le_refl _) b
    rw [this, F1_end]; simp; rw [List.take_of_length_le]; simp
  · refine .inr ⟨a, b, by omega, by omega, ?_⟩
    rw [run_free text (F1 text) (dotAt text) (fun p h hn => F1_free text p h hn) _ p r.start rfl b (by omega) f, F1_hit text r.start c e, d, List.append_assoc]
theorem n2_len : ∀ (l : List Nat) (b : Bool), (n2 b l).length ≤ 2 * l.length
  | [], _ => Nat.le_refl _
  | c :: r, b => by
    rw [n2]
    have h1 := n2_len r false
    have h2 := n2_len r true
    simp only [List.length_cons]
    split
    · split
      · omega
      · simp only [List.length_cons]; omega
    · split
      · simp only [List.length_cons]; omega
      · simp only [List.length_cons]; omega
theorem dt_len : ∀ (l : List Nat) (b : Bool), (dt b l).length ≤ 2 * l.length
  | [], _ => Nat.le_refl _
  | c :: r, b => by
    rw [dt]
    have h1 := dt_len r false
    have h2 := dt_len r (c == 10)
    simp only [List.length_cons]
    split <;> (simp only [List.length_cons]; omega)
theorem pat1 {w : World} {h₀ : Heap} (X : (h0.heap_1 w.params).In h₀) : ∀ h' : Heap, (∀ b o, h₀.get? b = some o → h'.get? b = some o) → PatAt h' 122 c1 := fun h' hh =>
  ⟨_, _, _, _, _, _, _, _, _, hh _ _ (X 122 _ rfl), hh _ _ (X 121 _ rfl), by simp [c1, Builtin.Re.reRawOf]⟩
theorem pat2 {w : World} {h₀ : Heap} (X : (h0.heap_1 w.params).In h₀) : ∀ h' : Heap, (∀ b o, h₀.get? b = some o → h'.get? b = some o) → PatAt h' 127 c2 := fun h' hh =>
  ⟨_, _, _, _, _, _, _, _, _, hh _ _ (X 127 _ rfl), hh _ _ (X 126 _ rfl), by simp [c2, Builtin.Re.reRawOf]⟩
end
section -- R0
open PySem PySem.W PyProof.Rows
section
variable {M : Model} {A : Around} {E : Value → Shared → Prop} {s : Shared} {base : Heap} {env : Env} {outer l : List Env} {L e : Addr} {oe : Obj} {vs : Array Value} {Q : Unit → Shared → Prop}
theorem not_record {h : Heap} {b e : Addr} {o x : Obj} {vs : Array Value} (he : h.get? e = some x) (hx : x.data = .fields vs) (hb : h.get? b = some o) (hnf : ∀ vs, o.data ≠ .fields vs) : b ≠ e := fun q => by
  rw [q, he] at hb; injection hb with hb; subst hb; exact hnf vs hx
theorem trail_core {head : Value} {hadNext : Bool} (hfr : A.frames = some (env :: outer)) (hl : s.heap.FunFrames base (env :: outer)) (hf : env.frame = some L)
    (he : s.heap.get? e = some { oe with data := .fields vs }) (hkb : base.StaysIn s.heap) (hen : base.get? e = none) (hsz : 1 < vs.size)
    (h : ∀ h', base.StaysIn h' → h'.FunFrames base (env :: outer) → Trail h' base e oe (rawInt L) → s.heap.UpToSlots h' → Q () { s with heap := h' }) :
    wpAny M A (do let a ← frameOf env; let pl ← entryPlaceOf L hadNext; let b ← EntryCells.newEntry head a .none (rawInt L) .none pl; setField (.ref e) 1 b) Q E s := by
  have hene : e ∉ (env :: outer).filterMap (·.frame) := fun hm => by
    obtain ⟨_, o, ho, hnf⟩ := hl.mem hm
    rw [he] at ho; injection ho with ho; subst ho; exact hnf vs rfl
  refine wpAny_bind (wpAny_frameOf_fun hfr hl hf fun h₁ hs₁ => ?_)
  refine wpAny_bind (wpAny_entryPlaceOf fun pl hpl => ?_)
  unfold EntryCells.newEntry newFields
  refine wpAny_bind (wpAny_newObj_type ?_ (hpl.sizeOk5 _ _ _ _ _))
  have he₁ : h₁.get? e = some { oe with data := .fields vs } := (hs₁.2.1 e hene).trans he
  have kb₁ : base.StaysIn h₁ := fun b o hbo => (hs₁.2.1 b fun hm => by rw [(hl.mem hm).1] at hbo; cases hbo).trans (hkb b o hbo)
  generalize hT : ({ cls := .type "traceback", dict := none, data := .fields ([head, .ref L, .none, rawInt L, .none] ++ (if pl.isEmpty then List.replicate 6 Value.none else pl)).toArray } : Obj) = oT
  have he₂ := Heap.get?_push_of_some (h := h₁) oT he₁
  have hTe : h₁.objs.size ≠ e := Nat.ne_of_gt (Heap.lt_size he₁)
  have keep : ∀ b o, b ≠ e → h₁.get? b = some o → ((h₁.push oT).update e (Obj.mapFields (·.setIfInBounds 1 (Value.ref h₁.objs.size)))).get? b = some o := fun b o hbe hb => by
    rw [Heap.get?_update_other _ _ (Ne.symm hbe)]
    exact Heap.get?_push_of_some _ hb
  refine wpAny_setField he₂ rfl hsz (h _ ?_ ?_ ?_ ?_)
  · exact fun b o hbo => keep b o (fun q => by rw [q, hen] at hbo; cases hbo) (kb₁ b o hbo)
  · refine hl.of_keeps fun b o hb hnf => ?_
    obtain ⟨sl, hs⟩ := hs₁.2.2 b o hb
    exact ⟨_, keep b _ (not_record he rfl hb hnf) hs, rfl⟩
  · refine ⟨_, h₁.objs.size, oT, _, Heap.get?_update_self _ he₂ rfl, by simp [hsz], kb₁.fresh, hTe, (Heap.get?_update_other _ _ (Ne.symm hTe)).trans (Heap.get?_push_size h₁ (by rw [← hT]; rfl)), by rw [← hT], ?_⟩
    first | (simp; done) | (rcases hpl with rfl | ⟨_, _, _, _, _, _, _, rfl⟩ <;> simp)
  · intro b o hb hnf
    obtain ⟨sl, hs⟩ := hs₁.2.2 b o hb
    exact ⟨sl, keep b _ (not_record he rfl hb hnf) hs⟩
theorem trail_land {fl : Value} (hkb : base.StaysIn s.heap) (hl : s.heap.FunFrames base l) (ht : Trail s.heap base e oe fl)
    (h : ∀ h', base.StaysIn h' → h'.FunFrames base l → Trail h' base e oe .none → s.heap.UpToSlots h' → Q () { s with heap := h' }) : wpAny M A (setFlight (.ref e) none) Q E s := by
  obtain ⟨vs, T, oT, ts, he, h1, hnT, hTe, hT, hdT, h3⟩ := ht
  have hsz3 : 3 < ts.size := (Array.getElem?_eq_some_iff.mp h3).1
  have other : ∀ b, b ≠ T → (s.heap.update T (Obj.mapFields (·.setIfInBounds 3 ((none : Option Addr).elim Value.none fun f => rawInt f)))).get? b = s.heap.get? b := fun b hb => Heap.get?_update_other _ _ (Ne.symm hb)
  unfold setFlight
  refine wpAny_bind (wpAny_field he rfl h1 ?_)
  rw [if_pos (show (Value.ref T != Value.none) = true from by simp)]
  refine wpAny_setField hT hdT hsz3 (h _ (fun b o hbo => (other b fun q => by rw [q, hnT] at hbo; cases hbo).trans (hkb b o hbo))
    (hl.of_keeps fun b o hb hnf => ⟨o, (other b (not_record hT hdT hb hnf)).trans hb, rfl⟩) ?_ fun b o hb hnf => ⟨o.slots, (other b (not_record hT hdT hb hnf)).trans hb⟩)
  exact ⟨vs, T, _, _, (other e (Ne.symm hTe)).trans he, h1, hnT, hTe, Heap.get?_update_self _ hT (Obj.isFreed_of_fields (Obj.data_mapFields hdT _)), Obj.data_mapFields hdT _, by simp [hsz3]⟩
theorem trail_note (hfr : A.frames = some (env :: outer)) (hl : s.heap.FunFrames base (env :: outer)) (hf : env.frame = some L) (ht : Trail s.heap base e oe .none) (hkb : base.StaysIn s.heap) (hen : base.get? e = none)
    (h : ∀ h', base.StaysIn h' → h'.FunFrames base (env :: outer) → Trail h' base e oe (rawInt L) → s.heap.UpToSlots h' → Q () { s with heap := h' }) : wpAny M A (noteFrame (.ref e) env) Q E s := by
  obtain ⟨vs, T, oT, ts, he, h1, hnT, hTe, hT, hdT, h3⟩ := ht
  unfold noteFrame
  simp only [hf]
  refine wpAny_bind (wpAny_field he rfl h1 ?_)
  rw [if_pos (show (Value.ref T != Value.none) = true from by simp)]
  refine wpAny_bind (wpAny_field hT hdT h3 ?_)
  rw [if_neg (show ¬ ((Value.none == rawInt L) = true) from by simp [rawInt])]
  refine wpAny_bind (wpAny_setField hT hdT (Array.getElem?_eq_some_iff.mp h3).1 ?_)
  have other : ∀ b, b ≠ T → (s.heap.update T (Obj.mapFields (·.setIfInBounds 3 Value.none))).get? b = s.heap.get? b := fun b hb => Heap.get?_update_other _ _ (Ne.symm hb)
  exact trail_core hfr (hl.of_keeps fun b o hb hnf => ⟨o, (other b (not_record hT hdT hb hnf)).trans hb, rfl⟩) hf ((other e (Ne.symm hTe)).trans he)
    (fun b o hbo => (other b fun q => by rw [q, hnT] at hbo; cases hbo).trans (hkb b o hbo)) hen (Array.getElem?_eq_some_iff.mp h1).1
    fun h' x1 x2 x3 x4 => h h' x1 x2 x3 fun b o hb hnf => x4 b o ((other b (not_record hT hdT hb hnf)).trans hb) hnf
theorem fly_first (hfr : A.frames = some (env :: outer)) (hl : s.heap.FunFrames base (env :: outer)) (hf : env.frame = some L)
    (he : s.heap.get? e = some { oe with data := .fields vs }) (hkb : base.StaysIn s.heap) (hen : base.get? e = none) (h1 : vs[1]? = some .none)
    (h : ∀ h', FlyX base outer e oe h' → s.heap.UpToSlots h' → Q () { s with heap := h' }) : wpAny M A (leaving env (.ref e)) Q E s := by
  unfold leaving noteFrame
  simp only [hf]
  refine wpAny_bind (wpAny_bind (wpAny_field he rfl h1 ?_))
  rw [if_neg (by decide)]
  exact trail_core hfr hl hf he hkb hen (Array.getElem?_eq_some_iff.mp h1).1 fun h' x1 x2 x3 x4 => trail_land x1 x2 x3 fun h'' y1 ⟨_, _, y2⟩ y3 y4 => h h'' ⟨y1, hen, y2, y3⟩ (x4.trans y4)
theorem fly_on (hfr : A.frames = some (env :: outer)) (hf : env.frame = some L) (hx : FlyX base (env :: outer) e oe s.heap)
    (h : ∀ h', FlyX base outer e oe h' → s.heap.UpToSlots h' → Q () { s with heap := h' }) : wpAny M A (leaving env (.ref e)) Q E s := by
  obtain ⟨f1, f2, f3, f4⟩ := hx
  unfold leaving
  exact wpAny_bind (trail_note hfr f3 hf f4 f1 f2 fun h' x1 x2 x3 x4 => trail_land x1 x2 x3 fun h'' y1 ⟨_, _, y2⟩ y3 y4 => h h'' ⟨y1, f2, y2, y3⟩ (x4.trans y4))
end
section
variable {M : Model} {A : Around} {E : Value → Shared → Prop} {s' : Shared} {base g g₂ h : Heap} {outer : List Env} {L a e : Addr} {m : Str → Option Value} {name : Str} {scope : Scope} {cd : Value} {Q : Unit → Shared → Prop} {news : Led} {oe : Obj} {vs : Array Value}
theorem leave_raiseX (K : Below A base outer g) (F : Fr g L s'.heap m) (N : News g L s'.heap ((e, { oe with data := .fields vs }) :: news)) (hne : ∀ q ∈ news, q.1 ≠ e) (h1 : vs[1]? = some .none)
    (hQ : ∀ h', RaisedX base g outer e oe news h' → g.UpToSlots h' → Q () { s' with heap := h' }) (hk : scope.kind = .function := by rfl) :
    wpAny M (A.deeper (envOf name scope L a cd)) (leaving (envOf name scope L a cd) (.ref e)) Q E s' := by
  have K' := K.push (name := name) (a := a) (cd := cd) F hk
  have he := N _ List.mem_cons_self
  have hide : ∀ b o, s'.heap.get? b = some o → b ≠ e → b ∉ (envOf name scope L a cd :: outer).filterMap (·.frame) → (hideAll s'.heap (e :: (envOf name scope L a cd :: outer).filterMap (·.frame))).get? b = some o := fun b o q ne nm => hideAll_get _ q fun hm => by
    rcases List.mem_cons.mp hm with z | z
    · exact ne z
    · exact nm z
  have nf : ∀ b, b ∈ (envOf name scope L a cd :: outer).filterMap (·.frame) → g.get? b = none → b = L := fun b hm q => by
    rcases kts_mem hm with z | z
    · exact z
    · obtain ⟨o, ho, _⟩ := (K.frames.mem z).2
      rw [q] at ho; cases ho
  have eg : ∀ b o, g.get? b = some o → b ≠ e := fun b o q z => by rw [z, he.2.2] at q; cases q
  have st : base.StaysIn (hideAll s'.heap (e :: (envOf name scope L a cd :: outer).filterMap (·.frame))) := fun b o q => hide b o (K'.stays b o q) (eg b o (K.stays b o q)) fun hm => by
    rw [(K'.frames.mem hm).1] at q; cases q
  have sg : ∀ b o, g.get? b = some o → b ∉ outer.filterMap (·.frame) → (hideAll s'.heap (e :: (envOf name scope L a cd :: outer).filterMap (·.frame))).get? b = some o := fun b o q nm => hide b o (F.keep b o q) (eg b o q) fun hm => by
    rcases kts_mem hm with z | z
    · rw [z, kts_self F] at q; cases q
    · exact nm z
  refine fly_first (oe := oe) (vs := vs) (base := hideAll s'.heap (e :: (envOf name scope L a cd :: outer).filterMap (·.frame))) K'.stack (funFrames_hide K'.frames fun env he b hb => List.mem_cons_of_mem _ (List.mem_filterMap.mpr ⟨env, he, hb⟩)) rfl he.1 (fun b o q => of_hideAll _ q) (hideAll_none _ List.mem_cons_self) h1 fun h' x1 x2 => ?_
  exact hQ h' ⟨_, st, sg, fun q hq => by
    have hq' := N q (List.mem_cons_of_mem _ hq)
    exact ⟨hide _ _ hq'.1 (hne q hq) fun hm => hq'.2.1 (nf _ hm hq'.2.2), hq'.2.2, fresh_of_stays K.stays hq'.2.2⟩, x1⟩ ((Heap.UpToSlots.of_keeps F.keep).trans x2)
theorem leave_onX (K : Below A base outer g) (F : Fr g L g₂ m) (R : RaisedX base g₂ (envOf name scope L a cd :: outer) e oe news s'.heap) (hsm : g₂.UpToSlots s'.heap)
    (hQ : ∀ h', RaisedX base g outer e oe news h' → g.UpToSlots h' → Q () { s' with heap := h' }) :
    wpAny M (A.deeper (envOf name scope L a cd)) (leaving (envOf name scope L a cd) (.ref e)) Q E s' := by
  obtain ⟨B, hB, hBG, hl, hfl⟩ := R
  exact fly_on (Around.frames_deeper K.stack) rfl hfl fun h' x1 x2 => hQ h' ⟨B, hB, fun b o q nm => hBG b o (F.keep b o q) (fun hm => by
      rcases kts_mem hm with z | z
      · rw [z, kts_self F] at q; cases q
      · exact nm z), fun q hq => ⟨(hl q hq).1, kts_none F.keep (hl q hq).2.1, (hl q hq).2.2⟩, x1⟩ ((Heap.UpToSlots.of_keeps F.keep).trans (hsm.trans x2))
end
end
section -- R1
open PySem PySem.W PyProof.Rows
section
open Builtin
theorem os_kind : builtinKind "OSError.__new__" = some .builtinFn := by decide +kernel
theorem os_split : splitId "OSError.__new__" = some ("OSError", "__new__") := by decide +kernel
theorem os_row : Manifest.signature? "OSError.__new__" = some ⟨.constructor, "*", "OSError", .cls, [⟨"args", .varPos, false⟩]⟩ := by kernel_rfl
theorem os_entry : entryFor table "OSError.__new__" = some Builtin.«OSError.__new__» := entryFor_of_tree (by kernel_rfl)
theorem os_check (full short : String) (n : Nat) : Bind.check ⟨.constructor, "*", "OSError", .cls, [⟨"args", .varPos, false⟩]⟩ full short n [] = pure () := by
  simp [Bind.check, Bind.checkCount, Bind.isPositional]
  intro _ h
  exact absurd h (by decide)
theorem os_check_wp {M : Model} {A : Around} {E : Value → Shared → Prop} {s : Shared} {Q : Unit → Shared → Prop} {full short : String} {n : Nat} (q : Q () s) :
    wpAny M A (Bind.check ⟨.constructor, "*", "OSError", .cls, [⟨"args", .varPos, false⟩]⟩ full short n []) Q E s := by rw [os_check]; exact wpAny_pure q
theorem u9 : Up 9 := by
  refine u8.step rfl ?_
  k_extra "st"
  iterate 4 k_extra "g"
  intro C h M K X e
  unfold osIn at e
  split at e
  · rename_i oc od cd sl ho
    simp only [Bool.and_eq_true, Bool.not_eq_true', beq_iff_eq] at e
    obtain ⟨⟨⟨⟨⟨⟨⟨⟨e2, e3⟩, e4⟩, e5⟩, e6⟩, e6b⟩, e7⟩, e8⟩, e9⟩ := e
    have hc : clsIn K C = some cd := by unfold clsIn; rw [ho]
    have hm : Looks M h (mroOf (.ref C)) cd.mro := (looks_clsIn X hc).andThen .now
    obtain ⟨c, l, hl⟩ : ∃ c l, cd.mro = c :: l := by cases q : cd.mro with | nil => rw [q] at e4; cases e4 | cons c l => exact ⟨c, l, rfl⟩
    have made : Looks M h (Bind.madeBy (.ref C)) (some "OSError.__new__") := fun A Q E s k q => by
      unfold Bind.madeBy
      refine wpAny_bind (hm A _ E s k ?_)
      rw [hl, List.forIn_cons]
      refine wpAny_bind (wpAny_bind (wpAny_bind (wpAny_bind (wpAny_loadPart (k _ _ (X _ _ ho)) (wpAny_pure ?_)))))
      dsimp only
      rw [← Array.getElem?_toList, e3]
      exact wpAny_pure (wpAny_pure (wpAny_pure q))
    have sub : ∀ b, cd.mro.contains b = true → Looks M h (isSubtype (.ref C) b) true := fun b hb => looks_mroIn X (by unfold mroIn; rw [hc, Option.bind_some, if_neg (by rw [e4]; decide), hb])
    refine ⟨⟨oc, od, cd, sl, X _ _ ho, e2, e4⟩, made, fun A Q E s k q => ?_, sub _ e5, sub _ e6, sub _ e6b, looks_specialIn X e7, looks_instIn X e8, looks_typeIn X e9⟩
    unfold Bind.staticBase
    refine wpAny_bind (hm A _ E s k ?_)
    rw [hl, List.forIn_cons]
    exact wpAny_bind (wpAny_bind (wpAny_bind (made A _ E s k (wpAny_pure (wpAny_pure (wpAny_pure q))))))
  · cases e
theorem osMakes_of : ∀ {K M h a}, @T9 K M h a := no_implicit_lambda% (u9.get rfl)
section
variable {prog : Program} {w : World} {A : Around} {C : Addr} {R : Result → Shared → Prop} {h : Heap} {g : Array GenState} {d : Drawn} {t : Nat} {os : OsState}
theorem wp_neg {α : Type} {M : Model} {A : Around} {c : Prop} [Decidable c] {a b : Sem α} {Q : α → Shared → Prop} {E : Value → Shared → Prop} {s : Shared} (h : ¬ c) (k : wpAny M A b Q E s) : wpAny M A (if c then a else b) Q E s := by rw [if_neg h]; exact k
theorem wp_pos {α : Type} {M : Model} {A : Around} {c : Prop} [Decidable c] {a b : Sem α} {Q : α → Shared → Prop} {E : Value → Shared → Prop} {s : Shared} (h : c) (k : wpAny M A a Q E s) : wpAny M A (if c then a else b) Q E s := by rw [if_pos h]; exact k
set_option maxRecDepth 100000 in
theorem u10 : Up 10 := by
  refine u9.step rfl ?_
  k_extra "st"
  iterate 12 k_extra "g"
  intro f rest os t d g h R C A w prog Y hi hq
  obtain ⟨⟨oc, od, cd, sl, hC, e2, e4⟩, made, base, self, top, exc, call, typ, mt⟩ := Y
  refine codeAny_call_builtin_code (Code.quiet_builtin _ (by decide +kernel)) ?_
  simp only [checkBuiltinCall, os_kind, os_split, os_row]
  have here : Looks (model prog w) h (Bind.madeHere "OSError.__new__" (.ref C)) () := base.andThen (made.andThen (Looks.of_pure (by simp only [Option.map_some, bne_self_eq_false, Bool.false_eq_true, if_false])))
  unfold Bind.checkArgs Bind.printed
  repeat (first | with_reducible refine wpAny_loadPart_at hC ?_ | with_reducible refine os_check_wp ?_ | lk | (with_reducible refine wp_neg ?hh ?_; (case hh => (simp; done))))
  rw [if_neg (show ¬ _ from fun hh => by rw [Bool.and_eq_true] at hh; exact absurd hh.2 (by decide))]
  refine wpAny_pure ?_
  refine codeAny_builtin os_entry ?_
  unfold Builtin.«OSError.__new__» OSError.osReadsInInit isType
  repeat (first | lk | (with_reducible refine wp_neg ?hh ?_; (case hh => (simp; done))) | (with_reducible refine wp_pos ?hh ?_; (case hh => (simp; done))))
  refine nd_load (Heap.get?_push_of_some _ (Heap.get?_push_of_some _ hC)) (wpAny_pure ?_)
  dsimp only
  rw [e2]
  refine wpAny_pure (wpAny_pure (wpAny_pure ?_))
  show R _ _
  rw [Heap.size_push]
  exact hq
theorem os_new : ∀ {prog w A a R h b d t c rest f}, @T10 prog w A a R h b d t c rest f := no_implicit_lambda% (u10.get rfl)
set_option maxRecDepth 100000 in
theorem u11 : Up 11 := by
  refine u10.step rfl ?_
  k_extra "st"
  iterate 12 k_extra "g"
  intro f rest os t d g h R C A w prog Y hi hb hq
  have Y' := Y
  obtain ⟨⟨oc, od, cd, sl, hC, e2, e4⟩, made, base, self, top, exc, call, typ, mt⟩ := Y
  refine codeAny_of_tree ?_
  show wpAny _ _ (callAny (.ref C) _) _ _ _
  refine nd_load hC ?_
  show wpAny _ _ (callAny.viaDunder (.ref C) _) _ _ _
  unfold callAny.viaDunder
  refine wpAny_bind (call.at ?_)
  dsimp only
  rw [tc_bind]
  refine wpAny_bind (wpAny_pure (wpAny_bind (wpAny_pure ?_)))
  refine wpAny_pure (a := Fin.again (.call (.builtin "type.__call__") ⟨.ref C :: rest, []⟩)) (And.intro rfl ?_)
  refine codeAny_call_builtin_at (Code.quiet_builtin _ (by decide +kernel)) entry_typeCall (check_slot tc_kind tc_split typ (tc_args _ _ _) ?_)
  unfold Builtin.«type.__call__»
  have hm : Looks (model prog w) h (mroOf (.ref C)) cd.mro := ((Looks.ld (part := none) hC).andThen .now).andThen .now
  repeat (first | with_reducible refine wpAny_call ?_ | lk | (with_reducible refine wp_neg ?hh ?_; (case hh => (simp [e4]; done))) | simp only [e4, Bool.false_eq_true, if_false])
  refine os_new Y' hi ?_
  have k : ∀ b o, h.get? b = some o → ((h.push nilTup).push (excObj C h.objs.size)).get? b = some o := fun b o e => Heap.get?_push_of_some _ (Heap.get?_push_of_some _ e)
  have hx : ((h.push nilTup).push (excObj C h.objs.size)).get? (h.objs.size + 1) = some (excObj C h.objs.size) := by heap_get
  have t1 : Looks (model prog w) ((h.push nilTup).push (excObj C h.objs.size)) (typeOf (.ref (h.objs.size + 1))) (.ref C) := (Looks.ld hx).andThen .now
  have s1 := self.keeps k
  have i1 := hi.keeps k
  have b1 := (hb (.ref (h.objs.size + 1))).keeps k
  unfold isInstance callSpecial? specialOf
  repeat (first | with_reducible refine wpAny_call ?_ | lk)
  refine codeAny_mono hq fun r s' z => ?_
  rcases r with e | (v | _ | _ | _) <;> first | exact z | exact z.elim | skip
  obtain ⟨rfl, z⟩ := z
  exact wpAny_pure (wpAny_pure z)
theorem os_core : ∀ {prog w A a R h b d t c rest f}, @T11 prog w A a R h b d t c rest f := no_implicit_lambda% (u11.get rfl)
end
section
variable {prog : Program} {w : World} {A : Around} {K : Frag} {C x : Addr} {s : Shared} {h₀ : Heap} {L : Addr} {m : Str → Option Value} {news : Led} {R : Result → Shared → Prop}
theorem os_make {rest : List Value} {fI : Addr} (F : Fr h₀ L s.heap m) (N : News h₀ L s.heap news) (X : K.In s.heap) (hm : osIn K C = true)
    (hi : findIn K (.ref C) "__init__" = some (some (.ref fI))) (hf : typeIn K (.ref fI) = some (.type "function"))
    (h : ∀ x dx h', Fr h₀ L h' m → News h₀ L h' ((x, excObj C dx) :: (dx, nilTup) :: news) → (∀ p ∈ news, p.1 < dx) → dx < x →
      codeAny (model prog w) (A.under (.builtin "type.__call__" ⟨.ref C :: rest, []⟩)) (.call (.ref fI) ⟨.ref x :: rest, []⟩) (InitBack x R) { s with heap := h' }) :
    codeAny (model prog w) A (.call (.ref C) ⟨rest, []⟩) R s := by
  obtain ⟨hh, g, d, t, os⟩ := s
  refine os_core (osMakes_of X hm) (looks_findIn X hi) (fun self => bind_fn X self hf) (h _ hh.objs.size _ ((F.push _).push _) ?_ (fun p hp => Heap.lt_size (N p hp).1) (Nat.lt_succ_self _))
  have := (N.push F nilTup).push (F.push _) (excObj C hh.objs.size)
  rwa [Heap.size_push] at this
end
end
end
section -- R2
open PySem PySem.W PyProof.Rows
section
open Builtin Builtin.ObjectAttr Builtin.Getset_descriptor
theorem refuse_tail (self : Value) : refuseLoop self "__setattr__" [.type "OSError", .type "Exception", .type "BaseException", .type "object"] = pure () := by kernel_rfl
theorem tailOs_cases {l : List Value} (e : tailOs l = true) : (∃ c r, l = .ref c :: r ∧ tailOs r = true) ∨ l = [.type "OSError", .type "Exception", .type "BaseException", .type "object"] := by
  unfold tailOs at e
  split at e
  · exact .inl ⟨_, _, rfl, e⟩
  · exact .inr (beq_iff_eq.mp e)
theorem refuse_os (self : Value) : ∀ (n : Nat) {l : List Value}, l.length ≤ n → tailOs l = true → refuseLoop self "__setattr__" l = pure () ∧ l.contains (.type "object") = true
  | 0, l, h, e => by
    rcases tailOs_cases e with ⟨c, r, rfl, _⟩ | rfl <;> simp at h
  | n + 1, l, h, e => by
    rcases tailOs_cases e with ⟨c, r, rfl, er⟩ | rfl
    · have := refuse_os self n (l := r) (by simp at h; exact h) er
      exact ⟨by rw [refuseLoop_ref]; exact this.1, by rw [List.contains_cons, this.2, Bool.or_true]⟩
    · exact ⟨refuse_tail self, by decide +kernel⟩
variable {prog : Program} {w : World} {A : Around} {K : Frag} {C x : Addr} {s : Shared} {h₀ : Heap} {L : Addr} {m : Str → Option Value} {news : Led} {R : Result → Shared → Prop} {E : Value → Shared → Prop}
theorem u12 : Up 12 := by
  refine u11.step rfl ?_
  k_extra "st"
  iterate 14 k_extra "g"
  intro r v tk name od ox R s x C K A w prog X I hp ht h
  have SF := PySem.F.store_object
  obtain ⟨cd, hc, ho⟩ := any_some hp
  obtain ⟨hr, hb⟩ := refuse_os (.ref x) cd.mro.length (Nat.le_refl _) ho
  have ne : cd.mro.isEmpty = false := by cases q : cd.mro with | nil => rw [q] at hb; cases hb | cons _ _ => rfl
  have sub : Looks (model prog w) s.heap (isInstance (.ref x) (.type "object")) true := I.type.andThen (looks_mroIn X (by unfold mroIn; rw [hc, Option.bind_some, if_neg (by rw [ne]; decide), hb]))
  refine codeAny_call_builtin SF.slot.plain SF.entry (@check_slot (model prog w) _ _ s "object.__setattr__" "object" "__setattr__" (.ref x) [.str name tk, v] [] _ SF.kind SF.split sub (SF.args (.ref x) (.str name tk) v) ?_)
  obtain ⟨attr, ha, hr'⟩ := Option.bind_eq_some_iff.mp ht
  have hm : Looks (model prog w) s.heap (mroOf (.ref C)) cd.mro := (looks_clsIn X hc).andThen .now
  have L3 : Looks (model prog w) s.heap (storeTaker? attr) r := by
    cases attr with
    | none => cases hr'; exact .now
    | some a =>
      obtain ⟨b, hb, rfl⟩ := Option.map_eq_some_iff.mp hr'
      refine (looks_takesIn X hb).andThen ?_
      cases b <;> exact .now
  rw [osa_eq, refuse_eq]
  refine wpAny_bind (wpAny_bind (I.type.here (wpAny_bind (hm.here ?_))))
  rw [hr]
  exact wpAny_pure (wpAny_bind (I.type.here (wpAny_bind ((looks_findIn X ha).here (wpAny_bind (L3.here (h _)))))))
theorem xopen : ∀ {prog w A K a x s R ox od name b v r}, @T12 prog w A K a x s R ox od name b v r := no_implicit_lambda% (u12.get rfl)
theorem u13 : Up 13 := by
  refine u12.step rfl ?_
  k_extra "st"
  iterate 17 k_extra "g"
  intro Q v tk0 name n es post pre D E m L h₀ s A w prog F N h1 h2 hl hz h
  have hlen : ∀ hsh tk, (putL name hsh (.str name tk) v es).length ≤ es.length + 1 := fun hsh tk => by
    clear hl hz h N
    induction es with
    | nil => simp [putL]
    | cons e r ih =>
      unfold putL
      split
      · simp
      · simp; exact ih
  obtain ⟨U1, U2⟩ := news_upd (f := Obj.putName name (PyData.keyHash w.params name) (.str name s.toks) v) F N h1 h2 (putName_dict name _ _ v es n) rfl
  have hD := (N (D, dictOf es n) (by simp)).1
  have hD' := (U2 (D, dictOf (putL name (PyData.keyHash w.params name) (.str name s.toks) v es) (putN name es n)) (by simp)).1
  refine wpAny_bind (wpAny_pure (wpAny_bind ?_))
  unfold nsSet
  refine wpAny_bind (wpAny_bind (wpAny_askSetting (wpAny_pure (wpAny_bind (wpAny_mkText (wpAny_bind (wpAny_loadPart hD ?_)))))))
  dsimp only
  have c : (!es.toArray.any (·.key.isStr name) && es.toArray.any (·.refKey)) = false := by
    rw [← Array.any_toList, ← Array.any_toList]
    unfold getL at hl
    split at hl
    · rename_i en he
      rw [List.any_eq_true.mpr ⟨en, List.mem_of_find?_eq_some he, List.find?_some he⟩]; rfl
    · split at hl
      · cases hl
      · rename_i z; rw [Bool.not_eq_true] at z; rw [z, Bool.and_false]
  rw [aRefKeyMayBeTheName_at, c]
  refine wpAny_updatePart hD ?_
  refine wpAny_bind (wpAny_lookBehind hD' (pastItsLine_dict (by rw [List.size_toArray, sizeLine_eq]; have := hlen (PyData.keyHash w.params name) s.toks; omega)) ?_)
  exact wpAny_pure (h _ _ _ U1 U2)
theorem store_dict : ∀ {prog w A s h₀ L m E D pre a es n name b v Q}, @T13 prog w A s h₀ L m E D pre a es n name b v Q := no_implicit_lambda% (u13.get rfl)
theorem u14 : Up 14 := by
  refine u13.step rfl ?_
  k_extra "st"
  iterate 18 k_extra "g"
  intro Q g v name vs sl E news m L h₀ s x C K A w prog F X₀ N U hs hp ht hh h
  obtain ⟨pre, post, rfl, hg, a, hpost⟩ := U.split
  have hx := N (x, ⟨.ref C, none, .fields vs, sl⟩) (by simp)
  have I : InstAt s.heap x ⟨.ref C, none, .fields vs, sl⟩ C none := ⟨hx.1, rfl, rfl, trivial⟩
  have X := X₀.keeps F.keep
  refine set_plain X I hs (xopen (s := { s with toks := s.toks + 1 }) X I hp ht fun b => ?_)
  obtain ⟨cd, hc, hd'⟩ := any_some hh
  refine wpAny_bind (wpAny_pure (wpAny_bind (wpAny_bind (wpAny_loadPart hx.1 (wpAny_bind ((looks_clsIn X hc).at ?_))))))
  rw [hd']
  have hfr : ∀ p ∈ pre ++ (x, (⟨.ref C, none, .fields vs, sl⟩ : Obj)) :: post, p.1 < s.heap.objs.size := fun p hp => Heap.lt_size (N p hp).1
  have hxl : x < s.heap.objs.size := Heap.lt_size hx.1
  have N1 := (News.push F N emptyDict)
  have F1 := F.push emptyDict
  obtain ⟨F2, N2⟩ := news_upd (f := fun o => { o with dict := some s.heap.objs.size }) (pre := (s.heap.objs.size, emptyDict) :: pre) F1 N1 (fun p hp => by
    rcases List.mem_cons.mp hp with e | hp
    · rw [e]; exact Nat.ne_of_gt hxl
    · exact a p hp) hpost (o' := ⟨.ref C, some s.heap.objs.size, .fields vs, sl⟩) rfl rfl
  refine wpAny_bind (wpAny_alloc (wpAny_bind (wpAny_update (Heap.get?_push_of_some _ hx.1) (wpAny_pure (a := some s.heap.objs.size) ?_))))
  refine store_dict (pre := []) (es := []) (n := 0) F2 N2 (by simp) (fun p hp => ?_) rfl (by simp) fun h' tk hsh F' N' => ?_
  · simp at hp
    rcases hp with hp | rfl | hp
    · exact Nat.ne_of_lt (hfr p (by simp [hp]))
    · exact Nat.ne_of_lt hxl
    · exact Nat.ne_of_lt (hfr p (by simp [hp]))
  · refine h _ _ _ _ F' (by rw [hg]; exact N') fun p hp => ?_
    rw [hg] at hp
    rcases List.mem_append.mp hp with hp | hp
    · exact hfr p (List.mem_append_left _ hp)
    · rcases List.mem_cons.mp hp with rfl | hp
      · exact hxl
      · exact hfr p (List.mem_append_right _ (List.mem_cons_of_mem _ hp))
theorem xset0 : ∀ {prog w A K a x s h₀ L m news E b vs name v c Q}, @T14 prog w A K a x s h₀ L m news E b vs name v c Q := no_implicit_lambda% (u14.get rfl)
theorem u15 : Up 15 := by
  refine u14.step rfl ?_
  k_extra "st"
  iterate 20 k_extra "g"
  intro Q g v name n es D ox E news m L h₀ s x C K A w prog F X₀ N hm hc hdd hn U hs hp ht hh hl hz h
  obtain ⟨pre, post, rfl, hg, a, b⟩ := U.split
  have hx := (N _ hm).1
  have hD := (N (D, dictOf es n) (by simp)).1
  have I : InstAt s.heap x ox C (some (dictOf es n)) := ⟨hx, hc, hn, by rw [hdd]; exact hD⟩
  have X := X₀.keeps F.keep
  refine set_plain X I hs (xopen (s := { s with toks := s.toks + 1 }) X I hp ht fun b' => ?_)
  obtain ⟨cd, hcd, hd'⟩ := any_some hh
  obtain ⟨oc, odi, oda, osl⟩ := ox
  dsimp only at hc hdd
  subst hc hdd
  refine wpAny_bind (wpAny_pure (wpAny_bind (wpAny_bind (wpAny_loadPart hx (wpAny_bind ((looks_clsIn X hcd).at ?_))))))
  rw [hd']
  refine wpAny_pure (a := some D) ?_
  exact store_dict F N a b hl hz fun h' tk hsh F' N' => h _ _ _ F' (by rw [hg]; exact N')
theorem xset1 : ∀ {prog w A K a x s h₀ L m news E ox D es n name v b Q}, @T15 prog w A K a x s h₀ L m news E ox D es n name v b Q := no_implicit_lambda% (u15.get rfl)
theorem ne_all {l : Led} {D : Addr} (h : ∀ p ∈ l, p.1 < D) : ∀ p ∈ l, p.1 ≠ D := fun p hp => Nat.ne_of_lt (h p hp)
theorem args_entry : entryFor table "BaseException.args#set" = some Builtin.«BaseException.args#set» := entryFor_of_tree (by kernel_rfl)
theorem gset_entry : entryFor table "getset_descriptor.__set__" = some Builtin.«getset_descriptor.__set__» := entryFor_of_tree (by kernel_rfl)
theorem gset_args (a b c : Value) : argsOk "getset_descriptor.__set__" ⟨[a, b, c], []⟩ := by unfold argsOk; kernel_rfl
theorem gset_kind : builtinKind "getset_descriptor.__set__" = some .slot := by decide +kernel
theorem gset_split : splitId "getset_descriptor.__set__" = some ("getset_descriptor", "__set__") := by decide +kernel
theorem args_type : typeOf (.builtin "BaseException.args") = pure (.type "getset_descriptor") := by show builtinType _ = _; rw [builtinType_eq_fast]; kernel_rfl
theorem args_owner : descrOwnerAndName "BaseException.args" = ("BaseException", "args") := by decide +kernel
theorem args_nc : descrNameAndClass (.builtin "BaseException.args") = pure ((Str.ofString "args"), .type "BaseException") := by
  unfold descrNameAndClass
  simp only [args_owner]
theorem args_set {M : Model} {A : Around} {E : Value → Shared → Prop} {s : Shared} {x T : Value} {Q : Fin → Shared → Prop} (hi : Looks M s.heap (isInstance x (.type "BaseException")) true)
    (h : Q (.again (.builtin "BaseException.args#set" ⟨[x, T], []⟩)) s) : wpAny M A (Builtin.«getset_descriptor.__set__» ⟨[.builtin "BaseException.args", x, T], []⟩) Q E s := by
  show wpAny _ _ (descrStoreThrough "getset" (.builtin "BaseException.args") x (some T)) _ _ _
  unfold descrStoreThrough descrCheckInstance
  rw [args_nc]
  refine wpAny_bind (wpAny_bind (wpAny_pure (wpAny_bind (hi.here ?_))))
  refine wpAny_pure ?_
  refine wpAny_bind (wpAny_pure ?_)
  dsimp only
  rw [show ("BaseException.args" ++ "#set" : String) = "BaseException.args#set" from by decide +kernel]
  exact wpAny_pure h
theorem gset_inst : isInstance (.builtin "BaseException.args") (.type "getset_descriptor") = pure true := by
  unfold isInstance
  rw [args_type]
  show isSubtype (.type "getset_descriptor") (.type "getset_descriptor") = _
  rw [isSubtype_type]; kernel_rfl
set_option maxRecDepth 100000 in
set_option maxHeartbeats 400000 in
theorem u16 : Up 16 := by
  refine u15.step rfl ?_
  k_extra "st"
  iterate 21 k_extra "g"
  intro t0 Q g items od T D sl vs E news m L h₀ s x C K A w prog F X₀ N U hm h0 hT hs hp ht hb h
  obtain ⟨pre, post, rfl, hg, a, b⟩ := U.split
  have hx := (N (x, ⟨.ref C, some D, .fields vs, sl⟩) (by simp)).1
  have I : InstAt s.heap x ⟨.ref C, some D, .fields vs, sl⟩ C (some od) := ⟨hx, rfl, rfl, (N _ hm).1⟩
  have X := X₀.keeps F.keep
  refine set_plain X I hs (xopen (s := { s with toks := s.toks + 1 }) X I hp ht fun b' => ?_)
  have hsub : Looks (model prog w) s.heap (isInstance (.ref x) (.type "BaseException")) true := I.type.andThen (looks_mroIn X hb)
  obtain ⟨U1, U2⟩ := news_upd (f := Obj.mapFields (·.setIfInBounds 0 (.ref T))) F N a b (o' := ⟨.ref C, some D, .fields (vs.setIfInBounds 0 (.ref T)), sl⟩) rfl rfl
  refine wpAny_bind (wpAny_rule (wpAny_bind (wpAny_holding ?_)))
  unfold callSpecial? specialOf
  rw [args_type]
  refine wpAny_bind (wpAny_bind (wpAny_pure ((Looks.of_pure PySem.F.slot_gs_set.lookup).at (wpAny_holding ?_))))
  rw [PySem.F.slot_gs_set.bind]
  refine wpAny_bind (wpAny_pure (wpAny_bind (wpAny_call ?_)))
  refine codeAny_call_builtin PySem.F.slot_gs_set.plain gset_entry (@check_slot (model prog w) _ _ { s with toks := s.toks + 1 } "getset_descriptor.__set__" "getset_descriptor" "__set__" (.builtin "BaseException.args") [.ref x, .ref T] [] _ gset_kind gset_split (Looks.of_pure gset_inst) (gset_args _ _ _) ?_)
  refine args_set (s := { s with toks := s.toks + 1 }) hsub ?_
  refine And.intro (Code.quiet_builtin _ (by decide +kernel)) (codeAny_builtin args_entry ?_)
  unfold Builtin.«BaseException.args#set»
  refine wpAny_bind (call_tuple_same hT (wpAny_bind ?_))
  unfold BaseException.bexcPut
  refine wpAny_bind (wpAny_field hx rfl h0 (wpAny_bind (wpAny_setField hx rfl (Array.getElem?_eq_some_iff.mp h0).1 ?_)))
  refine wpAny_bind (wpAny_holding (wpAny_point (wpAny_pure ?_)))
  refine wpAny_pure ?_
  refine wpAny_pure (wpAny_pure ?_)
  exact h _ U1 (by rw [hg]; exact U2)
theorem xargs : ∀ {prog w A K a x s h₀ L m news E vs b D T od c d Q e}, @T16 prog w A K a x s h₀ L m news E vs b D T od c d Q e := no_implicit_lambda% (u16.get rfl)
end
end
section -- R3
open PySem PySem.W PyProof.Rows
section
variable {M : Model} {A : Around} {E : Value → Shared → Prop} {s : Shared} {env : Env}
theorem raise_own {e : PySem.Expr} {pos : Pos} {Q : Flow → Shared → Prop} (hh : A.handled = none) (h : wpAny M A (eval e env) (RaiseOwn M E) E s) : wpAny M A (exec (.Raise (some e) none pos) env) Q E s := by
  show wpAny M A (do standAt pos; raiseStmt env (some (do let v ← eval e env; standAt pos; pure v)) none) Q E s
  refine wpAny_bind (wpAny_standAt ?_)
  unfold raiseStmt
  dsimp only
  refine wpAny_bind (wpAny_bind (wpAny_mono h (fun v s₁ h₁ => wpAny_bind (wpAny_standAt (wpAny_pure ?_))) fun _ _ x => x))
  obtain ⟨a, ob, vs, C, rfl, ha, hcls, hd, h1, Y, hE⟩ := h₁
  have hT : Looks M s₁.heap (typeOf (.ref a)) (.ref C) := hcls ▸ (Looks.ld ha).andThen .now
  have hI : Looks M s₁.heap (isInstance (.ref a) (.type "BaseException")) true := hT.andThen Y.exc
  have hnt : Looks M s₁.heap (isType (.ref a)) false := by
    unfold isType loadHead
    refine (Looks.ld ha).andThen ?_
    rw [hd]
    exact .now
  refine wpAny_bind (wpAny_pure ?_)
  dsimp only
  refine wpAny_bind (wpAny_holding ?_)
  unfold excFromValue isExcClass
  refine wpAny_bind (wpAny_bind (hnt.here ?_))
  simp only [Bool.false_eq_true, if_false]
  refine wpAny_pure ?_
  simp only [Bool.false_eq_true, if_false]
  refine wpAny_bind (hI.here ?_)
  simp only [if_true]
  refine wpAny_pure ?_
  refine wpAny_bind (hnt.here ?_)
  simp only [Bool.false_eq_true, if_false]
  unfold raisedInstance
  refine wpAny_bind (wpAny_bind (hT.here (wpAny_bind (Y.mt.here ?_))))
  rw [if_pos (by decide)]
  refine wpAny_pure ?_
  unfold setFlight
  refine wpAny_bind (wpAny_bind (wpAny_field ha hd h1 ?_))
  rw [if_neg (by decide)]
  exact wpAny_pure (wpAny_raiseNew_none hh hE)
theorem raiseOwn_of {K : Frag} {h₀ : Heap} {L x C : Addr} {m : Str → Option Value} {news : Led} {ox : Obj} {vs : Array Value} (F : Fr h₀ L s.heap m) (X : K.In h₀) (N : News h₀ L s.heap news) (hm : (x, ox) ∈ news) (hc : ox.cls = .ref C) (hd : ox.data = .fields vs) (h1 : vs[1]? = some .none)
    (hk : osIn K C = true) (h : E (.ref x) s) : RaiseOwn M E (.ref x) s := ⟨x, ox, vs, C, rfl, (N _ hm).1, hc, hd, h1, osMakes_of (X.keeps F.keep) hk, h⟩
end
section
variable {M : Model} {A : Around} {E : Value → Shared → Prop} {s' : Shared} {base g g₂ h : Heap} {outer : List Env} {L a e : Addr} {m : Str → Option Value} {name : Str} {scope : Scope} {cd : Value} {Q : Unit → Shared → Prop} {news : Led} {C D : Addr} {vs : Array Value} {sl : Array (Option Value)}
theorem leave_raiseO (K : Below A base outer g) (F : Fr g L s'.heap m) (N : News g L s'.heap ((e, ⟨.ref C, some D, .fields vs, sl⟩) :: news)) (hne : ∀ q ∈ news, q.1 ≠ e) (h1 : vs[1]? = some .none)
    (hQ : ∀ h', RaisedX base g outer e ⟨.ref C, some D, .fields vs, sl⟩ news h' → g.UpToSlots h' → Q () { s' with heap := h' }) (hk : scope.kind = .function := by rfl) :
    wpAny M (A.deeper (envOf name scope L a cd)) (leaving (envOf name scope L a cd) (.ref e)) Q E s' :=
  leave_raiseX (oe := ⟨.ref C, some D, .fields vs, sl⟩) K F N hne h1 hQ hk
theorem RaisedX.sub {base G : Heap} {l : List Env} {e : Addr} {oe : Obj} {n n' : Led} {h : Heap} (R : RaisedX base G l e oe n h) (hs : ∀ p ∈ n', p ∈ n) : RaisedX base G l e oe n' h := by
  obtain ⟨B, hB, hBG, hl, hf⟩ := R
  exact ⟨B, hB, hBG, fun q hq => hl q (hs q hq), hf⟩
theorem ne_of_lt_all {l : Led} {e : Addr} (h : ∀ p ∈ l, p.1 < e) : ∀ p ∈ l, p.1 ≠ e := fun p hp => Nat.ne_of_lt (h p hp)
theorem ne_cons {l : Led} {e D : Addr} {o : Obj} (h : ∀ p ∈ l, p.1 < e) (hD : e < D) : ∀ p ∈ (D, o) :: l, p.1 ≠ e := fun p hp => (List.mem_cons.mp hp).elim (fun q => by rw [q]; exact Nat.ne_of_gt hD) (fun q => Nat.ne_of_lt (h p q))
end
end
section -- M0
theorem orb_succ (tns : List Int) (s0 : Int) (n : Nat) : orb tns s0 (n + 1) = orb tns s0 n ++ [orbF tns s0 n] := by
  unfold orb
  rw [List.range_succ, List.map_append]; rfl
theorem orb_len (tns : List Int) (s0 : Int) (n : Nat) : (orb tns s0 n).length = n := by simp [orb]
theorem orbF_nonneg (tns : List Int) (s0 : Int) (n : Nat) : 0 ≤ orbF tns s0 (n + 1) := by
  show 0 ≤ Int.fmod _ 7
  rw [Int.fmod_eq_emod_of_nonneg _ (by decide)]
  exact Int.emod_nonneg _ (by decide)
theorem Alv.succ {tns : List Int} {s0 : Int} {n : Nat} (h : Alv tns s0 n) (hl : orbF tns s0 (n + 1) < 6) : Alv tns s0 (n + 1) := fun j hj => by
  rcases Nat.lt_or_ge j (n + 1) with q | q
  · exact h j (Nat.le_of_lt_succ q)
  · have : j = n + 1 := by omega
    subst this
    exact ⟨orbF_nonneg _ _ _, hl⟩
theorem Alv.mono {tns : List Int} {s0 : Int} {n k : Nat} (h : Alv tns s0 n) (hk : k ≤ n) : Alv tns s0 k := fun j hj => h j (Nat.le_trans hj hk)
theorem orbF_det {tns : List Int} {s0 : Int} {a b : Nat} (h : orbF tns s0 a = orbF tns s0 b) : ∀ k, orbF tns s0 (a + k) = orbF tns s0 (b + k)
  | 0 => h
  | k + 1 => by
    show Int.fmod (tns.getD (orbF tns s0 (a + k)).toNat 0) 7 = Int.fmod (tns.getD (orbF tns s0 (b + k)).toNat 0) 7
    rw [orbF_det h k]
theorem pigeon : ∀ (n : Nat) (f : Nat → Nat), (∀ i ≤ n, f i < n) → ∃ i j, i < j ∧ j ≤ n ∧ f i = f j
  | 0, f, h => absurd (h 0 (Nat.le_refl _)) (Nat.not_lt_zero _)
  | n + 1, f, h => by
    by_cases hx : ∃ i, i ≤ n ∧ f i = f (n + 1)
    · obtain ⟨i, hi, e⟩ := hx
      exact ⟨i, n + 1, by omega, Nat.le_refl _, e⟩
    · have hne : ∀ i ≤ n, f i ≠ f (n + 1) := fun i hi e => hx ⟨i, hi, e⟩
      have hv := h (n + 1) (Nat.le_refl _)
      obtain ⟨i, j, hij, hj, e⟩ := pigeon n (fun i => if f (n + 1) < f i then f i - 1 else f i) (fun i hi => by
        have h1 := h i (by omega)
        have h2 := hne i hi
        show (if f (n + 1) < f i then f i - 1 else f i) < n
        split <;> omega)
      refine ⟨i, j, hij, by omega, ?_⟩
      have h1 := hne i (by omega)
      have h2 := hne j hj
      split at e <;> split at e <;> omega
theorem least {P : Nat → Prop} (n : Nat) (h : P n) : ∃ k, k ≤ n ∧ P k ∧ ∀ j, j < k → ¬ P j := by
  induction n using Nat.strongRecOn with
  | _ n ih =>
    by_cases hx : ∃ j, j < n ∧ P j
    · obtain ⟨j, hj, pj⟩ := hx
      obtain ⟨k, hk, pk, hl⟩ := ih j hj pj
      exact ⟨k, by omega, pk, hl⟩
    · exact ⟨n, Nat.le_refl _, h, fun j hj pj => hx ⟨j, hj, pj⟩⟩
theorem ring_of {tns : List Int} {s0 : Int} (h : Alv tns s0 6) : ∃ t r, Ring tns s0 t r := by
  obtain ⟨i, j, hij, hj, e⟩ := pigeon 6 (fun i => (orbF tns s0 i).toNat) (fun i hi => by have := h i hi; show (orbF tns s0 i).toNat < 6; omega)
  have e' : orbF tns s0 i = orbF tns s0 j := by
    have h1 := h i (by omega)
    have h2 := h j hj
    have e : (orbF tns s0 i).toNat = (orbF tns s0 j).toNat := e
    omega
  obtain ⟨k, hk, ⟨a, ha, ea⟩, hl⟩ := least (P := fun k => ∃ a, a < k ∧ orbF tns s0 a = orbF tns s0 k) j ⟨i, hij, e'⟩
  refine ⟨a, k - a, by omega, by omega, ?_, fun x y hxy hy exy => hl y (by omega) ⟨x, hxy, exy⟩⟩
  rw [show a + (k - a) = k by omega]
  exact ea.symm
section
variable {tns : List Int} {s0 : Int} {t r : Nat}
theorem Ring.per (h : Ring tns s0 t r) {n : Nat} (hn : t ≤ n) : orbF tns s0 (n + r) = orbF tns s0 n := by
  have := orbF_det h.back (n - t)
  rw [show t + r + (n - t) = n + r by omega, show t + (n - t) = n by omega] at this
  exact this
theorem Ring.pers (h : Ring tns s0 t r) {n : Nat} (hn : t ≤ n) : ∀ k, orbF tns s0 (n + k * r) = orbF tns s0 n
  | 0 => by simp
  | k + 1 => by
    rw [Nat.succ_mul, ← Nat.add_assoc, h.per (by omega)]
    exact h.pers hn k
theorem Ring.idx (h : Ring tns s0 t r) (n : Nat) : orbF tns s0 n = orbF tns s0 (Mine.idx t r n) := by
  unfold Mine.idx
  split
  · rfl
  · have := h.pers (n := t + (n - t) % r) (by omega) ((n - t) / r)
    rw [← this]
    congr 1
    have e := Nat.div_add_mod (n - t) r
    have c := Nat.mul_comm r ((n - t) / r)
    omega
theorem Ring.idx_lt (h : Ring tns s0 t r) (n : Nat) : Mine.idx t r n < t + r := by
  unfold Mine.idx
  have := Nat.mod_lt (n - t) h.r1
  have := h.r1
  split <;> omega
theorem Ring.eq_iff (h : Ring tns s0 t r) (a b : Nat) : orbF tns s0 a = orbF tns s0 b ↔ Mine.idx t r a = Mine.idx t r b := by
  constructor
  · intro e
    rw [h.idx a, h.idx b] at e
    rcases Nat.lt_trichotomy (Mine.idx t r a) (Mine.idx t r b) with q | q | q
    · exact absurd e (h.inj _ _ q (h.idx_lt b))
    · exact q
    · exact absurd e.symm (h.inj _ _ q (h.idx_lt a))
  · intro e
    rw [h.idx a, h.idx b, e]
theorem Ring.all (h : Ring tns s0 t r) (al : Alv tns s0 6) (n : Nat) : Alv tns s0 n := fun j _ => by
  rw [h.idx j]
  have := h.idx_lt j
  have := h.tr
  exact al _ (by omega)
end
theorem alv_all {tns : List Int} {s0 : Int} {k : Nat} (h1 : 1 ≤ k) (e : orbF tns s0 k = orbF tns s0 (2 * k)) (h : Alv tns s0 (2 * k)) : ∀ n, Alv tns s0 n := by
  intro n
  induction n with
  | zero => exact h.mono (Nat.zero_le _)
  | succ n ih =>
    rcases Nat.lt_or_ge (n + 1) (2 * k + 1) with q | q
    · exact h.mono (by omega)
    · have e2 := orbF_det e (n + 1 - 2 * k)
      rw [show 2 * k + (n + 1 - 2 * k) = n + 1 by omega] at e2
      refine ih.succ ?_
      rw [← e2]
      exact (ih _ (by omega)).2
theorem shapes (P : Nat → Nat → Prop) (h : ∀ t < 6, ∀ r < 7, 1 ≤ r → t + r ≤ 6 → P t r) {t r : Nat} (h1 : 1 ≤ r) (h2 : t + r ≤ 6) : P t r := h t (by omega) r (by omega) h1 h2
theorem meet1 : ∀ t < 6, ∀ r < 7, 1 ≤ r → t + r ≤ 6 → ∃ i, i < 7 ∧ (1 ≤ i ∧ idx t r i = idx t r (2 * i)) := by decide
set_option synthInstance.maxSize 100000 in
set_option synthInstance.maxHeartbeats 400000 in
theorem meet2 : ∀ t < 6, ∀ r < 7, 1 ≤ r → t + r ≤ 6 → ∀ k < 8, 1 ≤ k → idx t r k = idx t r (2 * k) → ∃ j, j < 6 ∧ idx t r j = idx t r (2 * k + j) := by decide
set_option synthInstance.maxSize 100000 in
set_option synthInstance.maxHeartbeats 400000 in
theorem meet3 : ∀ t < 6, ∀ r < 7, 1 ≤ r → t + r ≤ 6 → ∀ k < 8, 1 ≤ k → idx t r k = idx t r (2 * k) → ∀ j < 6, idx t r j = idx t r (2 * k + j) → ∃ i, i < 7 ∧ (1 ≤ i ∧ idx t r j = idx t r (2 * k + j + i)) := by decide
theorem orb_meet {tns : List Int} {s0 : Int} (h : Alv tns s0 14) : ∃ i, 1 ≤ i ∧ i ≤ 6 ∧ orbF tns s0 i = orbF tns s0 (2 * i) := by
  obtain ⟨t, r, hr⟩ := ring_of (h.mono (by omega))
  obtain ⟨i, h1, h2, h3⟩ := meet1 t (by have := hr.tr; have := hr.r1; omega) r (by have := hr.tr; omega) hr.r1 hr.tr
  exact ⟨i, h2, by omega, (hr.eq_iff _ _).mpr h3⟩
theorem orb_meet2 {tns : List Int} {s0 : Int} (h : ∀ n, Alv tns s0 n) {k : Nat} (h1 : 1 ≤ k) (h7 : k ≤ 7) (e : orbF tns s0 k = orbF tns s0 (2 * k)) : ∃ j, j ≤ 5 ∧ orbF tns s0 j = orbF tns s0 (2 * k + j) := by
  obtain ⟨t, r, hr⟩ := ring_of (h 6)
  obtain ⟨j, h2, h3⟩ := meet2 t (by have := hr.tr; have := hr.r1; omega) r (by have := hr.tr; omega) hr.r1 hr.tr k (by omega) h1 ((hr.eq_iff _ _).mp e)
  exact ⟨j, by omega, (hr.eq_iff _ _).mpr h3⟩
theorem orb_meet3 {tns : List Int} {s0 : Int} (h : ∀ n, Alv tns s0 n) {k j : Nat} (h1 : 1 ≤ k) (h7 : k ≤ 7) (h5 : j ≤ 5) (e : orbF tns s0 k = orbF tns s0 (2 * k)) (e2 : orbF tns s0 j = orbF tns s0 (2 * k + j)) : ∃ i, 1 ≤ i ∧ i ≤ 6 ∧ orbF tns s0 j = orbF tns s0 (2 * k + j + i) := by
  obtain ⟨t, r, hr⟩ := ring_of (h 6)
  obtain ⟨i, h2, h3, h4⟩ := meet3 t (by have := hr.tr; have := hr.r1; omega) r (by have := hr.tr; omega) hr.r1 hr.tr k (by omega) h1 ((hr.eq_iff _ _).mp e) j (by omega) ((hr.eq_iff _ _).mp e2)
  exact ⟨i, h3, by omega, (hr.eq_iff _ _).mpr h4⟩
end
open PySem PySem.W PyProof.Rows
theorem fillx (w : World) (h : Heap) : (h0.heap_1 w.params).In h → PySem.Challenge.rw_xc0016_01 = PySem.Challenge.rw_xc0016_01 := by
  k_fill
  intro _; rfl
local macro_rules | `(tactic| k_room) => `(tactic| ktr_room)
local macro_rules | `(tactic| k_lt $h:ident) => `(tactic| ((try replace $h := allLt_of $h); (try simp only [AllLt, and_true] at $h:ident); (repeat (have hA9 := And.left $h; replace $h := And.right $h))))
variable {w : World} {mean : ExcName → Option Value} {mg mb : Str → Option Value} {dp un : Nat} {gd : Option (List Code)} {L : Addr} {outer : List Env} {A₀ : Around} {base h₀ : Heap} {m : Str → Option Value} {s : Shared} {E : Value → Shared → Prop} {news : Led} {Q : Flow → Shared → Prop}
theorem kw_lines : True := by
  k_with "xk_mem" => (first | exact List.Mem.head _ | with_reducible assumption | with_reducible_and_instances assumption | (refine' List.Mem.tail _ ?_; k_mem))
  k_with "xk_all" => (first | with_reducible assumption | exact ne_of_allLt (by with_reducible assumption) | exact ne_of_allLt1 (by with_reducible assumption) | exact ne_of_allLt2 (by with_reducible assumption))
  k_with "xe1" => (refine' code_def ?k1qa ?k2qa ?k3qa ?k4qa ?k5qa ?kAqa ?kFqa ?kKqa ?k6qa ?k7qa ?k8qa ?k9qa ?kBqa ?_ ?c2qa ?c3qa ?c4qa ?c5qa; (case kAqa | kFqa => exact rfl); (case kKqa => first | exact rfl | assumption); (case k1qa | k2qa => k_asm); (case k3qa | k4qa | k5qa => k_asm); (case k6qa | k7qa => k_is); (case k8qa => ktr_room); (case k9qa => first | exact BindsTo.of_eq rfl | exact binds_K (by k_in) rfl (by k_is) rfl rfl rfl | fail "k_enter: no rule for these arguments"); (case c5qa => decide); (case kBqa => exact locs rfl); (case c2qa | c3qa | c4qa => exact rfl); k_whole)
  k_with "xe2" => (refine' code_defC ?k1qb ?k2qb ?k3qb ?k4qb ?k5qb ?kAqb ?kFqb ?kKqb ?k6qb ?k7qb ?k8qb ?k9qb ?kBqb ?kDqb ?_ ?c2qb ?c3qb ?c4qb; (case kAqb | kFqb => exact rfl); (case kKqb => first | exact rfl | assumption); (case k1qb | k2qb => k_asm); (case k3qb | k4qb | k5qb => k_asm); (case k6qb | k7qb => k_is); (case k8qb => ktr_room); (case k9qb => first | exact BindsTo.of_eq rfl | exact binds_K (by k_in) rfl (by k_is) rfl rfl rfl | fail "k_enter: no rule for these arguments"); (case kBqb => exact rfl); (case kDqb => decide +kernel); (case c2qb | c3qb | c4qb => exact rfl); k_whole)
  k_with "subscriptTail" => ((k_here; (with_reducible show wpAny _ _ (subscriptTail _ _ (Value.ref _) (Value.int _ _)) _ _ _); k_dflt (first | (refine' kda_item (knd := intKind _ _) ?Nqc ?pqc ?dqc (intKind_is _ _ _ _) ?lqc ?_; (case Nqc => k_asm); (case pqc => k_mem); (case dqc | lqc => with_reducible assumption)) | (refine' li_item ?Nqc ?pqc ?iqc ?zqc ?xqc ?_; (case Nqc => k_asm); (case pqc => k_mem); (case iqc | zqc | xqc => with_reducible assumption); intro _))))
  k_with "eval Dict" => (((k_here; (with_reducible show wpAny _ _ (eval (Expr.Dict [some (Expr.Subscript _ _ _)] _ _) _) _ _ _); k_dflt (refine' kdn_eval (knd := PySem.strKind _ _) ?Fqd ?Nqd ?bqd ?aqd ?lqd ?eqd ?nqd ?_; (case Fqd | Nqd => k_asm); (case bqd => exact Top.nolimit (by k_asm)); (case aqd | lqd => rfl); (case eqd => exact List.cons_ne_nil _ _); (case nqd => exact Nat.le_of_ble_eq_true rfl)); intro _ _ _ _ _ l1 _ _; (try k_lt l1)); (try (revert l1; intro _))))
  k_with "subscriptTail" => ((k_here; (with_reducible show wpAny _ _ (subscriptTail _ _ (Value.ref _) (Value.int _ _)) _ _ _); k_dflt (refine' item_tupleT ?tqe ?aqe ?bqe ?cqe ?dqe ?_; (case tqe => exact News.isTup (by k_asm) (by k_mem)); (case aqe | bqe => decide); (case cqe | dqe => rfl); k_whole)))
  k_with "subscriptTail Name Constant ref int" => ((k_here; (with_reducible show wpAny _ _ (subscriptTail _ _ (Value.ref _) (Value.int _ _)) _ _ _); k_dflt (refine' item_tupleT ?tqe ?aqe ?bqe ?cqe ?dqe ?_; (case tqe => exact News.isTup (by k_asm) (by k_mem)); (case aqe | bqe => decide); (case cqe | dqe => rfl); k_whole)))
  k_with "xktr_rel" => (first | rfl | with_reducible assumption | (refine (if_neg (by decide)).trans ?_; ktr_rel))
  k_with "eval Name" => ((k_here; k_dflt (refine' nameX_L ?Fqf ?vqf ?_ ?aqf ?bqf; (case Fqf => k_asm); (case aqf | bqf => rfl); (case vqf => ktr_rel); k_whole)))
  k_with "call type:dict" => (((k_here; (with_reducible show wpAny _ _ (call (Value.type "dict") [Value.ref _]) _ _ _); k_dflt (refine' dict_copy (knd := PySem.strKind _ _) ?Fqg ?Nqg ?bqg ?pqg ?dqg ?lqg ?zqg ?_; (case Fqg | Nqg => k_asm); (case bqg => exact Top.nolimit (by k_asm)); (case pqg => k_mem); (case dqg | lqg => with_reducible assumption); (case zqg => first | with_reducible assumption | decide); k_whole); intro _ _ _ _ _ l1 _ _; (try k_lt l1)); (try (revert l1; intro _))))
  k_with "subscriptTail" => ((k_here; (with_reducible show wpAny _ _ (subscriptTail _ _ (Value.ref _) (Value.str _ _)) _ _ _); k_dflt (refine' kda_item (knd := PySem.strKind _ _) ?Nqh ?pqh ?dqh (strKind_is _ _ _ _) ?lqh ?_; (case Nqh => k_asm); (case pqh => k_mem); (case dqh => with_reducible assumption); (case lqh => first | with_reducible assumption | rfl); k_whole; (try dsimp only))))
  k_with "subscriptTail" => ((k_here; (with_reducible show wpAny _ _ (subscriptTail _ _ (Value.ref _) (Value.int _ _)) _ _ _); k_dflt (refine' lit_item ?Nqi ?pqi ?zqi ?yqi ?xqi ?_; (case Nqi => k_asm); (case pqi => k_mem); (case zqi | yqi => decide); (case xqi => rfl); k_whole; (try dsimp only))))
  k_with "setItem ref int" => (((k_here; k_dflt (refine' kda_set (knd := PySem.intKind _ _) ?Fqj ?Nqj ?Uqj ?dqj (intKind_is _ _ _ _) ?zqj ?_; (case Fqj | Nqj => k_asm); (case Uqj => k_updF); (case dqj => with_reducible assumption); (case zqj => (rw [sizeLine_eq]; omega))); intro _ _ _ N'z9 hdz9; (try dsimp only at N'z9); (try k_sweep)); (try (revert N'z9 hdz9; intro _ _))))
  k_with "xkcj_all" => (repeat (first | exact sub_refl | refine sub_cons ?_ | refine sub_skip ?_))
  k_with "call builtin:sum" => ((k_here; (with_reducible show wpAny _ _ (call (Value.builtin "sum") [Value.ref _]) _ _ _); k_dflt (refine' sum_two ?k0qk ?k1qk ?k2qk ?k3qk ?_; (case k0qk => exact rfl); (case k1qk | k2qk => k_asm); (case k3qk => k_mem); k_whole); intro _ _ _ _ _; (try k_sweep)))
  trivial
section -- Q0
theorem kw_Q0 : True := by
  k_with "getMethod ref" => ((fail_if_success k_extra "o12"); ((k_here; (with_reducible show wpAny _ _ (getMethod (Value.ref 122) _ _) _ _ _); k_dflt (refine' pat_meth1 ?Fql ?Xql ?_; (case Fql | Xql => k_asm); k_whole))))
  k_with "getMethod ref" => ((fail_if_success k_extra "o12"); ((k_here; (with_reducible show wpAny _ _ (getMethod (Value.ref 127) _ _) _ _ _); k_dflt (refine' pat_meth2 ?Fqm ?Xqm ?_; (case Fqm | Xqm => k_asm); k_whole))))
  k_with "call builtin:re.Pattern.sub" => ((fail_if_success k_extra "o12"); ((k_here; (with_reducible show wpAny _ _ (call _ [Value.ref 122, _, _]) _ _ _); k_dflt (refine' pat_sub1 ?Fqn ?Nqn ?Xqn ?hxqn ?_; (case Fqn | Nqn | Xqn => k_asm); (case hxqn => first | assumption | skip); intro _ _ _ _ _; (try k_sweep)))))
  k_with "call builtin:re.Pattern.sub" => ((fail_if_success k_extra "o12"); ((k_here; (with_reducible show wpAny _ _ (call _ [Value.ref 127, _, _]) _ _ _); k_dflt (refine' pat_sub2 ?Fqo ?Nqo ?Xqo ?hxqo ?_; (case Fqo | Nqo | Xqo => k_asm); (case hxqo => assumption); intro _ _ _ _ _; (try k_sweep)))))
  trivial
section
variable {Q : Value → Shared → Prop} {cn : Str} {cs : Scope} {a : Addr} {ccd : Value} {cl : List (Str × Addr)}
theorem lit_crlf : (Str.ofString "\r\n").cps.toList = [13, 10] := by decide +kernel
theorem lit_dots : (Str.ofString "..").cps.toList = [46, 46] := by decide +kernel
section
variable {A : Around} {pl : Sem Bool} {Q : Value × List Value → Shared → Prop} {Q' : Value → Shared → Prop}
theorem pat_meth1 (F : Fr h₀ L s.heap m) (X : (h0.heap_1 w.params).In h₀) (h : Q (.builtin "re.Pattern.sub", [.ref 122]) s) : wpAny (model PG w) A (getMethod (.ref 122) (Str.ofString "sub") pl) Q E s :=
  getMethod_builtin (T := "re.Pattern") (id := "re.Pattern.sub") ⟨_, F.keep _ _ (X 122 _ rfl), rfl⟩ plainAttrs_pat slot_pat_sub type_pat_sub (fun a e => ⟨_, by cases e; exact F.keep _ _ (X 122 _ rfl), rfl⟩) h
theorem pat_meth2 (F : Fr h₀ L s.heap m) (X : (h0.heap_1 w.params).In h₀) (h : Q (.builtin "re.Pattern.sub", [.ref 127]) s) : wpAny (model PG w) A (getMethod (.ref 127) (Str.ofString "sub") pl) Q E s :=
  getMethod_builtin (T := "re.Pattern") (id := "re.Pattern.sub") ⟨_, F.keep _ _ (X 127 _ rfl), rfl⟩ plainAttrs_pat slot_pat_sub type_pat_sub (fun a e => ⟨_, by cases e; exact F.keep _ _ (X 127 _ rfl), rfl⟩) h
theorem pat_sub1 {x : Str} {tl tx : Tok} (F : Fr h₀ L s.heap m) (N : News h₀ L s.heap news) (X : (h0.heap_1 w.params).In h₀) (hx : x.cps.size ≤ 800)
    (ret : ∀ t h' tk', Fr h₀ L h' m → News h₀ L h' news → Q' (.str ⟨(dt true x.cps.toList).toArray⟩ t) { s with heap := h', toks := tk' }) :
    wpAny (model PG w) A (call (.builtin "re.Pattern.sub") [.ref 122, .str (Str.ofString "..") tl, .str x tx]) Q' E s := by
  have e : F1 x.cps 0 = dt true x.cps.toList := by unfold F1; simp
  refine sub_call (F := F1 x.cps) F N (fun h' hh => pat1 X h' fun b o e => hh b o (F.keep b o e)) ⟨_, F.keep _ _ (X 122 _ rfl), rfl⟩ (by rw [lit_dots]; exact spec1 _ (by omega)) (by omega) ?_ (by decide +kernel) (by rw [e]; exact ret)
  rw [e]; have := dt_len x.cps.toList true; simp at this; omega
theorem pat_sub2 {x : Str} {tl tx : Tok} (F : Fr h₀ L s.heap m) (N : News h₀ L s.heap news) (X : (h0.heap_1 w.params).In h₀) (hx : x.cps.size ≤ 400)
    (ret : ∀ t h' tk', Fr h₀ L h' m → News h₀ L h' news → Q' (.str ⟨(n2 false x.cps.toList).toArray⟩ t) { s with heap := h', toks := tk' }) :
    wpAny (model PG w) A (call (.builtin "re.Pattern.sub") [.ref 127, .str (Str.ofString "\r\n") tl, .str x tx]) Q' E s := by
  have e : F2 x.cps 0 = n2 false x.cps.toList := by unfold F2; simp
  refine sub_call (F := F2 x.cps) F N (fun h' hh => pat2 X h' fun b o e => hh b o (F.keep b o e)) ⟨_, F.keep _ _ (X 127 _ rfl), rfl⟩ (by rw [lit_crlf]; exact spec2 _ (by omega)) (by omega) ?_ (by decide +kernel) (by rw [e]; exact ret)
  rw [e]; have := n2_len x.cps.toList false; simp at this; omega
end
set_option maxRecDepth 100000 in
set_option maxHeartbeats 2000000 in
theorem qd_ok {x : Str} {tx : Tok}
    (B : Below A₀ base outer h₀) (F : Fr h₀ L s.heap m) (X : (h0.heap_1 w.params).In h₀) (N : News h₀ L s.heap news) (T : TopX mean mg mb h₀) (hk : cs.kind = .function)
    (hx : x.cps.size ≤ 400)
    (hdp : dp + 10 < recursionLimit) (hun : un + 100 < cLine)
    (ret : ∀ t h' tk', Fr h₀ L h' m → News h₀ L h' news → Q (.str ⟨(qd x.cps.toList).toArray⟩ t) { s with heap := h', toks := tk' }) :
    wpAny (model PG w) (ktrTop dp un gd cn cs L a ccd cl outer) (call (.ref 216) [.str x tx]) Q E s := by
    have hx2 : (Str.mk (n2 false x.cps.toList).toArray).cps.size ≤ 800 := by
      have := n2_len x.cps.toList false
      simp at this ⊢; omega
    refine wpAny_call ?_
    k_dflt k_enter
    k_steps
    exact ret _ _ _ (by k_asm) (by k_asm)

end
end
section -- D2
theorem SL_app {x y : Str} {a b : Nat} (hx : SL x a) (hy : SL y b) : SL (x ++ y) (a + b) := by
  unfold SL at *; rw [strLen_append]; omega
theorem SL_dots {n : Int} (h : 0 ≤ n ∧ n < 100) : SL (Txt.mul (Str.ofString ".") n) 100 := by
  have e : (Str.ofString ".").length ≤ 1 := by decide +kernel
  have := len_mul_leN (x := Str.ofString ".") (n := n) (L := 1) (N := 100) e (by omega)
  unfold SL; omega
theorem SL_item {x : Str} {i : Int} : SL (Txt.item x i) 1 := Nat.le_of_eq (len_item x i)
theorem SL_lit {x : Str} : SL x x.length := Nat.le_refl _
theorem mulOk_dots {n : Int} (h : 0 ≤ n ∧ n < 100) : MulOk (Str.ofString ".") n :=
  mulOk_of 16 1048576 (by decide +kernel) (by omega) (by omega) (by decide) (by decide)
section
variable {prog : Program} {w : World} {A : Around} {E : Value → Shared → Prop} {s : Shared} {Q : Value → Shared → Prop}
theorem add_str {x y : Str} {t u : Tok} {a b : Nat} (hx : SL x a) (hy : SL y b) (hab : a + b ≤ 10000) (h : ∀ t' k, Q (.str (x ++ y) t') { s with toks := k }) : wpAny (model prog w) A (binaryOp .Add (.str x t) (.str y u)) Q E s :=
  SB.add h (by have := SL_app hx hy; unfold SL at *; rw [sizeLine_eq]; omega)
theorem mul_dots {n : Int} {t u : Tok} (hn : 0 ≤ n ∧ n < 100) (h : ∀ t' k, Q (.str (Txt.mul (Str.ofString ".") n) t') { s with toks := k }) : wpAny (model prog w) A (binaryOp .Mult (.str (Str.ofString ".") t) (.int n u)) Q E s :=
  SB.mul (mulOk_dots hn) h
end
theorem SL_mono {x : Str} {a b : Nat} (h : SL x a) (hab : a ≤ b) : SL x b := Nat.le_trans h hab
theorem SL_mail {b : Bool} {n0 n1 : Int} {e0 e1 : Str} (h0 : 0 ≤ n0 ∧ n0 < 100) (h1 : 0 ≤ n1 ∧ n1 < 100) (z0 : SL e0 2) (z1 : SL e1 2) : SL (mailT b n0 n1 e0 e1) 206 := by
  have a0 := SL_dots h0
  have a1 := SL_dots h1
  have i0 : SL (Txt.item (Str.ofString "TH") 0) 1 := SL_item
  have i1 : SL (Txt.item (Str.ofString "TH") 1) 1 := SL_item
  cases b
  · exact SL_app (SL_app (SL_app (SL_app a0 i0) z0) (SL_app i1 a1)) z1
  · exact SL_app (SL_app (SL_app (SL_app i0 a0) z0) (SL_app a1 i1)) z1
theorem th0 : (Txt.item (Str.ofString "TH") 0).cps.toList = [84] := by decide +kernel
theorem th1 : (Txt.item (Str.ofString "TH") 1).cps.toList = [72] := by decide +kernel
theorem dotL (n : Int) : (Txt.mul (Str.ofString ".") n).cps.toList = List.replicate n.toNat 46 := by
  have e : Str.ofString "." = ⟨#[46]⟩ := by decide +kernel
  rw [e, mul_one_list]
theorem n2_dots (k : Nat) (r : List Nat) : n2 false (List.replicate k 46 ++ r) = List.replicate k 46 ++ n2 false r := by
  induction k with
  | zero => rfl
  | succ k ih => rw [List.replicate_succ, List.cons_append, n2, if_neg (by decide), if_neg (by decide), ih]; rfl
theorem n2_dots_t (k : Nat) (c : Nat) (r : List Nat) (hc : c ≠ 10) : n2 true (List.replicate k 46 ++ c :: r) = List.replicate k 46 ++ n2 false (c :: r) := by
  rw [n2_true, n2_dots]
  cases k with
  | zero => simpa using hc
  | succ k => simp [List.replicate_succ]
theorem dt_dots (k : Nat) (r : List Nat) : dt false (List.replicate k 46 ++ r) = List.replicate k 46 ++ dt false r := by
  induction k with
  | zero => rfl
  | succ k ih => rw [List.replicate_succ, List.cons_append, dt, if_neg (by simp)]; show 46 :: dt false _ = _; rw [ih]; rfl
theorem dt_dots_t (k : Nat) (r : List Nat) (hk : 1 ≤ k) : dt true (List.replicate k 46 ++ r) = List.replicate (k + 1) 46 ++ dt false r := by
  obtain ⟨j, rfl⟩ : ∃ j, k = j + 1 := ⟨k - 1, by omega⟩
  rw [List.replicate_succ, List.cons_append, dt, if_pos (by simp), dt_dots]; rfl
theorem End3.list {e : Str} (h : End3 e) : e.cps.toList = [10] ∨ e.cps.toList = [13] ∨ e.cps.toList = [13, 10] := by
  rcases h with rfl | rfl | rfl
  · exact .inl (by decide +kernel)
  · exact .inr (.inl (by decide +kernel))
  · exact .inr (.inr (by decide +kernel))
theorem End3.sl {e : Str} (h : End3 e) : SL e 2 := by
  have e1 : e.length = e.cps.toList.length := by simp [Str.length]
  rcases h.list with h | h | h <;> (unfold SL; rw [e1, h]; decide)
theorem app_list (x y : Str) : (x ++ y).cps.toList = x.cps.toList ++ y.cps.toList := by
  show (x.cps ++ y.cps).toList = _
  simp
theorem toArr (x : Str) : (⟨x.cps.toList.toArray⟩ : Str) = x := by cases x; simp
theorem litA : (Str.ofString "\r.\r").cps.toList = [13, 46, 13] := by decide +kernel
theorem litB : (Str.ofString "\r\n..\r\n").cps.toList = [13, 10, 46, 46, 13, 10] := by decide +kernel
theorem sent_due {b : Bool} {n0 n1 : Int} {e0 e1 : Str} (h0 : End3 e0) (h1 : End3 e1) (g0 : 1 ≤ n0) (g1 : 1 ≤ n1) :
    (⟨(qd (mailT b n0 n1 e0 e1 ++ Str.ofString "\r.\r").cps.toList).toArray⟩ : Str) = dueT b n0 n1 := by
  apply str_eq
  show qd _ = _
  obtain ⟨j0, hj0⟩ : ∃ j, n0.toNat = j + 1 := ⟨n0.toNat - 1, by omega⟩
  obtain ⟨j1, hj1⟩ : ∃ j, n1.toNat = j + 1 := ⟨n1.toNat - 1, by omega⟩
  have k0 : (n0 + 1).toNat = j0 + 2 := by omega
  have k1 : (n1 + 1).toNat = j1 + 2 := by omega
  cases b <;> (
    unfold dueT mailT qd
    simp only [cond, app_list, th0, th1, dotL, litA, litB, lit_crlf, Int.add_zero, List.append_assoc, k0, k1, hj0, hj1]
    rcases h0.list with e | e | e <;> rcases h1.list with e' | e' | e' <;> rw [e, e'] <;>
      simp [n2, n2_dots, n2_dots_t, dt, dt_dots, dt_dots_t, List.replicate_succ])
theorem SL_size {x : Str} {a : Nat} (h : SL x a) (ha : a ≤ 400) : x.cps.size ≤ 400 := Nat.le_trans h ha
section
variable {prog : Program} {w : World} {A : Around} {E : Value → Shared → Prop} {s : Shared} {h₀ : Heap} {L : Addr} {news : Led}
theorem pick3 {value slice : PySem.Expr} {l : Addr} {a b c : Str} {ta tb tc : Tok} {n : Nat} {k : Int} {u : Tok} {Q : Value → Shared → Prop} (N : News h₀ L s.heap news) (hm : (l, W.listOf #[.str a ta, .str b tb, .str c tc] n) ∈ news)
    (h0 : 0 ≤ k ∧ k < 3) (h : ∀ e t, (e = a ∨ e = b ∨ e = c) → Q (.str e t) s)
    (hs : subscripted slice false (.ref l) (.int k u) = operate [.ref l, .int k u] (getItem (.ref l) (.int k u)) := by with_unfolding_all rfl) (hg : ∀ r, letTemporaryGo value (.ref l) r = pure () := by intro _; with_unfolding_all rfl) : wpAny (model prog w) A (subscriptTail value slice (.ref l) (.int k u)) Q E s := by
  rcases (by omega : k = 0 ∨ k = 1 ∨ k = 2) with rfl | rfl | rfl
  · exact lit_item N hm (by decide) (by decide) (v := .str a ta) rfl (h _ _ (.inl rfl)) hs hg
  · exact lit_item N hm (by decide) (by decide) (v := .str b tb) rfl (h _ _ (.inr (.inl rfl))) hs hg
  · exact lit_item N hm (by decide) (by decide) (v := .str c tc) rfl (h _ _ (.inr (.inr rfl))) hs hg
end
section
variable {prog : Program} {w : World} {A : Around} {E : Value → Shared → Prop} {s : Shared} {h₀ : Heap} {L : Addr} {m : Str → Option Value} {news : Led}
theorem list_two {l : Addr} {v : Value} {n : Nat} {u : Tok} {Q : Value → Shared → Prop} (F : Fr h₀ L s.heap m) (N : News h₀ L s.heap news) (hm : (l, W.listOf #[v] n) ∈ news)
    (h : ∀ D h', Fr h₀ L h' m → News h₀ L h' ((D, W.listOf #[v, v] 0) :: news) → (∀ p ∈ news, p.1 < D) → Q (.ref D) { s with heap := h' }) : wpAny (model prog w) A (binaryOp .Mult (.ref l) (.int 2 u)) Q E s :=
  KMa.mul (vs := [v]) (ws := [v, v]) F N (N.isList hm) (by decide) (by decide) (by show 1 * 2 ≤ 256; decide) rfl h
end
theorem mod3 (k : Int) : 0 ≤ Int.fmod k 3 ∧ Int.fmod k 3 < 3 := by
  have := Int.fmod_eq_emod_of_nonneg k (show (0:Int) ≤ 3 by decide)
  omega
theorem End3.of {e : Str} (h : e = Str.ofString "\n" ∨ e = Str.ofString "\r" ∨ e = Str.ofString "\r\n") : End3 e := h
theorem End3.of' {e : Str} (h : e = Str.ofString "\r" ∨ e = Str.ofString "\n" ∨ e = Str.ofString "\r\n") : End3 e := by
  rcases h with h | h | h
  · exact .inr (.inl h)
  · exact .inl h
  · exact .inr (.inr h)
end
section -- E0
section
open PySem.SeqAt PySem.MeetsSeq PySem.MeetsSeq2 PySem.MeetsSeq3 PySem.SeqRoads2
open PySem.AutoSeq1 (wpAny_loadPart')
variable {prog : Program} {w : World} {A : Around} {s : Shared}
theorem EqP.of {y x : Value} (h : SeqAt.EqAt A s y x true) : EqP prog w A s y x := fun E Q hq => h prog w E Q hq
theorem EqP.same (v : Value) : EqP prog w A s v v := .of (SeqAt.EqAt.same v)
theorem EqP.int {a b : Int} {t u : Tok} (h : a = b) : EqP prog w A s (.int a t) (.int b u) := .of (by have := SeqAt.EqAt.int_int (A := A) (s := s) a t b u; rw [h] at this ⊢; simpa using this)
theorem EqP.ref {a b : Addr} (hne : a ≠ b) (h : ∀ (E : Value → Shared → Prop) (Q : Value → Shared → Prop), Q (.bool true) s → wpAny (model prog w) A (compareOp .Eq (.ref a) (.ref b)) Q E s) : EqP prog w A s (.ref a) (.ref b) := fun E Q hq => by
  unfold eqBool
  refine wpAny_holding ?_
  refine wpAny_ite_split (fun hab => absurd (by have := eq_of_beq hab; injection this) hne) (fun _ => ?_)
  exact wpAny_bind (h E _ (wpAny_truthy_bool hq))
theorem u17 : Up 17 := by
  refine u16.step rfl ?_
  k_extra "st"
  iterate 10 k_extra "g"
  intro R n2 n ys xs b l A w prog hsz k
  induction k with
  | zero =>
    intro i s hk hl hb he hR
    refine codeAny_builtin entry_eq_loop ?_
    rw [Around.under_plainId plain_eq_loop _]
    obtain ⟨hp, g, d, tk, os⟩ := s
    unfold Builtin.«list.__eq__.loop»
    wp_walk using wpAny_loadPart' hl, wpAny_loadPart' hb
    have hi1 : xs[((i : Nat) : Int).toNat]? = none := by simp; omega
    have hi2 : ys[((i : Nat) : Int).toNat]? = none := by simp; omega
    rw [hi1, hi2]
    wp_walk using wpAny_loadPart' hl, wpAny_loadPart' hb
    show R (.ok (.ret (.bool (xs.size != ys.size)))) _
    rw [hsz]
    simpa using hR
  | succ k ih =>
    intro i s hk hl hb he hR
    refine codeAny_builtin entry_eq_loop ?_
    rw [Around.under_plainId plain_eq_loop _]
    have hlt : i < xs.size := by omega
    have hlt2 : i < ys.size := by omega
    have next := ih (i + 1) s (by omega) hl hb he hR
    obtain ⟨hp, g, d, tk, os⟩ := s
    unfold Builtin.«list.__eq__.loop»
    wp_walk using wpAny_loadPart' hl, wpAny_loadPart' hb
    have hi1 : xs[((i : Nat) : Int).toNat]? = some xs[i] := by simp [hlt]
    have hi2 : ys[((i : Nat) : Int).toNat]? = some ys[i] := by simp [hlt2]
    rw [hi1, hi2]
    refine wpAny_bind (he i hlt hlt2 _ _ ?_)
    wp_walk
    exact ⟨plainId_quiet plain_eq_loop _, next⟩
theorem neLoop : ∀ {prog w A l b xs ys n a R}, @T17 prog w A l b xs ys n a R := no_implicit_lambda% (u17.get rfl)
theorem u18 : Up 18 := by
  refine u17.step rfl ?_
  k_extra "st"
  iterate 10 k_extra "g"
  intro Q E ys xs b l s A w prog hl hb hd hd2 hsz hu he h
  have tl := hl.typeIs
  have tb := hb.typeIs
  obtain ⟨⟨cls, dd, data, sl⟩, ho, hc, n, hdat⟩ := id hl
  obtain ⟨⟨cls2, dd2, data2, sl2⟩, ho2, hc2, n2, hdat2⟩ := id hb
  have z1 := hd _ ho
  have z2 := hd2 _ ho2
  simp only at hc hdat hc2 hdat2 z1 z2
  obtain ⟨z1, z1'⟩ := z1
  obtain ⟨z2, z2'⟩ := z2
  subst hc hdat hc2 hdat2 z1 z1' z2 z2'
  refine wpAny_richCompare_same_room (op := .NotEq) tl tb PySem.F.slot_list_ne (wpAny_call (codeAny_call_builtin PySem.F.slot_list_ne.plain PySem.F.entry_list_ne (PySem.F.slot_list_ne.check _ _ _ _ _ _ _ _ tl (PySem.F.args_list_ne_2 _ _) ?_))) hu
  have next : codeAny (model prog w) A (.builtin "list.__eq__.loop" ⟨[.ref l, .ref b, rawInt (0 : Nat), rawInt 3], []⟩) (fun r s' => match r with | .ok (.ret v) => v ≠ .notImplemented ∧ Q v s' | .ok _ => False | .error e => E e s') s :=
    neLoop hsz _ 0 s rfl ho ho2 he ⟨(fun x => nomatch x), h⟩
  obtain ⟨hp, g, d, tk, os⟩ := s
  have f3 := AutoSeq1.sub_list_list
  have hne : ¬ (xs.size != ys.size) = true := by simp [hsz]
  unfold Builtin.«list.__ne__»
  wp_walk using wpAny_loadPart' ho, wpAny_loadPart' ho2
  exact ⟨plainId_quiet plain_eq_loop _, next⟩
theorem neLists : ∀ {prog w A s l b xs ys E Q}, @T18 prog w A s l b xs ys E Q := no_implicit_lambda% (u18.get rfl)
theorem u19 : Up 19 := by
  refine u18.step rfl ?_
  k_extra "st"
  iterate 10 k_extra "g"
  intro Q E ys xs b l s A w prog hl hb hsz hu he h
  have tl := hl.typeIs
  have tb := hb.typeIs
  obtain ⟨⟨cls, dd, data, sl⟩, ho, hc, n, hdat⟩ := id hl
  obtain ⟨⟨cls2, dd2, data2, sl2⟩, ho2, hc2, n2, hdat2⟩ := id hb
  simp only at hc hdat hc2 hdat2
  subst hc hdat hc2 hdat2
  refine wpAny_richCompare_same_room (op := .Eq) tl tb PySem.F.slot_tuple_eq (wpAny_call_entry PySem.F.slot_tuple_eq tl PySem.F.entry_tuple_eq ?_ (PySem.F.args_tuple_eq_2 _ _)) hu
  obtain ⟨hp, g, d, tk, os⟩ := s
  have f2 := AutoSeq1.sub_tuple_tuple
  have hZ : (xs.toList.zip ys.toList).length = xs.size := by simp [hsz]
  unfold Builtin.«tuple.__eq__»
  wp_walk using wpAny_loadPart' ho, wpAny_loadPart' ho2, wpAny_forIn_list _ (fun rest b s' => b.1 = none ∧ s' = ⟨hp, g, d, tk, os⟩ ∧ ∃ i, rest = (xs.toList.zip ys.toList).drop i) _
  case turn =>
    rintro ⟨y, x⟩ rest b s' ⟨hb', rfl, i, hz⟩
    have hlt : i < (xs.toList.zip ys.toList).length := by
      rcases Nat.lt_or_ge i (xs.toList.zip ys.toList).length with h' | h'
      · exact h'
      · rw [List.drop_of_length_le h'] at hz; cases hz
    have h1 : i < xs.size := hZ ▸ hlt
    have h2 : i < ys.size := hsz ▸ h1
    rw [List.drop_eq_getElem_cons hlt] at hz
    injection hz with hyx hrest
    have hy : y = xs[i] := by have := congrArg Prod.fst hyx; simpa using this
    have hx : x = ys[i] := by have := congrArg Prod.snd hyx; simpa using this
    subst hy hx
    refine wpAny_bind (he i h1 h2 _ _ ?_)
    wp_walk
    exact ⟨rfl, rfl, i + 1, hrest⟩
  case fin =>
    rintro ⟨b1, b2⟩ s' ⟨hb', rfl, i, hz⟩
    simp only at hb'
    subst hb'
    wp_walk
    refine ⟨_, rfl, (fun x => nomatch x), ?_⟩
    have : (xs.size == ys.size) = true := by simp [hsz]
    simpa [Builtin.Tuple.tupleCompareSizes, this] using h
  case h => exact ⟨rfl, rfl, 0, rfl⟩
theorem eqTuples : ∀ {prog w A s l b xs ys E Q}, @T19 prog w A s l b xs ys E Q := no_implicit_lambda% (u19.get rfl)
theorem hits_callers {kvs kvs' : List (Str × Value)} {c : List (Str × Int)} (h : CallersAre kvs c) (hk : ∀ k n, (k, n) ∈ c → ∃ t, valueAt kvs' k = some (.int n t)) : KeqHits A s kvs' kvs true := by
  induction h with
  | nil => exact .nil
  | cons k n t r ih =>
    obtain ⟨u, hu⟩ := hk k n List.mem_cons_self
    have e : SeqAt.EqAt A s (.int n t) (.int n u) true := by have := SeqAt.EqAt.int_int (A := A) (s := s) n t n u; simpa using this
    exact .hit (e := true) hu e (ih fun k n hm => hk k n (List.mem_cons_of_mem _ hm))
theorem callers_at {kvs : List (Str × Value)} {c : List (Str × Int)} (h : CallersAre kvs c) (hn : (c.map (·.1)).Nodup) : ∀ k n, (k, n) ∈ c → ∃ t, valueAt kvs k = some (.int n t) := by
  induction h with
  | nil => intro k n hm; cases hm
  | @cons k' n' t kvs' c' r ih =>
    intro k n hm
    rw [List.map_cons, List.nodup_cons] at hn
    rcases List.mem_cons.mp hm with e | hm
    · injection e with e1 e2
      subst e1 e2
      exact ⟨t, by simp [valueAt]⟩
    · have hne : k' ≠ k := by
        rintro rfl
        exact hn.1 (List.mem_map_of_mem (f := (·.1)) hm)
      obtain ⟨u, hu⟩ := ih hn.2 k n hm
      exact ⟨u, by simp [valueAt, hne] at hu ⊢; exact hu⟩
theorem callers_len {kvs : List (Str × Value)} {c : List (Str × Int)} (h : CallersAre kvs c) : kvs.length = c.length := by
  induction h with
  | nil => rfl
  | cons k n t r ih => simp [ih]
theorem EqP.dicts {a b : Addr} {ka kb : List (Str × Value)} {c c' : List (Str × Int)} (hne : a ≠ b) (la : (a == sysModules) = false) (lb : (b == sysModules) = false) (da : s.heap.DictOf (strKind prog w) a ka) (db : s.heap.DictOf (strKind prog w) b kb)
    (ha : CallersAre ka c) (hb : CallersAre kb c') (hn : (c'.map (·.1)).Nodup) (hlen : c.length = c'.length) (hsub : ∀ p ∈ c, p ∈ c') (hu : A.units < cLine) : EqP prog w A s (.ref a) (.ref b) :=
  .ref hne fun E Q h => keq_eq la lb da db hu (fun _ => hits_callers ha fun k n hm => callers_at hb hn k n (hsub _ hm)) (by
    have e : (ka.length == kb.length) = true := by rw [callers_len ha, callers_len hb]; simpa using hlen
    rw [e]; exact h)
end
section
variable {prog : Program} {w : World} {A : Around} {E : Value → Shared → Prop} {s : Shared} {h₀ : Heap} {L : Addr} {news : Led}
theorem ne_kept {l ak a1 a2 k1 k2 : Addr} {n nk : Nat} {oa1 oa2 o1 o2 : Obj} {Q : Value → Shared → Prop} {kv1 kv2 : List (Str × Value)} {c1 c2 : List (Str × Int)} (N : News h₀ L s.heap news)
    (hm : (l, W.listOf #[.ref a1, .ref a2] n) ∈ news) (hk : (ak, W.listOf #[.ref k1, .ref k2] nk) ∈ news)
    (m1 : (a1, oa1) ∈ news) (d1 : oa1.IsDictOf (strKind prog w) kv1) (m2 : (a2, oa2) ∈ news) (d2 : oa2.IsDictOf (strKind prog w) kv2) (m3 : (k1, o1) ∈ news) (d3 : o1.IsDictOf (strKind prog w) kv1) (m4 : (k2, o2) ∈ news) (d4 : o2.IsDictOf (strKind prog w) kv2)
    (h1 : CallersAre kv1 c1) (h2 : CallersAre kv2 c2) (n1 : (c1.map (·.1)).Nodup) (n2 : (c2.map (·.1)).Nodup) (e1 : a1 ≠ k1) (e2 : a2 ≠ k2)
    (l1 : (a1 == sysModules) = false) (l2 : (a2 == sysModules) = false) (l3 : (k1 == sysModules) = false) (l4 : (k2 == sysModules) = false) (hu : A.units < cLine) (hu' : A.in1.units < cLine)
    (h : Q (.bool false) s) : wpAny (model prog w) A (compareOp .NotEq (.ref l) (.ref ak)) Q E s := by
  refine neLists (N.isList hm) (N.isList hk) (fun o e => ?_) (fun o e => ?_) rfl hu (fun j q1 q2 => ?_) h
  · rw [(N _ hm).1] at e; injection e with e; subst e; exact ⟨rfl, rfl⟩
  · rw [(N _ hk).1] at e; injection e with e; subst e; exact ⟨rfl, rfl⟩
  · rcases j with _ | _ | j
    · exact EqP.dicts e1 l1 l3 (kda_dict N m1 d1) (kda_dict N m3 d3) h1 h1 n1 rfl (fun _ h => h) hu'
    · exact EqP.dicts e2 l2 l4 (kda_dict N m2 d2) (kda_dict N m4 d4) h2 h2 n2 rfl (fun _ h => h) hu'
    · exact absurd q1 (by simp)
end
end
section -- E1
section
open PySem.StrLaws PySem.Builtin PySem.Builtin.Str
theorem at_crlf (x : Str) (k : Nat) : At x (Str.ofString "\r\n") x.length k ↔ (x.cps.toList.drop k).take 2 = [13, 10] := by
  have e2 : (Str.ofString "\r\n").length = 2 := by decide +kernel
  unfold At
  rw [subAt_eq, lit_crlf, e2]
  constructor
  · intro h; exact eq_of_beq h.2
  · intro h
    refine ⟨?_, by rw [h]; rfl⟩
    have h2 := congrArg List.length h
    have hn : x.cps.toList.length = x.length := by simp [Str.length]
    simp at h2
    simp [Str.length]; omega
theorem parts_of (x : Str) : ∀ (ps : List (List Nat)) (p : List Nat) (a : Nat) (cuts : List Nat) (f : Nat), (∀ q ∈ p :: ps, 13 ∉ q) → x.cps.toList.drop a = joinL p ps → a ≤ x.length →
    ChainG x (Str.ofString "\r\n") x.length a cuts f → (∀ k, f ≤ k → ¬ At x (Str.ofString "\r\n") x.length k) → (partsFrom x 2 a cuts).map (fun y => y.cps.toList) = p :: ps := by
  have hn : x.cps.toList.length = x.length := by simp [Str.length]
  have e2 : (Str.ofString "\r\n").length = 2 := by decide +kernel
  have last : ∀ a, (strSub x a x.length).cps.toList = x.cps.toList.drop a := fun a => by
    rw [strSub_toList]; exact List.take_of_length_le (by simp [Str.length])
  have free : ∀ (p r : List Nat) (a j : Nat), 13 ∉ p → x.cps.toList.drop a = p ++ r → j < p.length → ¬ At x (Str.ofString "\r\n") x.length (a + j) := by
    intro p r a j hp hd hj hA
    rw [at_crlf, ← List.drop_drop, hd, List.drop_append_of_le_length (by omega), List.drop_eq_getElem_cons hj, List.cons_append, List.take_succ_cons] at hA
    injection hA with h1 _
    exact hp (h1 ▸ List.getElem_mem hj)
  intro ps
  induction ps with
  | nil =>
    intro p a cuts f hp hd ha hc hf
    have no : ∀ k, a ≤ k → ¬ At x (Str.ofString "\r\n") x.length k := by
      intro k hk hA
      obtain ⟨j, rfl⟩ := Nat.exists_eq_add_of_le hk
      by_cases hj : j < p.length
      · exact free p [] a j (hp p List.mem_cons_self) (by rw [hd]; simp [joinL]) hj hA
      · rw [at_crlf, ← List.drop_drop, hd] at hA
        rw [show joinL p [] = p from rfl, List.drop_eq_nil_of_le (by omega)] at hA
        cases hA
    cases cuts with
    | nil => show [(strSub x a x.length).cps.toList] = [p]; rw [last, hd]; rfl
    | cons c r => exact absurd hc.2.1 (no c hc.1)
  | cons q ps ih =>
    intro p a cuts f hp hd ha hc hf
    have hd' : x.cps.toList.drop a = p ++ (13 :: 10 :: joinL q ps) := hd
    have hat : At x (Str.ofString "\r\n") x.length (a + p.length) := by
      rw [at_crlf, ← List.drop_drop, hd', List.drop_append_of_le_length (Nat.le_refl _), List.drop_length]; rfl
    cases cuts with
    | nil =>
      have e : f = a := hc
      subst e
      exact absurd hat (hf _ (Nat.le_add_right _ _))
    | cons c r =>
      have hc' : c = a + p.length := by
        obtain ⟨h1, h2, h3, _⟩ := hc
        obtain ⟨j, rfl⟩ := Nat.exists_eq_add_of_le h1
        rcases Nat.lt_trichotomy j p.length with h | h | h
        · exact absurd h2 (free p _ a j (hp p List.mem_cons_self) hd' h)
        · rw [h]
        · exact absurd hat (h3 _ (Nat.le_add_right _ _) (by omega))
      subst hc'
      have hle := hat.1
      rw [e2] at hle
      have hs : (strSub x a (a + p.length)).cps.toList = p := by
        rw [strSub_toList, hd', show a + p.length - a = p.length by omega, List.take_append_of_le_length (Nat.le_refl _), List.take_length]
      have hr := hc.2.2.2
      rw [e2] at hr
      have rest := ih q (a + p.length + 2) r f (fun z hz => hp z (List.mem_cons_of_mem _ hz)) (by
        rw [show a + p.length + 2 = a + (p.length + 2) by omega, ← List.drop_drop, hd', ← List.drop_drop, List.drop_append_of_le_length (Nat.le_refl _), List.drop_length]; rfl) hle hr hf
      show (strSub x a (a + p.length)).cps.toList :: _ = _
      rw [hs, rest]
theorem split_joinL (x : Str) (p q : List Nat) (ps : List (List Nat)) (hp : ∀ z ∈ p :: q :: ps, 13 ∉ z) (hx : x.cps.toList = joinL p (q :: ps)) (hk : strKind x = 1) : (Txt.split x (Str.ofString "\r\n")).map (fun y => y.cps.toList) = p :: q :: ps := by
  have e2 : (Str.ofString "\r\n").length = 2 := by decide +kernel
  obtain ⟨f, h1, h2⟩ := occ_tight x (Str.ofString "\r\n") (by rw [e2]; decide)
  have key := parts_of x (q :: ps) p 0 _ f hp (by rw [List.drop_zero, hx]) (Nat.zero_le _) h1 h2
  have hat : At x (Str.ofString "\r\n") x.length p.length := by
    rw [at_crlf, hx]; show ((p ++ 13 :: 10 :: joinL q ps).drop p.length).take 2 = _
    rw [List.drop_append_of_le_length (Nat.le_refl _), List.drop_length]; rfl
  have hk2 : strKind (Str.ofString "\r\n") = 1 := by decide +kernel
  have hle := hat.1
  rw [e2] at hle
  have c1 : ¬ (decide (x.length < (Str.ofString "\r\n").length) || decide (strKind x < strKind (Str.ofString "\r\n"))) = true := by
    rw [hk, hk2, e2]; simp; omega
  unfold Txt.split
  rw [if_neg c1, if_neg ?_, partsBetween_eq, e2]
  · exact key
  · intro he
    have : (occurrences x (Str.ofString "\r\n") 0 x.length (x.length + 1)) = [] := by simpa using he
    rw [this] at key
    simp [partsFrom] at key
end
theorem due_list (b : Bool) (d0 d1 : Int) : (dueT b d0 d1).cps.toList = joinL (row0 b (d0 + cond b 0 1)) [row1 b (d1 + cond b 1 0), [], [46, 46], []] := by
  cases b <;> (
    unfold dueT mailT row0 row1
    simp only [cond, app_list, th0, th1, dotL, litB, lit_crlf, List.append_assoc]
    simp [joinL])
theorem row_free (b : Bool) (n : Int) : 13 ∉ row0 b n ∧ 13 ∉ row1 b n := by
  have h : ∀ k : Nat, 13 ∉ List.replicate k 46 := fun k hm => by have := List.eq_of_mem_replicate hm; omega
  cases b <;> simp [row0, row1, h]
theorem strKind_due (b : Bool) (d0 d1 : Int) : Builtin.Str.strKind (dueT b d0 d1) = 1 := by
  unfold Builtin.Str.strKind
  have h : (dueT b d0 d1).cps.all (· < 256) = true := by
    rw [← Array.all_toList, due_list]
    cases b <;> simp [joinL, row0, row1, List.all_append, List.all_replicate]
  rw [if_pos h]
theorem split_dueT (b : Bool) (d0 d1 : Int) : (Txt.split (dueT b d0 d1) (Str.ofString "\r\n")).map (fun y => y.cps.toList) = [row0 b (d0 + cond b 0 1), row1 b (d1 + cond b 1 0), [], [46, 46], []] := by
  refine split_joinL _ _ _ _ ?_ (due_list b d0 d1) (strKind_due b d0 d1)
  intro z hz
  simp only [List.mem_cons, List.not_mem_nil, or_false] at hz
  rcases hz with rfl | rfl | rfl | rfl | rfl
  · exact (row_free b _).1
  · exact (row_free b _).2
  · simp
  · simp
  · simp
theorem row0_len (b : Bool) {n : Int} (h : 0 ≤ n) : ((row0 b n).length : Int) = n + 1 := by
  cases b <;> (simp [row0]; omega)
theorem row1_len (b : Bool) {n : Int} (h : 0 ≤ n) : ((row1 b n).length : Int) = n + 1 := by
  cases b <;> (simp [row1]; omega)
section
variable {prog : Program} {w : World} {A : Around} {E : Value → Shared → Prop} {s : Shared} {h₀ : Heap} {L : Addr} {m : Str → Option Value} {news : Led} {Q : Value → Shared → Prop}
theorem u20 : Up 20 := by
  refine u19.step rfl ?_
  k_extra "st"
  iterate 15 k_extra "g"
  intro u t d1 d0 b Q news m L h₀ s E A w prog F N h0 h1 h
  have hb : 0 ≤ d0 + cond b 0 1 ∧ 0 ≤ d1 + cond b 1 0 := by cases b <;> simp only [cond] <;> omega
  have hl : (dueT b d0 d1).length = (joinL (row0 b (d0 + cond b 0 1)) [row1 b (d1 + cond b 1 0), [], [46, 46], []]).length := by
    rw [← due_list]; simp [Str.length]
  have r0 := row0_len b hb.1
  have r1 := row1_len b hb.2
  have c0 : (cond b (0 : Int) 1) ≤ 1 := by cases b <;> decide
  have c1 : (cond b (1 : Int) 0) ≤ 1 := by cases b <;> decide
  refine KSpl.split1 F N (by decide +kernel) (fun D l h' k e _ F' N' lt => ?_) ?_
  · have e2 : (l.map (·.1)).map (fun y => y.cps.toList) = [row0 b (d0 + cond b 0 1), row1 b (d1 + cond b 1 0), [], [46, 46], []] := by rw [e]; exact split_dueT b d0 d1
    rcases l with _ | ⟨⟨x0, t0⟩, _ | ⟨⟨x1, t1⟩, _ | ⟨⟨x2, t2⟩, _ | ⟨⟨x3, t3⟩, _ | ⟨⟨x4, t4⟩, _ | ⟨q, l⟩⟩⟩⟩⟩⟩
    rotate_left 5
    rotate_left 1
    all_goals first
      | (exfalso; have hlen := congrArg List.length e2; simp only [List.length_map, List.length_cons, List.length_nil] at hlen; omega)
      | skip
    · simp only [List.map_cons, List.map_nil, List.cons.injEq] at e2
      have z0 : (x0.length : Int) = d0 + cond b 0 1 + 1 := by
        rw [← r0, ← e2.1]; simp [Str.length]
      have z1 : (x1.length : Int) = d1 + cond b 1 0 + 1 := by
        rw [← r1, ← e2.2.1]; simp [Str.length]
      exact h D h' k x0 x1 x2 x3 x4 t0 t1 t2 t3 t4 z0 z1 F' N' lt
  · rw [hl, sizeLine_eq]
    simp only [joinL, List.length_append, List.length_cons, List.length_nil]
    omega
theorem split_due : ∀ {prog w A E s h₀ L m news Q b a c t d}, @T20 prog w A E s h₀ L m news Q b a c t d := no_implicit_lambda% (u20.get rfl)
end
section
variable {prog : Program} {w : World} {A : Around} {E : Value → Shared → Prop} {s : Shared} {Q : Value → Shared → Prop}
theorem len_txt {x : Str} {k : Int} {t : Tok} (hx : (x.length : Int) = k + 1) (hk : k < 1000) (h : ∀ t' tk, Q (.int (k + 1) t') { s with toks := tk }) : wpAny (model prog w) A (call (.builtin "len") [.str x t]) Q E s :=
  SBL.len (by omega) (by rw [hx]; exact h _ _)
end
end
section -- K0
section
open PySem.Calls
variable {prog : Program} {w : World} {A : Around} {E : Value → Shared → Prop} {s : Shared}
theorem put_new {knd : KeyKind prog w Str} {d : Addr} {kvs : List (Str × Value)} {k : Str} {key v : Value} {Q : Unit → Shared → Prop} (hkey : knd.is k key = true) (hm : s.heap.DictOf knd d kvs) (hnew : ∀ p ∈ kvs, p.1 ≠ k) (hsz : kvs.length ≤ 1000)
    (hQ : ∀ h', h'.DictOf knd d (kvs ++ [(k, v)]) → Heap.SameBut d s.heap h' → Q () { s with heap := h' }) :
    wpAny (model prog w) A (do
      if (← dictFind d key (knd.hash k)).isSome then rule "dict.merge.duplicate-key"; raiseNew (← newExc (.type "KeyError") [key])
      dictPut d (knd.hash k) key v) Q E s := by
  obtain ⟨o, es, ep, ho, hc, hd, hk, hp, hn⟩ := hm
  have hes : es.size ≤ 1000 := by
    have e1 := hp.length
    have e2 : es.toList.length = es.size := by simp
    omega
  have hnot : k ∉ kvs.map (·.1) := fun hmem => by
    obtain ⟨p, hp1, hp2⟩ := List.mem_map.mp hmem
    exact hnew p hp1 hp2
  have hidx : (es.findIdx? fun e => knd.is k e.key) = none := by
    have h1 := hp.findIdx k
    have h2 : (kvs.findIdx? fun kv => decide (kv.1 = k)) = none := List.findIdx?_eq_none_iff.mpr fun p hm => by simpa using hnew p hm
    rw [h2] at h1
    rw [← h1]; obtain ⟨l⟩ := es; simp
  refine wpAny_bind (wpAny_dictFind_of hkey ho hd hk ?_)
  rw [hidx]
  simp only [Option.isSome_none, Bool.false_eq_true, if_false]
  unfold dictPut
  refine wpAny_bind (wpAny_dictFind_of hkey ho hd hk ?_)
  rw [hidx]
  refine wpAny_updateDictKeys (hz := by rw [sizeLine_eq]; omega) ho hd (hQ _ ⟨_, _, ep + 1, Heap.get?_update_self _ ho (Obj.isFreed_of_dict (Obj.data_mapDictKeys hd _)),
      hc.mapDictKeys _, Obj.data_mapDictKeys hd _, hk.push hkey _, ?_, ?_⟩ (Heap.SameBut.update ..))
  · have := hp.append hkey (knd.hash k) v
    obtain ⟨l⟩ := es
    simpa using this
  · rw [List.map_append, List.nodup_append]
    refine ⟨hn, by simp, ?_⟩
    intro a ha b hb
    simp at hb
    rintro rfl
    exact hnot (hb ▸ ha)
theorem u21 : Up 21 := by
  refine u20.step rfl ?_
  k_extra "st"
  iterate 9 k_extra "g"
  intro Q kvs a d s E A w prog knd hne la hd ha hsz hnr hQ
  have ta := ha.typeIs
  have td := hd
  obtain ⟨o, es, ep, ho, hc, hdat, hk, hp, hn⟩ := id ha
  obtain ⟨o', es', ep', ho', hc', hdat', hk', hp', hn'⟩ := id hd
  have hes : es.size = kvs.length := by
    have e1 := hp.length
    have e2 : es.toList.length = es.size := by simp
    omega
  have hes' : es' = #[] := by
    have e1 := hp'.length
    exact Array.toList_inj.mp (List.length_eq_zero_iff.mp (by simpa using e1))
  subst hes'
  have step2 : wpAny (model prog w) A (do
      let size := (← dictEntries a).size
      let epoch ← dictEpoch a
      for i in List.range size do
        let some e := (← dictEntries a)[i]? | unsupported "dict.changed-during-merge"
        holding [e.key, e.val] do
          if true then
            if (← dictFind d e.key e.hash).isSome then rule "dict.merge.duplicate-key"; raiseNew (← newExc (.type "KeyError") [e.key])
          dictPut d e.hash e.key e.val
        if (← dictEpoch a) != epoch then unsupported "dict.changed-during-merge") Q E s := by
    refine wpAny_bind (wpAny_dictEntries ho hdat ?_)
    refine wpAny_bind (wpAny_dictEpoch ho hdat ?_)
    refine wpAny_bind (wpAny_forIn_list _ (fun rest _ s' => ∃ h' i, s' = { s with heap := h' } ∧ rest = (List.range es.size).drop i ∧ i ≤ es.size ∧ h'.DictOf knd d (kvs.take i) ∧ h'.get? a = some o ∧ Heap.SameBut d s.heap h')
      _ ?_ ?_ (List.range es.size) PUnit.unit ⟨s.heap, 0, rfl, rfl, Nat.zero_le _, by simpa using hd, ho, Heap.SameBut.refl _ _⟩)
    · rintro x rest b s' ⟨h', i, rfl, hr, hi, hd', hoo', hs'⟩
      have hlt : i < es.size := by
        rcases Nat.lt_or_ge i es.size with h | h
        · exact h
        · rw [List.drop_eq_nil_of_le (by simpa using h)] at hr; cases hr
      rw [List.drop_eq_getElem_cons (by simpa using hlt)] at hr
      injection hr with hx hrest
      have hx : x = i := by simpa using hx
      subst hx
      refine wpAny_bind (wpAny_dictEntries hoo' hdat ?_)
      rw [Array.getElem?_eq_getElem hlt]
      obtain ⟨kv, hkv⟩ : ∃ kv, kvs[x]? = some kv := ⟨kvs[x]'(by omega), List.getElem?_eq_getElem _⟩
      obtain ⟨k, v⟩ := kv
      obtain ⟨hkey, hval⟩ := hp.get? (e := es[x]) (by simp [hlt]) hkv
      obtain ⟨k', hkey', hhash⟩ := hk es[x] (Array.getElem_mem hlt)
      obtain rfl : k' = k := knd.inj _ _ _ hkey' hkey
      dsimp only
      rw [hhash, hval]
      have hnew : ∀ p ∈ kvs.take x, p.1 ≠ k' := by
        intro p hpm he
        obtain ⟨j, hj⟩ := List.getElem?_of_mem hpm
        have hjx : j < x := by
          have := (List.getElem?_eq_some_iff.mp hj).1
          simp at this; omega
        rw [List.getElem?_take_of_lt hjx] at hj
        have h1 : (kvs.map (·.1))[j]? = some k' := by rw [List.getElem?_map, hj]; simp [he]
        have h2 : (kvs.map (·.1))[x]? = some k' := by rw [List.getElem?_map, hkv]; rfl
        have := (List.getElem?_inj (by simpa using Nat.lt_of_lt_of_le hjx (by omega)) hn).mp (h1.trans h2.symm)
        omega
      refine wpAny_bind (wpAny_holding (put_new hkey hd' hnew (by rw [List.length_take]; omega) fun h'' hd'' hs'' => ?_))
      have hoo'' : h''.get? a = some o := (hs''.2 a hne).trans hoo'
      refine wpAny_bind (wpAny_dictEpoch hoo'' hdat ?_)
      rw [if_neg (by simp)]
      exact wpAny_pure ⟨h'', x + 1, rfl, hrest, hlt, by rw [List.take_add_one, hkv]; exact hd'', hoo'', hs'.trans hs''⟩
    · rintro b s' ⟨h', i, rfl, hr, hi, hd', hoo', hs'⟩
      have hin : i = es.size := by
        rcases Nat.lt_or_ge i es.size with h | h
        · rw [List.drop_eq_getElem_cons (by simpa using h)] at hr; cases hr
        · omega
      rw [hin, hes, List.take_length] at hd'
      exact wpAny_pure (hQ h' hd' hs')
  unfold mergeMapping
  refine wpAny_bind (m := isInstance (.ref a) (.type "dict")) (wpAny_isInstance (T := "dict") ta PySem.F.sub_dict_dict ?_)
  refine wpAny_bind (m := specialOf (.ref a) "__iter__") (wpAny_specialOf ta F.slot_dict_iter.lookup ?_)
  refine wpAny_bind (m := pure true) (wpAny_pure ?_)
  show wpAny _ _ (if (a == sysModules) = true then _ else _) _ _ _
  rw [la, if_neg Bool.false_ne_true]
  refine wpAny_bind (m := dictEntries d) (wpAny_dictEntries ho' hdat' ?_)
  refine wpAny_bind (m := dictEntries a) (wpAny_dictEntries ho hdat ?_)
  refine wpAny_bind (wpAny_forIn_array' _ (fun rest _ s' => s' = s ∧ ∀ e ∈ rest, e ∈ es.toList) _ ?_ ?_ _ _ ⟨rfl, fun _ h => h⟩)
  · rintro x rest b s' ⟨rfl, hm⟩
    obtain ⟨k, hkey, _⟩ := hk x (Array.mem_toList_iff.mp (hm x List.mem_cons_self))
    have hx := hnr k x.key hkey
    cases hxk : x.key with
    | ref b => exact absurd hxk (hx b)
    | _ => exact wpAny_pure ⟨rfl, fun e he => hm e (List.mem_cons_of_mem _ he)⟩
  · rintro b s' ⟨rfl, _⟩
    exact step2
theorem merge_into : ∀ {prog w A E s d a kvs Q}, @T21 prog w A E s d a kvs Q := no_implicit_lambda% (u21.get rfl)
theorem strKey {prog : Program} {w : World} {k : Str} {v : Value} (h : (PySem.strKind prog w).is k v = true) : ∃ t, v = .str k t := by
  exact Value.isStrOf_shape h
theorem u22 : Up 22 := by
  refine u21.step rfl ?_
  k_extra "st"
  iterate 9 k_extra "g"
  intro Q kvs d f s E A w prog hd hq
  obtain ⟨o, es, ep, ho, hc, hdat, hk, hp, hn⟩ := hd
  have hes : es.size = kvs.length := by
    have e1 := hp.length
    have e2 : es.toList.length = es.size := by simp
    omega
  unfold keywordsIn
  refine wpAny_bind (wpAny_dictEntries ho hdat ?_)
  refine wpAny_bind (wpAny_forIn_array' _ (fun rest b s' => s' = s ∧ ∃ i, rest = es.toList.drop i ∧ i ≤ es.size ∧ b = kvs.take i) _ ?_ ?_ _ _ ⟨rfl, 0, rfl, Nat.zero_le _, rfl⟩)
  · rintro x rest b s' ⟨rfl, i, hr, hi, rfl⟩
    have hlt : i < es.size := by
      rcases Nat.lt_or_ge i es.size with h | h
      · exact h
      · rw [List.drop_eq_nil_of_le (by simpa using h)] at hr; cases hr
    rw [List.drop_eq_getElem_cons (by simpa using hlt)] at hr
    injection hr with hx hrest
    obtain ⟨kv, hkv⟩ : ∃ kv, kvs[i]? = some kv := ⟨kvs[i]'(by omega), List.getElem?_eq_getElem _⟩
    obtain ⟨k, v⟩ := kv
    obtain ⟨hkey, hval⟩ := hp.get? (e := es[i]) (by simp [hlt]) hkv
    have hx' : x = es[i] := by simpa using hx
    obtain ⟨t, ht⟩ := strKey hkey
    rw [← hx'] at ht hval
    rw [ht]
    refine wpAny_pure ⟨rfl, i + 1, hrest, hlt, ?_⟩
    rw [List.take_add_one, hkv, hval]; rfl
  · rintro b s' ⟨rfl, i, hr, hi, rfl⟩
    have hin : i = es.size := by
      rcases Nat.lt_or_ge i es.size with h | h
      · rw [List.drop_eq_getElem_cons (by simpa using h)] at hr; cases hr
      · omega
    rw [hin, hes, List.take_length]
    exact wpAny_pure hq
theorem wp_keywordsIn : ∀ {prog w A E s f d kvs Q}, @T22 prog w A E s f d kvs Q := no_implicit_lambda% (u22.get rfl)
theorem u23 : Up 23 := by
  refine u22.step rfl ?_
  k_extra "st"
  iterate 20 k_extra "g"
  intro Q kvs o news m a L h₀ p2 pos env e2 e v f s E A w prog F N hm hd la hsz h1 h2 ret he
  rw [he]
  unfold evalArgs
  have hsp : wpAny (model prog w) A (spliced (backTo pos [(false, eval e env)])) (fun vs s₁ => vs = [v] ∧ s₁ = s) E s := by
    show wpAny _ _ (spliced [(false, eval e env)]) _ _ _
    unfold spliced
    refine wpAny_bind (h1 _ _ F ?_)
    dsimp only
    rw [if_neg Bool.false_ne_true]
    unfold spliced
    exact wpAny_bind (wpAny_pure (wpAny_bind (wpAny_holding (wpAny_pure (wpAny_pure ⟨rfl, rfl⟩)))))
  refine wpAny_bind (m := spliced [(false, eval e env)]) (wpAny_mono hsp (fun vs s₁ h₁ => ?_) fun _ _ x => x)
  obtain ⟨rfl, rfl⟩ := h₁
  refine wpAny_holding ?_
  dsimp only
  rw [if_neg (by change ¬ (false = true); exact Bool.false_ne_true)]
  have hmk : wpAny (model prog w) A (mergedKeywords f (backToKw pos (keywordEach [⟨none, e2, p2⟩] env))) (fun d s₂ => s₂.heap.DictOf (PySem.strKind prog w) d kvs ∧ Q ⟨[v], kvs⟩ s₂) E s₁ := by
    have hb : backToKw pos (keywordEach [⟨none, e2, p2⟩] env) = [(none, do let v ← eval e2 env; standAt pos; pure v)] := rfl
    rw [hb]
    have up : ∀ b ob, s₁.heap.get? b = some ob → (s₁.heap.push { cls := .type "dict", data := .dict #[] }).get? b = some ob := fun b ob e => Heap.get?_push_of_some _ e
    have F1 := F.keeps up
    have N1 := N.grown up
    have hnew : (s₁.heap.push { cls := .type "dict", data := .dict #[] }).DictOf (PySem.strKind prog w) s₁.heap.objs.size [] := Heap.DictOf.new s₁.heap
    have hdo : a ≠ s₁.heap.objs.size := Nat.ne_of_lt (Heap.lt_size (N _ hm).1)
    unfold mergedKeywords
    refine wpAny_bind (wpAny_alloc ?_)
    refine wpAny_bind (wpAny_holding ?_)
    dsimp only
    rw [List.forIn_cons]
    refine wpAny_bind (wpAny_bind (wpAny_bind (wpAny_ite_true (by rfl) (wpAny_pure ?_))))
    refine wpAny_bind (wpAny_bind (h2 _ { s₁ with heap := s₁.heap.push { cls := .type "dict", data := .dict #[] } } F1 (wpAny_bind (wpAny_standAt (wpAny_pure ?_)))))
    have hda : (s₁.heap.push { cls := .type "dict", data := .dict #[] }).DictOf (PySem.strKind prog w) a kvs := kda_dict (s := { s₁ with heap := s₁.heap.push { cls := .type "dict", data := .dict #[] } }) N1 hm hd
    refine wpAny_bind (wpAny_onRaise (wpAny_holding (wpAny_tryCatch (wpAny_onRaise (merge_into (s := { s₁ with heap := s₁.heap.push { cls := .type "dict", data := .dict #[] } }) hdo la hnew hda hsz (fun k v hk b hb => ?_) (fun h' hd' hs' => ?_))))))
    · obtain ⟨t, ht⟩ := strKey hk
      rw [hb] at ht; cases ht
    have keep : ∀ b ob, s₁.heap.get? b = some ob → h'.get? b = some ob := fun b ob e => hs'.extBut b ob (Nat.ne_of_lt (Heap.lt_size e)) (up b ob e)
    have fin := ret h' (F.keeps keep) (N.grown keep)
    refine wpAny_pure ?_
    dsimp only
    rw [List.forIn_nil]
    refine wpAny_pure ?_
    refine wpAny_ite_true (by rfl) (wpAny_pure ?_)
    exact wpAny_pure ⟨hd', fin⟩
  refine wpAny_bind (wpAny_mono hmk (fun d s₂ h₂ => ?_) fun _ _ x => x)
  obtain ⟨hd, hq⟩ := h₂
  refine wpAny_bind (wpAny_pure ?_)
  exact wpAny_bind (wpAny_holding (wp_keywordsIn hd (wpAny_pure hq)))
theorem evalArgs_spread : ∀ {prog w A E s f v e b env c d h₀ L a m news o kvs Q}, @T23 prog w A E s f v e b env c d h₀ L a m news o kvs Q := no_implicit_lambda% (u23.get rfl)
theorem u24 : Up 24 := by
  refine u23.step rfl ?_
  k_extra "st"
  iterate 21 k_extra "g"
  intro Q kvs o news m a L h₀ p2 pos env e2 e v f K s E A w prog X hk F N hm hd la hsz h1 h2 ret he
  unfold callWith
  refine wpAny_bind (wpAny_holding (evalArgs_spread F N hm hd la hsz h1 h2 (fun h' F' N' => ?_) he))
  refine wpAny_bind (wpAny_standAt ?_)
  have XK : K.In h' := X.keeps F'.keep
  obtain ⟨k, hk', L'⟩ := keeps_K (M := model prog w) hk h' XK
  have hst : ((backTo pos (starEach [e] env)).any (·.1) || (backToKw pos (keywordEach [⟨none, e2, p2⟩] env)).any (·.1.isNone)) = true := by
    rw [he]; rfl
  simp only [hst]
  refine wpAny_bind (L'.here ?_)
  have body := ret h' F' N'
  have tail : ∀ {t : Sem Value}, wpAny (model prog w) A t Q E { s with heap := h' } → wpAny (model prog w) A (t >>= fun r => holding [r] point >>= fun _ => pure r) Q E { s with heap := h' } :=
    fun ht => wpAny_bind (wpAny_mono ht (fun r s₂ hr => wpAny_bind (wpAny_holding (wpAny_point (wpAny_pure hr)))) fun _ _ x => x)
  rcases hk' with rfl | rfl | rfl <;> dsimp only <;> first
    | exact tail (by unfold callMarked; exact Calls.wpAny_keep body)
    | exact tail (wpAny_operating body)
theorem callWith_spread : ∀ {prog w A E s K f v e b env c d h₀ L a m news o kvs Q}, @T24 prog w A E s K f v e b env c d h₀ L a m news o kvs Q := no_implicit_lambda% (u24.get rfl)
end
section
open PySem.Calls
variable {prog : Program} {w : World} {A A₀ : Around} {s : Shared} {K : Frag} {L : Addr} {h₀ base : Heap} {m mg mb : Str → Option Value} {news : Led} {p : Program} {loose : List Str} {mean : ExcName → Option Value}
theorem enter_kw {env : Env} {outer : List Env} {R : Result → Shared → Prop} {name qual : Str} {params : Arguments} {body : List Stmt} {scope : Scope} {dV kV doc pm cdv ct oc : Value} {an od : Option Addr} {osl : Array (Option Value)} {f : Addr} {args : Args} {nm : Str} {ex front : List (Str × Value)} {g₁ : Addr → Sem (List (Str × Value))}
    (B : Below A₀ base outer h₀) (F : Fr h₀ L s.heap m) (X₀ : K.In h₀) (N : News h₀ L s.heap news) (T : Top p loose mean mg mb h₀) (hA : A.frames = some (env :: outer)) (hf : env.frame = some L) (hke : env.scope.kind = .function)
    (ho : K.lookup f = some ⟨oc, od, .func (fnOf name qual params body scope dV kV doc pm an cdv ct), osl⟩) (hcd : codeIn K cdv qual = true) (hroom : A.depth < recursionLimit)
    (hn : kwDistinct ex = true)
    (hp : peekA K ⟨prog, w.params⟩ (bindArgs (fnOf name qual params body scope dV kV doc pm an cdv ct) args) = some (dictOf [] 0, g₁))
    (hk₁ : ∀ D, g₁ D = (forIn ex PUnit.unit (fun x _ => (nsSet D x.1 x.2 >>= fun _ => pure (ForInStep.yield PUnit.unit))) >>= fun _ => pure (front ++ [(nm, Value.ref D)])))
    (hloc : ∀ D, ∀ y ∈ front ++ [(nm, Value.ref D)], scope.names.lookup y.1 = some .local)
    (h : ∀ D o g L' h₁ tk, (∀ p ∈ news, p.1 < D) → (D == sysModules) = false → o.IsDictOf (PySem.strKind prog w) ex → Fr h₀ L g m → Fr g L' h₁ (fun y => (front ++ [(nm, Value.ref D)]).reverse.lookup y) → News g L' h₁ ((D, o) :: news) → Below A base (env :: outer) g → K.In g → Top p loose mean mg mb g →
      wpAny (model prog w) (A.deeper (envOf qual scope L' f cdv)) (execs body (envOf qual scope L' f cdv))
        (fun fl s' => LeaveK h₀ L m g R (match fl with | .ret v => v | _ => .none) s')
        (fun e s' => wpAny (model prog w) (A.deeper (envOf qual scope L' f cdv)) (leaving (envOf qual scope L' f cdv) e) (fun _ s'' => R (.error e) s'') (fun e' s'' => R (.error e') s'') s')
        { s with heap := h₁, toks := tk })
    (hco : scope.isCoroutine = false) (hgen : scope.isGenerator = false) (hk : scope.kind = .function)
    (hcell : ∀ x ∈ scope.names, x.2 ≠ .cell) : codeAny (model prog w) A (.call (.ref f) args) R s := by
  have hn' := kwDistinct_nodup hn
  refine codeAny_call_function (fd := fnOf name qual params body scope dV kV doc pm an cdv ct) (body := body) hroom ((X₀.keeps F.keep) _ _ ho) rfl hco hgen rfl (codeRec_of (X₀.keeps F.keep) hcd) ?_
  refine wp_of_peekA (o := dictOf [] 0) F N (X₀.keeps F.keep) rfl _ g₁ hp fun h' F' N' l => ?_
  rw [hk₁]
  refine wpAny_bind (kp_fill ex { s with heap := h' } [] 0 F' N' (fun p hp => Nat.ne_of_lt (l p hp)) (fun _ he => nomatch he) (fun _ he => nomatch he) hn' fun h'' F'' N'' => wpAny_pure ?_)
  exact kp_frame (cl := []) (s := { s with heap := h'', toks := s.toks + ex.length }) B F'' N'' T.nolimit hA hf hke (hloc _)
    (fun g L' h₁ FG FL NG BG st => h _ _ g L' h₁ _ l (F.notModules (modules_low T.nolimit)) (kp_isDict s.toks (0 + ex.length) hn') FG FL NG BG (X₀.keeps st) (T.keeps st)) hcell hk
end
end
section -- L0
section
open PySem.Calls PyProof.V PySem.Spec
theorem callers_flat {kvs : List (Str × Value)} {c : List (Str × Int)} (h : CallersAre kvs c) : FlatPairs PyData.str kvs (c.map fun p => (PyData.str p.1, PyData.int p.2)) := by
  induction h with
  | nil => exact .nil
  | cons k n t r ih => exact .cons (fun hh => .int n t) ih
theorem StepTo.intro {h₀ : Heap} {L I : Addr} {oI : Obj} {s : Shared} {keep news : Led} {J : Nat → (Str → Option Value) → Led → Prop} {i tk : Nat} {h' : Heap} {m : Str → Option Value}
    (F : Fr h₀ L h' m) (N : News h₀ L h' (((I, oI) :: keep) ++ news)) (hI : ∀ p ∈ news, p.1 ≠ I) (hJ : J (i + 1) m news) : StepTo h₀ L s ((I, oI) :: keep) J i .next { s with heap := h', toks := tk } :=
  ⟨rfl, h', tk, m, news, rfl, F, N, fun p hp q hq => by simp at hq; subst hq; exact hI p hp, hJ⟩
variable {prog : Program} {w : World} {A : Around} {E : Value → Shared → Prop} {s : Shared} {env : Env} {h₀ : Heap} {body : List Stmt} {Q : Flow → Shared → Prop}
theorem u25 : Up 25 := by
  refine u24.step rfl ?_
  k_extra "st"
  iterate 22 k_extra "g"
  intro news m kvs od d kk pos pv pk pt vn kn iter Q body h₀ env s E A w prog hh F N hmem hd hit hk hv hp hE hs J h0 step fin
  refine For_turns F ?_ hs hE
  refine hit _ fun h' vw hvw F' N' => ?_
  have hdo := kda_dict (s := { s with heap := h' }) N' hmem hd
  obtain ⟨ep, hat⟩ := hdo.dictAt
  refine wpAny_pyIter_items hvw hat ?_
  have N1 := N'
  have hne : d ≠ h'.objs.size := Nat.ne_of_lt (Heap.lt_size (N1 _ hmem).1)
  refine ⟨h'.objs.size, [h'.objs.size, d], [h'.objs.size], kvs.length, _, _, _, m, news, J, rfl, kti_itemsTurns (knd := PySem.strKind prog w) hh h'.objs.size d hne kvs ep, ?_, ?_, ?_, ?_, F'.push _, fun p hp => ⟨Heap.get?_push_of_some _ (N1 p hp).1, (N1 p hp).2⟩, h0, ?_, ?_⟩
  · intro hI
    have hb' : env.locals = h'.objs.size ∨ env.locals = d := by simpa using hI
    rcases hb' with e | e
    · exact absurd F'.ns.lt (e ▸ Nat.lt_irrefl _)
    · exact (N1 _ hmem).2.1 e.symm
  · intro b hb
    rw [List.mem_singleton.mp hb]
    exact next_is_new F'
  · intro p hp hI
    exact absurd (Heap.lt_size (N1 p hp).1) ((List.mem_singleton.mp hI) ▸ Nat.lt_irrefl _)
  · exact ⟨⟨_, _, Heap.get?_push_size _ rfl⟩, hat.push _⟩
  · intro i v m₁ news₁ h₁ tk₁ own hi hP hJ hnw own1 own2 own3 hst F₁ N₁
    obtain ⟨T, key, k, x, rfl, hx, hkey, hT⟩ := hP
    obtain ⟨t, rfl⟩ := strKey hkey
    refine assign_Tuple_tuple hh hT rfl rfl (fun h₂ he => ?_)
    refine assignInOrder_cons (assign_Name (wpAny_storeName_local hk (F₁.keeps fun b o e => he b o (Nat.ne_of_lt (Heap.lt_size e)) e).ns (fun h₃ hn₃ hs₃ => ?_) hp))
    refine assignInOrder_cons (assign_Name (wpAny_storeName_local hv hn₃ (fun h₄ hn₄ hs₄ => ?_) hp))
    refine assignInOrder_nil ?_
    obtain ⟨⟨ok, ov', hI1⟩, hD1⟩ := hst
    obtain ⟨oI, hI⟩ : ∃ oI, h₁.get? h'.objs.size = some oI := ⟨_, hI1⟩
    obtain ⟨od', _, hD, _⟩ := id hD1
    have pI := own3 h'.objs.size List.mem_cons_self (next_is_new F') oI hI
    have pD := own3 d (List.mem_cons_of_mem _ List.mem_cons_self) (N1 _ hmem).2.2 od' hD
    have hsz : ∀ b o, h₁.get? b = some o → h₂.get? b = some o := fun b o e => he b o (Nat.ne_of_lt (Heap.lt_size e)) e
    have up : ∀ b o, b ≠ env.locals → h₁.get? b = some o → h₄.get? b = some o := fun b o hb e => hs₄.extBut b o hb (hs₃.extBut b o hb (hsz b o e))
    have N₄ : ∀ l : Led, News h₀ env.locals h₁ l → News h₀ env.locals h₄ l := fun l Nl q hq => ⟨up _ _ (Nl q hq).2.1 (Nl q hq).1, (Nl q hq).2⟩
    have F₄ : Fr h₀ env.locals h₄ (fun y => if y = vn then some x else if y = kn then some (.str k t) else m₁ y) :=
      ⟨hn₄, fun b o e => up b o (fun q => by rw [q, Heap.get?_none_of_le F₁.above] at e; cases e) (F₁.keep b o e), F₁.above⟩
    have own4 : ∀ q ∈ own, q = (h'.objs.size, oI) ∨ q = (d, od') := fun q hq => by
      have hb : q.1 = h'.objs.size ∨ q.1 = d := by simpa using own1 q hq
      obtain ⟨q1, q2⟩ := q
      rcases hb with rfl | rfl
      · have := own2 _ hq; rw [hI] at this; injection this with e; exact .inl (by rw [e])
      · have := own2 _ hq; rw [hD] at this; injection this with e; exact .inr (by rw [e])
    refine wpAny_mono (step i k x t m₁ news₁ h₄ _ h'.objs.size oI od' hx hJ (fun p hp => by simpa using hnw p hp) (Ne.symm hne) F₄ (N₄ _ fun q hq => ?_)) (fun f s₃ h₃ => ?_) fun _ _ e => e
    · rcases List.mem_cons.mp hq with rfl | hq
      · exact N₁ _ (List.mem_append_left _ pI)
      · rcases List.mem_cons.mp hq with rfl | hq
        · exact N₁ _ (List.mem_append_left _ pD)
        · exact N₁ _ (List.mem_append_right _ hq)
    · obtain ⟨rfl, h5, tk5, m5, news5, rfl, F5, N5, a5, J5⟩ := h₃
      replace a5 : ∀ p ∈ news5, p.1 ≠ h'.objs.size := fun p hp => a5 p hp (h'.objs.size, oI) rfl
      refine LoopStepV.next (LoopStepU.intro F5 (fun q hq => ?_) (fun p hp => by simpa using a5 p hp) J5)
      rcases List.mem_append.mp hq with hq | hq
      · rcases own4 q hq with rfl | rfl
        · exact N5 _ List.mem_cons_self
        · exact N5 _ (List.mem_cons_of_mem _ List.mem_cons_self)
      · exact N5 _ (List.mem_cons_of_mem _ (List.mem_cons_of_mem _ hq))
  · intro h₂ tk m' news' F₂ N₂ _ hJ
    exact fin h₂ tk m' news' F₂ N₂ hJ
theorem For_items_J : ∀ {prog w A E s env h₀ body Q a b c e f g h i d od kvs m news}, @T25 prog w A E s env h₀ body Q a b c e f g h i d od kvs m news := no_implicit_lambda% (u25.get rfl)
end
theorem di_getItem {K : Type} [DecidableEq K] {knd : KeyKind prog w K} {L d : Addr} {o : Obj} {kvs : List (K × Value)} {k : K} {key v : Value} {news : Led} {Q : Value → Shared → Prop} (N : News h₀ L s.heap news) (hp : (d, o) ∈ news) (hd : o.IsDictOf knd kvs) (hkey : knd.is k key = true) (hl : valueAt kvs k = some v) (h : Q v { s with toks := s.toks + 1 }) :
    wpAny (model prog w) A (getItem (.ref d) key) Q E s := wpAny_getItem_of hkey (kda_dict N hp hd).mapOf hl h
theorem callers_keys {kvs : List (Str × Value)} {c : List (Str × Int)} (h : CallersAre kvs c) : kvs.map (·.1) = c.map (·.1) := by
  induction h with
  | nil => rfl
  | cons k n t r ih => simp [ih]
theorem callers_in {kvs : List (Str × Value)} {c : List (Str × Int)} (h : CallersAre kvs c) (k : Str) : (valueAt kvs k).isSome = c.any (fun p => p.1 == k) := by
  induction h with
  | nil => rfl
  | cons k' n t r ih =>
    unfold valueAt at ih ⊢
    by_cases e : k' = k
    · simp [e]
    · simp [e] at ih ⊢
      rw [ih]; simp [beq_false_of_ne e]
theorem callers_any {kvs : List (Str × Value)} {c : List (Str × Int)} (h : CallersAre kvs c) (k : Str) : kvs.any (fun p => decide (p.1 = k)) = c.any (fun p => p.1 == k) := by
  induction h with
  | nil => rfl
  | cons k' n t r ih => rw [List.any_cons, List.any_cons, ih]; congr 1
theorem stored_take {kvs : List (Str × Value)} (hn : (kvs.map (·.1)).Nodup) {i : Nat} {k : Str} {v : Value} (h : kvs[i]? = some (k, v)) : stored (kvs.take i) k v = kvs.take (i + 1) := by
  have hi : i < kvs.length := (List.getElem?_eq_some_iff.mp h).1
  have he : kvs[i] = (k, v) := (List.getElem?_eq_some_iff.mp h).2
  have ha : (kvs.take i).any (fun kv => decide (kv.1 = k)) = false := by
    rw [Bool.eq_false_iff]
    intro hh
    obtain ⟨x, hx, hk⟩ := List.any_eq_true.mp hh
    have hk : x.1 = k := by simpa using hk
    obtain ⟨j, hj, ej⟩ := List.getElem_of_mem hx
    rw [List.getElem_take] at ej
    have hj' : j < i := by rw [List.length_take] at hj; omega
    have h2 := List.pairwise_iff_getElem.mp hn j i (by rw [List.length_map]; omega) (by rw [List.length_map]; exact hi) hj'
    exact h2 (by simp [ej, he, hk])
  unfold stored
  rw [if_neg (by rw [ha]; decide), List.take_add_one, h]
  rfl
theorem stored_bump {kvs : List (Str × Value)} {c : List (Str × Int)} (h : CallersAre kvs c) (hn : (c.map (·.1)).Nodup) (k : Str) (n : Int) (t : Tok)
    (hv : (c.any (fun p => p.1 == k) = false → n = 1) ∧ (∀ n₀, (k, n₀) ∈ c → n = n₀ + 1)) : CallersAre (stored kvs k (.int n t)) (bump c k) := by
  unfold stored bump
  rw [callers_any h k]
  by_cases ha : c.any (fun p => p.1 == k) = true
  · rw [if_pos ha, if_pos ha]
    have h2 := hv.2
    clear hv ha hn
    induction h with
    | nil => exact .nil
    | @cons k' n' t' kvs' c' r ih =>
      rw [List.map_cons, List.map_cons]
      by_cases e : k' = k
      · subst e
        simp only [if_true]
        have := h2 n' List.mem_cons_self
        subst this
        exact .cons _ _ _ (ih fun n₀ hm => h2 n₀ (List.mem_cons_of_mem _ hm))
      · simp only [if_neg e]
        exact .cons _ _ _ (ih fun n₀ hm => h2 n₀ (List.mem_cons_of_mem _ hm))
  · rw [if_neg ha, if_neg ha]
    have : n = 1 := hv.1 (Bool.eq_false_iff.mpr ha)
    subst this
    clear hv ha hn
    induction h with
    | nil => exact .cons _ _ _ .nil
    | cons k' n' t' r ih => exact .cons _ _ _ ih
end
section -- G2
theorem kw_G2 : True := by
  k_with "o12" => skip
  k_with "setItem ref str" => ((fail_if_success k_extra "o18"); (((k_here; k_dflt (refine' kda_set (knd := PySem.strKind _ _) ?Fqp ?Nqp ?Uqp ?dqp (strKind_is _ _ _ _) ?zqp ?_; (case Fqp | Nqp => k_asm); (case Uqp => k_updF); (case dqp | zqp => with_reducible assumption)); intro _ _ _ N'z9 hdz9; (try dsimp only at N'z9)); (try (revert N'z9 hdz9; intro _ _)))))
  k_with "compareOp In str ref" => ((fail_if_success k_extra "o18"); ((k_here; k_dflt (refine' kda_in (knd := PySem.strKind _ _) ?Nqq ?pqq ?dqq ?loqq (strKind_is _ _ _ _) _ ?bqq ?_; (case Nqq => k_asm); (case pqq => k_mem); (case dqq | loqq | bqq => with_reducible assumption)))))
  k_with "getItem ref str" => ((fail_if_success k_extra "o18"); ((k_here; k_dflt (refine' di_getItem (knd := PySem.strKind _ _) ?Nqr ?pqr ?dqr (strKind_is _ _ _ _) ?lqr ?_; (case Nqr => k_asm); (case pqr => k_mem); (case dqr | lqr => with_reducible assumption)))))
  trivial
section
variable {Q : Value → Shared → Prop} {cn : Str} {cs : Scope} {a : Addr} {ccd : Value} {cl : List (Str × Addr)}

open PySem.Calls PyProof.V
set_option maxRecDepth 100000 in
theorem u26 : Up 26 := by
  refine u25.step rfl ?_
  k_extra "st"
  iterate 30 k_extra "g"
  intro tk0 k cc ckv ocl oc acl ac
  k_extra "i1"
  intro B F X N T hk m3 hc lc hcc zc nc m4 hcl lcl hdp hun ret
  refine wpAny_call ?_
  k_with "zon" => (fail_if_success k_extra "zf1")
  k_dflt k_enter
  k_with "zf1" => skip
  k_steps
  rename_i dn h1 o0 lo0 hs0 fs0 hi0 fi0 l10 h2 F2 N2
  refine For_items_J (od := oc) (d := ac) (kvs := ckv) (by rfl) (by k_asm) (by k_asm) (by k_mem) hc (fun Q' h => ?hit) (by rfl) (by rfl) (by rfl) (by passes_own) (by intro _; rfl) (J1 dn ckv news w acl) ?h0 (fun i k v t m₁ news₁ h₁ tk₁ I oI od' hx hJ o1 o2 F₁ N₁ => ?_) (fun h' tk m' news' F₁ N₁ hJ => ?_)
  case hit =>
    with_unfolding_all ((refine MethodCall_ ?_); (refine ld F2 (by rfl) ?_); (refine kdl_method (knd := PySem.strKind _ _) PySem.F.slot_dict_items PySem.F.type_dict_items N2 (by k_mem) hc ?_); (refine callWith_method0 ?_); (refine kta_callItems (knd := PySem.strKind _ _) F2 N2 (by k_mem) hc lc ?_))
    intro h' hv F' N'
    exact h _ _ hv F' N'
  case h0 => exact ⟨_, rfl, hs0, rfl, rfl⟩
  · obtain ⟨o1', rfl, hd1, e1, e2⟩ := hJ
    have q1 : I ≠ dn := Ne.symm (o1 _ List.mem_cons_self)
    have q2 : ac ≠ dn := ne_of_allLt l10 _ m3
    have q3 : ∀ q ∈ news, q.1 ≠ dn := ne_of_allLt l10
    have q4 : (ckv.take i).length ≤ sizeLine := by
      have := callers_len hcc
      rw [sizeLine_eq, List.length_take]; omega
    k_steps
    rename_i h3 o3 F3 N3 hd3
    exact StepTo.intro (news := (dn, o3) :: news) F3 N3 (fun p hp => (List.mem_cons.mp hp).elim (fun e => by rw [e]; exact Ne.symm q1) (fun e => o1 p (List.mem_cons_of_mem _ e))) ⟨o3, rfl, by rw [← stored_take (by rw [callers_keys hcc]; exact nc) hx]; exact hd3, (if_neg (by decide)).trans ((if_neg (by decide)).trans e1), (if_neg (by decide)).trans ((if_neg (by decide)).trans e2)⟩
  · obtain ⟨o1', rfl, hd1, e1, e2⟩ := hJ
    rw [List.take_length] at hd1
    show wpAny _ _ (execs _ _) _ _ _
    k_steps
    refine For_items_J (od := ocl) (d := acl) (kvs := [(k, .int 1 tk0)]) (by rfl) F₁ N₁ (List.mem_cons_of_mem _ m4) hcl (fun Q' h => ?hit2) (by rfl) (by rfl) (by rfl) (by passes_own) (by intro _; rfl) (J2 dn ckv cc k news w) ?h2 (fun i k2 v t m₁ news₁ h₁ tk₁ I oI od' hx hJ o1 o2 F₃ N₃ => ?_) (fun h' tk m' news' F₃ N₃ hJ => ?_)
    case hit2 =>
      with_unfolding_all ((refine MethodCall_ ?_); (refine ld F₁ e2 ?_); (refine kdl_method (knd := PySem.strKind _ _) PySem.F.slot_dict_items PySem.F.type_dict_items N₁ (List.mem_cons_of_mem _ m4) hcl ?_); (refine callWith_method0 ?_); (refine kta_callItems (knd := PySem.strKind _ _) F₁ N₁ (List.mem_cons_of_mem _ m4) hcl lcl ?_))
      intro h' hv F' N'
      exact h _ _ hv F' N'
    case h2 => exact ⟨_, _, rfl, hd1, e1, fun _ => rfl, fun h => by cases h⟩
    · obtain ⟨rfl, e3⟩ : i = 0 ∧ (k, Value.int 1 tk0) = (k2, v) := by
        rcases i with _ | i
        · exact ⟨rfl, by simpa using hx⟩
        · simp at hx
      injection e3 with e4 e5
      subst e4 e5
      obtain ⟨o4, kv4, rfl, hd4, e6, e7, _⟩ := hJ
      obtain rfl := e7 rfl
      have q1 : I ≠ dn := Ne.symm (o1 _ List.mem_cons_self)
      have q2 : acl ≠ dn := ne_of_allLt l10 _ m4
      have q3 : ∀ q ∈ news, q.1 ≠ dn := ne_of_allLt l10
      have q4 : kv4.length ≤ sizeLine := by
        have := callers_len hcc
        rw [sizeLine_eq]; omega
      by_cases hb : cc.any (fun p => p.1 == k) = true
      · have q5 : (valueAt kv4 k).isSome = true := (callers_in hcc k).trans hb
        obtain ⟨⟨k5, n5⟩, hm5, hk5⟩ := List.any_eq_true.mp hb
        obtain rfl : k5 = k := by simpa using hk5
        obtain ⟨t5, hv5⟩ := callers_at hcc nc _ _ hm5
        k_steps
        rename_i h5 o5 F5 N5 hd5
        refine StepTo.intro (news := (dn, o5) :: news) F5 N5 (fun p hp => (List.mem_cons.mp hp).elim (fun e => by rw [e]; exact Ne.symm q1) (fun e => o1 p (List.mem_cons_of_mem _ e))) ⟨o5, _, rfl, hd5, (if_neg (by decide)).trans ((if_neg (by decide)).trans e6), (fun h => by cases h), fun _ => stored_bump hcc nc _ _ _ ⟨fun h => absurd (hb.symm.trans h) (by decide), fun n₀ hm => ?_⟩⟩
        obtain ⟨t6, hv6⟩ := callers_at hcc nc _ _ hm
        rw [hv5] at hv6
        injection hv6 with hv6
        injection hv6 with hv6
        rw [hv6]
      · have q5 : (valueAt kv4 k).isSome = false := (callers_in hcc k).trans (Bool.eq_false_iff.mpr hb)
        k_steps
        rename_i h5 o5 F5 N5 hd5
        exact StepTo.intro (news := (dn, o5) :: news) F5 N5 (fun p hp => (List.mem_cons.mp hp).elim (fun e => by rw [e]; exact Ne.symm q1) (fun e => o1 p (List.mem_cons_of_mem _ e))) ⟨o5, _, rfl, hd5, (if_neg (by decide)).trans ((if_neg (by decide)).trans e6), (fun h => by cases h), fun _ => stored_bump hcc nc _ _ _ ⟨fun _ => rfl, fun n₀ hm => absurd (List.any_eq_true.mpr ⟨_, hm, by simp⟩) hb⟩⟩
    · obtain ⟨o4, kv4, rfl, hd4, e6, _, hca⟩ := hJ
      show wpAny _ _ (execs _ _) _ _ _
      k_steps
      exact ret _ _ _ _ _ (by k_asm) (news_sub (by k_asm) (by kcj_all)) hd4 (hca rfl) lo0 l10

theorem ac_ok : ∀ {w b c d e f g L outer h base h₀ m s E news Q cn i a ccd cl ac acl j l ckv cc k n}, @T26 w b c d e f g L outer h base h₀ m s E news Q cn i a ccd cl ac acl j l ckv cc k n := no_implicit_lambda% (u26.get rfl)
end
end
section -- G1
theorem kw_G1 : True := by
  k_with "o18" => skip
  k_with "call ref" => ((fail_if_success k_extra "o19"); (((k_here; (with_reducible show wpAny _ _ (call (Value.ref 110) _ _) _ _ _); k_dflt (refine' ac_ok ?Bqs ?Fqs ?Xqs ?Nqs ?Tqs ?hkqs ?m3qs ?hcqs ?lcqs ?hccqs ?zcqs ?ncqs ?m4qs ?hclqs ?lclqs ?hdpqs ?hunqs ?_; (case Bqs | Fqs => k_asm); (case Xqs | Nqs | Tqs => k_asm); (case hkqs => first | exact rfl | assumption); (case m3qs => k_mem); (case hcqs | lcqs => assumption); (case hccqs | zcqs | ncqs => assumption); (case m4qs => k_mem); (case hclqs | lclqs => assumption); (case hdpqs => ktr_room); (case hunqs => ktr_units); intro _ _ _ _ _ _ _ _ _ _ l1; (try k_lt l1); (try dsimp only))); (try (revert l1; intro _)))))
  trivial
section
variable {Q : Value → Shared → Prop} {cn : Str} {cs : Scope} {a : Addr} {ccd : Value} {cl : List (Str × Addr)}

set_option maxRecDepth 100000 in
theorem u27 : Up 27 := by
  refine u26.step rfl ?_
  k_extra "st"
  iterate 48 k_extra "g"
  intro tk k cc ckv ns ne ty2 ty1 tk2 tk1 tx2 tx1 tc2 tc1 y2 y1 x2 x1 c2 c1 ocl oc asr acl ac ae
  k_extra "i1"
  intro B F X N T hk m2 m5 m3 hc lc hcc zc nc m4 hcl lcl hdp hun ret
  refine wpAny_call ?_
  k_with "zon" => (fail_if_success k_extra "zf2")
  k_dflt k_enter
  k_with "zf2" => skip
  k_steps
  exact ret _ _ _ _ _ _ _ _ _ _ (by k_asm) (news_sub (by k_asm) (by kcj_all)) (by assumption) (by assumption) (by assumption) (by assumption) (by assumption)

theorem afs_ok : ∀ {w b c d e f g L outer h base h₀ m s E news Q cn i a ccd cl ae ac acl j l n o p q r t u v x y z a' b' c' d' e' ns ckv cc k f'}, @T27 w b c d e f g L outer h base h₀ m s E news Q cn i a ccd cl ae ac acl j l n o p q r t u v x y z a' b' c' d' e' ns ckv cc k f' := no_implicit_lambda% (u27.get rfl)
end
end
section -- B0
theorem kw_B0 : True := by
  k_with "o19" => skip
  trivial
section

set_option maxRecDepth 100000 in
set_option maxHeartbeats 1000000 in
theorem u28 : Up 28 := by
  refine u27.step rfl ?_
  k_extra "st"
  iterate 32 k_extra "g"
  intro rest gv na t0 tp1 tp0 p1 p0 v0 ocd ocw ow aas ab ad aat aw b Q E s m h₀ outer L gd un dp mb mg mean w F X N T v1 hr hcd mw hcw mwalk hw mat ret
  refine cut_exec (l' := Stmt.Assign [_] _ _) (env' := envOfC (Str.ofString "_law_hop") ⟨_, _, _, _, _⟩ L 233 (.ref 232)) rfl rfl ?_
  cases b <;> (
    simp only [cond] at *
    k_steps
    exact ret _ _ _ (by k_asm) (news_sub (by k_asm) (by intro p hp; exact List.mem_cons_of_mem _ hp)) (by assumption))

theorem hop0 : ∀ {w a c d e f g L outer h₀ m s E Q b aw aat ad ab aas ow h i v0 p0 p1 j k l na n rest}, @T28 w a c d e f g L outer h₀ m s E Q b aw aat ad ab aas ow h i v0 p0 p1 j k l na n rest := no_implicit_lambda% (u28.get rfl)
end
end
section -- B2
section

set_option maxRecDepth 100000 in
set_option maxHeartbeats 1000000 in
theorem u29 : Up 29 := by
  refine u28.step rfl ?_
  k_extra "st"
  iterate 24 k_extra "g"
  intro bkv t0 tp p ocw ob ae ab b Q news E s m h₀ outer L gd un dp mb mg mean w F X N T v1 v2 mb' hb hbp mw hcw ret
  refine cut_exec (l' := Stmt.Assign [_] _ _) (env' := envOfC (Str.ofString "_law_hop") ⟨_, _, _, _, _⟩ L 233 (.ref 232)) rfl rfl ?_
  cases b <;> (
    simp only [cond] at *
    k_steps
    first
      | exact ret _ _ _ _ _ (by k_asm) (news_sub (by k_asm) (by intro p hp; exact List.mem_cons_of_mem _ hp)) (dict_letter (b := false) (by assumption) (by decide +kernel)) (by assumption) (by first | assumption | exact allLt_of' (by assumption))
      | exact ret _ _ _ _ _ (by k_asm) (news_sub (by k_asm) (by intro p hp; exact List.mem_cons_of_mem _ hp)) (dict_letter (b := true) (by assumption) (by decide +kernel)) (by assumption) (by first | assumption | exact allLt_of' (by assumption)))

theorem hop2 : ∀ {w a c d e f g L outer h₀ m s E news Q b ab ae h i p j k bkv}, @T29 w a c d e f g L outer h₀ m s E news Q b ab ae h i p j k bkv := no_implicit_lambda% (u29.get rfl)
end
end
section -- B3
section

set_option maxRecDepth 100000 in
set_option maxHeartbeats 1000000 in
theorem hop3 {ae ac acl : Addr} {oc ocl : Obj} {c1 c2 x1 x2 : Int} {tc1 tc2 tx1 tx2 : Tok} {ne : Nat} {ckv clkv : List (Str × Value)}
    (B : Below A₀ base outer h₀) (F : Fr h₀ L s.heap m) (X : (h0.heap_1 w.params).In h₀) (N : News h₀ L s.heap news) (T : TopX mean mg mb h₀) (hdp : dp + 20 < recursionLimit) (hun : un + 200 < cLine)
    (v1 : m (Str.ofString "old") = some (.ref ae)) (v2 : m (Str.ofString "calls") = some (.ref acl))
    (m2 : (ae, ({ cls := .type "tuple", data := .seq #[.int c1 tc1, .int c2 tc2, .int x1 tx1, .int x2 tx2, .ref ac] ne} : Obj)) ∈ news)
    (m3 : (ac, oc) ∈ news) (hc : oc.IsDictOf (strKind PG w) ckv) (lc : (ac == sysModules) = false) (zc : ckv.length < 100)
    (m4 : (acl, ocl) ∈ news) (hcl : ocl.IsDictOf (strKind PG w) clkv) (lcl : (acl == sysModules) = false) (zcl : clkv.length < 100)
    (ret : ∀ h' tk' ak k1 k2 o1 o2, Fr h₀ L h' (fun y => if y = Str.ofString "kept" then some (.ref ak) else m y) → News h₀ L h' ((ak, W.listOf #[.ref k1, .ref k2] 0) :: (k2, o2) :: (k1, o1) :: news) → o1.IsDictOf (strKind PG w) ckv → o2.IsDictOf (strKind PG w) clkv →
      (k1 == sysModules) = false → (k2 == sysModules) = false → AllLt k1 news → k1 < k2 → k2 < ak → Q .next { s with heap := h', toks := tk' }) :
    wpAny (model PG w) (arH dp un gd L outer) (exec (hopB.getD 3 default) (envH L)) Q E s := by
  refine cut_exec (l' := Stmt.Assign [_] _ _) (env' := envOfC (Str.ofString "_law_hop") ⟨_, _, _, _, _⟩ L 233 (.ref 232)) rfl rfl ?_
  k_steps
  exact ret _ _ _ _ _ _ _ (by k_asm) (by k_asm) (by assumption) (by assumption) (by assumption) (by assumption) (by first | assumption | exact allLt_of' (by assumption)) (by assumption) (by assumption)

end
end
section -- B5
section

set_option maxRecDepth 100000 in
set_option maxHeartbeats 1000000 in
theorem hop5 {ad : Addr} {ocd : Obj} {d0 d1 marks : Int} {td0 td1 tm : Tok} {nd : Nat}
    (F : Fr h₀ L s.heap m) (X : (h0.heap_1 w.params).In h₀) (N : News h₀ L s.heap news) (T : TopX mean mg mb h₀)
    (v1 : m (Str.ofString "marks") = some (.int marks tm))
    (mc : (L + 1 + 1, ocd) ∈ news) (hcd : ocd.data = .cell (some (.ref ad))) (md : (ad, W.listOf #[.int d0 td0, .int d1 td1] nd) ∈ news)
    (b0 : 0 ≤ d0 ∧ d0 < 100) (b1 : 0 ≤ d1 ∧ d1 < 100)
    (ret : ∀ h' tk' t, Fr h₀ L h' (fun y => if y = Str.ofString "turn" then some (.int (d0 + d1 + marks) t) else m y) → News h₀ L h' news → Q .next { s with heap := h', toks := tk' }) :
    wpAny (model PG w) (arH dp un gd L outer) (exec (hopB.getD 5 default) (envH L)) Q E s := by
  refine cut_exec (l' := Stmt.Assign [_] _ _) (env' := envOfC (Str.ofString "_law_hop") ⟨_, _, _, _, _⟩ L 233 (.ref 232)) rfl rfl ?_
  k_steps
  exact ret _ _ _ (by k_asm) (by k_asm)

end
end
section -- B8
theorem kw_B8 : True := by
  k_with "compareOp NotEq ref ref" => ((fail_if_success k_extra "o24"); ((k_here; k_dflt (refine' ne_kept ?Nqt ?hmqt ?hkqt ?m1qt ?d1qt ?m2qt ?d2qt ?m3qt ?d3qt ?m4qt ?d4qt ?h1qt ?h2qt ?n1qt ?n2qt ?e1qt ?e2qt ?l1qt ?l2qt ?l3qt ?l4qt ?huqt ?hu'qt ?_; (case Nqt => k_asm); (case hmqt | hkqt | m1qt => k_mem); (case d1qt => assumption); (case m2qt => k_mem); (case d2qt => assumption); (case m3qt => k_mem); (case d3qt => assumption); (case m4qt => k_mem); (case d4qt | h1qt => assumption); (case h2qt | n1qt => assumption); (case n2qt | e1qt => assumption); (case e2qt | l1qt => assumption); (case l2qt | l3qt | l4qt => assumption); (case huqt => ktr_units); (case hu'qt => ktr_units)))))
  trivial
section

set_option maxRecDepth 100000 in
set_option maxHeartbeats 2000000 in
theorem u30 : Up 30 := by
  refine u29.step rfl ?_
  k_extra "st"
  iterate 46 k_extra "g"
  intro lc cc lkv ckv f4 f3 f2 f1 nk ne nt q tx2 tx1 t2 t1 x o2 o1 ocl oc atd k2 k1 ak acl ac ae b
  k_extra "i0"
  intro B F X N T hdp hun v1 v2 v3 v4 v5 v6 mtd m2 m3 hc hcc m4 hcl hlc mk mk1 hk1 mk2 hk2 n1 n2 e1 e2 l1 l2 l3 l4 ret
  refine cut_exec (l' := Stmt.If _ _ _ _) (env' := envOfC (Str.ofString "_law_hop") ⟨_, _, _, _, _⟩ L 233 (.ref 232)) rfl rfl ?_
  k_steps
  all_goals first
    | exact absurd (by assumption : (x != x) = true) (by simp)
    | exact ret _ _ (by k_asm) (news_sub (by k_asm) (by kcj_all))
    | fail

theorem hop8 : ∀ {w a c d e f g L outer h base h₀ m s E news Q b ae ac acl ak k1 k2 atd i j k o2 x l n o p q r t u v y z a' ckv b' cc lc}, @T30 w a c d e f g L outer h base h₀ m s E news Q b ae ac acl ak k1 k2 atd i j k o2 x l n o p q r t u v y z a' ckv b' cc lc := no_implicit_lambda% (u30.get rfl)
end
end
section -- B10
theorem kw_B10 : True := by
  k_with "o24" => skip
  trivial
section

set_option maxRecDepth 100000 in
set_option maxHeartbeats 1000000 in
theorem hop10 {b : Bool} {aw aat ad ab aas atd : Addr} {ow ocw : Obj} {p0 p1 nx : Int} {tp0 tp1 t0 tx : Tok} {na nq : Nat} {gv : Value} {rest : Led}
    (F : Fr h₀ L s.heap m) (X : (h0.heap_1 w.params).In h₀) (N : News h₀ L s.heap ((aat, W.listOf #[.int p0 tp0, .int p1 tp1] na) :: rest)) (T : TopX mean mg mb h₀)
    (v1 : m (Str.ofString "walk") = some (.ref aw)) (v2 : m (Str.ofString "told") = some (.ref atd)) (hr : ∀ q ∈ rest, q.1 ≠ aat)
    (mw : (L + 1, ocw) ∈ rest) (hcw : ocw.data = .cell (some (.int (cond b 1 0) t0)))
    (mwalk : (aw, ow) ∈ rest) (hw : ow.IsDictOf (strKind PG w) [(Str.ofString "at", .ref aat), (Str.ofString "dots", .ref ad), (Str.ofString "book", .ref ab), (Str.ofString "asked", .ref aas), (Str.ofString "good", gv)])
    (mtd : (atd, ({ cls := .type "tuple", data := .seq #[.int nx tx, .int nx tx] nq} : Obj)) ∈ rest)
    (ret : ∀ h' tk' na', Fr h₀ L h' m → News h₀ L h' ((aat, W.listOf (cond b #[.int p0 tp0, .int nx tx] #[.int nx tx, .int p1 tp1]) na') :: rest) → Q .next { s with heap := h', toks := tk' }) :
    wpAny (model PG w) (arH dp un gd L outer) (exec (hopB.getD 10 default) (envH L)) Q E s := by
  refine cut_exec (l' := Stmt.Assign [_] _ _) (env' := envOfC (Str.ofString "_law_hop") ⟨_, _, _, _, _⟩ L 233 (.ref 232)) rfl rfl ?_
  cases b <;> (
    simp only [cond] at *
    k_steps
    exact ret _ _ _ (by k_asm) (by k_asm))

end
end
section
theorem kw_l_kw26 : True := by
  k_with "xe3" => ((fail_if_success k_extra "o26"); (refine' enter_kw ?k1qu ?k2qu ?k3qu ?k4qu ?k5qu ?kAqu ?kFqu ?kKqu ?k6qu ?k7qu ?k8qu ?kNqu ?kPqu ?kTqu ?kBqu ?_ ?c2qu ?c3qu ?c4qu ?c5qu; (case kAqu | kFqu => exact rfl); (case kKqu => first | exact rfl | assumption); (case k1qu | k2qu => k_asm); (case k3qu | k4qu | k5qu => k_asm); (case k6qu | k7qu => k_is); (case k8qu => ktr_room); (case kPqu => exact rfl); (case kTqu => exact fun _ => rfl); (case kNqu => exact rfl); (case kBqu => exact fun _ => locs rfl); (case c5qu => decide); (case c2qu | c3qu | c4qu => exact rfl); k_whole))
  k_with "callWith ref" => ((fail_if_success k_extra "o26"); ((k_here; (with_reducible show wpAny _ _ (callWith _ (Value.ref 223) _ _ _) _ _ _); k_dflt (refine' callWith_spread ?Xqv ?hkqv ?Fqv ?Nqv ?hmqv ?hdqv ?laqv ?szqv ?h1qv ?h2qv ?retqv ?heqv; (case Xqv => k_asm); (case hkqv => k_is); (case Fqv | Nqv => k_asm); (case hmqv => k_mem); (case hdqv | laqv => assumption); (case szqv => exact Nat.le_of_ble_eq_true rfl); (case heqv => rfl); (case h1qv => (intro _ _ F'z9 q'z9; refine' nameX_L F'z9 ?vqv q'z9 ?aqv ?bqv; (case aqv | bqv => rfl); (case vqv => ktr_rel))); (case h2qv => (intro _ _ F'z9 q'z9; refine' nameX_L F'z9 ?vqv q'z9 ?aqv ?bqv; (case aqv | bqv => rfl); (case vqv => ktr_rel)))); intro _ F'z9 _)))
  trivial
section -- G0
section
variable {Q : Value → Shared → Prop} {cn : Str} {cs : Scope} {a : Addr} {ccd : Value} {cl : List (Str × Addr)}

set_option maxRecDepth 100000 in
theorem u31 : Up 31 := by
  refine u30.step rfl ?_
  k_extra "st"
  iterate 33 k_extra "g"
  intro rest x avs na nt tns tvs aas ab atab tp p cl ccd a cs cn Q E s m h₀ base A₀ outer L gd un dp mb mg mean w B F X N T hk hr hmt ht hp0 hx hlt hav hdp hun ret
  refine wpAny_call ?_
  k_with "zon" => (fail_if_success k_extra "zf3")
  k_dflt k_enter
  k_with "zf3" => skip
  k_steps
  exact ret _ _ _ _ _ (by k_asm) (news_sub (by k_asm) (by kcj_all)) (by first | assumption | exact allLt_of' (by assumption)) (by assumption)
theorem gni_head : ∀ {w b c d e f g L outer h base h₀ m s E Q cn i a ccd cl p j atab ab aas tvs tns k na avs x rest}, @T31 w b c d e f g L outer h base h₀ m s E Q cn i a ccd cl p j atab ab aas tvs tns k na avs x rest := no_implicit_lambda% (u31.get rfl)
theorem gni_ok {p : Int} {tp : Tok} {atab ab aas : Addr} {tvs : List Value} {tns : List Int} {nt na : Nat} {avs : Array Value} {x : Int} {g : Obj → Led}
    (B : Below A₀ base outer h₀) (F : Fr h₀ L s.heap m) (X : (h0.heap_1 w.params).In h₀) (N : News h₀ L s.heap news) (T : TopX mean mg mb h₀) (hk : cs.kind = .function)
    (U : UpdF aas (W.listOf avs na) news g) (hmt : (atab, W.listOf tvs.toArray nt) ∈ news) (hne : atab ≠ aas) (ht : IntsAre tvs tns) (hp0 : 0 ≤ p ∧ p < 6) (hx : tns[p.toNat]? = some x) (hlt : Int.fmod x 7 < 6) (hav : avs.size < 100)
    (hdp : dp + 10 < recursionLimit) (hun : un + 100 < cLine)
    (ret : ∀ d t na' h' tk', Fr h₀ L h' m → News h₀ L h' ((d, { cls := .type "tuple", data := .seq #[.int (Int.fmod x 7) t, .int (Int.fmod x 7) t] }) :: g (W.listOf (avs.push (.int p tp)) na')) → (∀ p ∈ news, p.1 < d) → Q (.ref d) { s with heap := h', toks := tk' }) :
    wpAny (model PG w) (ktrTop dp un gd cn cs L a ccd cl outer) (call (.ref 61) [.int p tp, .ref 223] [(Str.ofString "table", .ref atab), (Str.ofString "book", .ref ab), (Str.ofString "asked", .ref aas)]) Q E s := by
  obtain ⟨pre, post, e1, e2, o1, o2⟩ := U.split
  subst e1
  have hoff : ∀ q ∈ pre ++ post, q.1 ≠ aas := fun q hq => by
    rcases List.mem_append.mp hq with h | h
    · exact o1 q h
    · exact o2 q h
  have hm' : (atab, W.listOf tvs.toArray nt) ∈ pre ++ post := by
    rcases List.mem_append.mp hmt with h | h
    · exact List.mem_append_left _ h
    · rcases List.mem_cons.mp h with h | h
      · exact absurd (congrArg Prod.fst h) hne
      · exact List.mem_append_right _ h
  refine gni_head (na := na) (rest := pre ++ post) B F X (news_sub N fun q hq => ?_) T hk hoff hm' ht hp0 hx hlt hav hdp hun fun d t na' h' tk' F' N' l1 l2 => ?_
  · rcases List.mem_cons.mp hq with h | h
    · rw [h]; exact List.mem_append_right _ List.mem_cons_self
    · rcases List.mem_append.mp h with h | h
      · exact List.mem_append_left _ h
      · exact List.mem_append_right _ (List.mem_cons_of_mem _ h)
  · refine ret d t na' h' tk' F' (news_sub N' fun q hq => ?_) fun q hq => ?_
    · rcases List.mem_cons.mp hq with h | h
      · rw [h]; exact List.mem_cons_self
      · rw [e2] at h
        rcases List.mem_append.mp h with h | h
        · exact List.mem_cons_of_mem _ (List.mem_cons_of_mem _ (List.mem_append_left _ h))
        · rcases List.mem_cons.mp h with h | h
          · rw [h]; exact List.mem_cons_of_mem _ List.mem_cons_self
          · exact List.mem_cons_of_mem _ (List.mem_cons_of_mem _ (List.mem_append_right _ h))
    · rcases List.mem_append.mp hq with h | h
      · exact allLt_mem l1 q (List.mem_append_left _ h)
      · rcases List.mem_cons.mp h with h | h
        · rw [h]; exact l2
        · exact allLt_mem l1 q (List.mem_append_right _ h)

end
end
end
section -- R4
theorem kw_R4 : True := by
  k_with "o26" => skip
  k_with "setAttr ref" => ((fail_if_success k_extra "o28"); ((k_here; k_dflt (first | (refine' xset0 ?Fqw ?Xqw ?Nqw ?Uqw ?hsqw ?hpqw ?htqw ?hhqw ?_; (case Fqw | Xqw | Nqw => k_asm); (case Uqw => k_updF); (case hsqw => k_is); (case hpqw => first | exact ex195 _ | exact ex176 _ | exact ex207 _); (case htqw | hhqw => k_is); k_whole; intro _ _ _ _ _ N'z9 l1z9; (try dsimp only at N'z9 l1z9); (have l1nz9 := ne_all l1z9); (try k_lt l1z9)) | (refine' xset1 ?Fqw ?Xqw ?Nqw ?hmqw ?hcqw ?hddqw ?hnqw ?Uqw ?hsqw ?hpqw ?htqw ?hhqw ?hlqw ?hzqw ?_; (case Fqw | Xqw | Nqw => k_asm); (case Uqw => k_updF); (case hmqw => k_mem); (case hcqw | hddqw | hnqw => exact rfl); (case hsqw => k_is); (case hpqw => first | exact ex195 _ | exact ex176 _ | exact ex207 _); (case htqw | hhqw => k_is); (case hlqw => exact rfl); (case hzqw => exact Nat.le_of_ble_eq_true rfl); k_whole; intro _ _ _ _ N'z9; (try dsimp only at N'z9)) | (refine' xargs ?Fqw ?Xqw ?Nqw ?Uqw ?hmqw ?h0qw ?hTqw ?hsqw ?hpqw ?htqw ?hbqw ?_; (case Fqw | Xqw | Nqw => k_asm); (case Uqw => k_updF); (case hmqw => k_mem); (case h0qw => exact rfl); (case hTqw => exact News.isTup (by k_asm) (by k_mem)); (case hsqw => k_is); (case hpqw => first | exact ex195 _ | exact ex176 _ | exact ex207 _); (case htqw | hbqw => k_is); k_whole; intro _ _ N'z9; (try dsimp only at N'z9))))))
  trivial
theorem os195 (w : World) : osIn (h0.heap_1 w.params) 195 = true := by kernel_rfl
theorem os176 (w : World) : osIn (h0.heap_1 w.params) 176 = true := by kernel_rfl
theorem os207 (w : World) : osIn (h0.heap_1 w.params) 207 = true := by kernel_rfl
theorem ex195 (w : World) : exOver (h0.heap_1 w.params) 195 = true := by kernel_rfl
theorem ex176 (w : World) : exOver (h0.heap_1 w.params) 176 = true := by kernel_rfl
theorem ex207 (w : World) : exOver (h0.heap_1 w.params) 207 = true := by kernel_rfl

section
variable {Q : Value → Shared → Prop} {cn : Str} {cs : Scope} {a : Addr} {ccd : Value} {cl : List (Str × Addr)}

theorem sub_exc {a b c d : Addr × Obj} {l : Led} : ∀ p ∈ c :: b :: l, p ∈ a :: b :: c :: d :: l := fun p hp => by
  simp only [List.mem_cons] at hp ⊢
  rcases hp with h | h | h <;> simp [h]
set_option maxRecDepth 100000 in
theorem u32 : Up 32 := by
  refine u31.step rfl ?_
  k_extra "st"
  iterate 23 k_extra "g"
  intro b
  k_extra "i1"
  intro B F X N T hk hdp hun ret
  refine wpAny_call (os_make (K := h0.heap_1 w.params) (by k_asm) (by k_asm) (X.keeps F.keep) (os195 _) (by k_is) (by k_is) fun x dx h' F' N' l1 l2 => ?_)
  have q1 : ∀ p ∈ news, p.1 ≠ x := fun p hp => Nat.ne_of_lt (Nat.lt_trans (l1 p hp) l2)
  have q2 : ∀ p ∈ (dx, nilTup) :: news, p.1 ≠ x := fun p hp => (List.mem_cons.mp hp).elim (fun e => by rw [e]; exact Nat.ne_of_lt l2) (q1 p)
  k_dflt k_enter
  k_steps
  exact ret _ _ _ _ _ _ _ (by k_asm) (news_sub (by k_asm) sub_exc) (by rfl) (by rfl) (by assumption) (fun p hp => Nat.lt_trans (l1 p hp) l2)
theorem mk195 : ∀ {w c d e f g h L outer i base h₀ m s E news Q cn j a ccd cl b}, @T32 w c d e f g h L outer i base h₀ m s E news Q cn j a ccd cl b := no_implicit_lambda% (u32.get rfl)
set_option maxRecDepth 100000 in
theorem u33 : Up 33 := by
  refine u32.step rfl ?_
  k_extra "st"
  iterate 27 k_extra "g"
  intro xs tx tc c b
  k_extra "i1"
  intro B F X N T hk hdp hun ret
  refine wpAny_call (os_make (K := h0.heap_1 w.params) (by k_asm) (by k_asm) (X.keeps F.keep) (os176 _) (by k_is) (by k_is) fun x dx h' F' N' l1 l2 => ?_)
  have q1 : ∀ p ∈ news, p.1 ≠ x := fun p hp => Nat.ne_of_lt (Nat.lt_trans (l1 p hp) l2)
  have q2 : ∀ p ∈ (dx, nilTup) :: news, p.1 ≠ x := fun p hp => (List.mem_cons.mp hp).elim (fun e => by rw [e]; exact Nat.ne_of_lt l2) (q1 p)
  k_dflt k_enter
  k_steps
  exact ret _ _ _ _ _ _ _ (by k_asm) (news_sub (by k_asm) sub_exc) (by rfl) (by rfl) (by rfl) (by rfl) (by assumption) (fun p hp => Nat.lt_trans (l1 p hp) l2)
theorem mk176 : ∀ {w d e f g h i L outer j base h₀ m s E news Q cn k a ccd cl b c l n xs}, @T33 w d e f g h i L outer j base h₀ m s E news Q cn k a ccd cl b c l n xs := no_implicit_lambda% (u33.get rfl)
set_option maxRecDepth 100000 in
theorem u34 : Up 34 := by
  refine u33.step rfl ?_
  k_extra "st"
  iterate 26 k_extra "g"
  intro xs tx tc c
  k_extra "i1"
  intro B F X N T hk hdp hun ret
  refine wpAny_call (os_make (K := h0.heap_1 w.params) (by k_asm) (by k_asm) (X.keeps F.keep) (os207 _) (by k_is) (by k_is) fun x dx h' F' N' l1 l2 => ?_)
  have q1 : ∀ p ∈ news, p.1 ≠ x := fun p hp => Nat.ne_of_lt (Nat.lt_trans (l1 p hp) l2)
  have q2 : ∀ p ∈ (dx, nilTup) :: news, p.1 ≠ x := fun p hp => (List.mem_cons.mp hp).elim (fun e => by rw [e]; exact Nat.ne_of_lt l2) (q1 p)
  k_dflt k_enter
  k_steps
  exact ret _ _ _ _ _ _ _ (by k_asm) (news_sub (by k_asm) sub_exc) (by rfl) (by rfl) (by rfl) (by assumption) (fun p hp => Nat.lt_trans (l1 p hp) l2)

theorem mk207 : ∀ {w b d e f g h L outer i base h₀ m s E news Q cn j a ccd cl c k l xs}, @T34 w b d e f g h L outer i base h₀ m s E news Q cn j a ccd cl c k l xs := no_implicit_lambda% (u34.get rfl)
end
end
section -- B1
theorem kw_B1 : True := by
  k_with "o28" => skip
  k_with "call ref" => ((fail_if_success k_extra "o29"); (((k_here; (with_reducible show wpAny _ _ (call (Value.ref 61) _ _) _ _ _); k_dflt (refine' gni_ok ?Bqx ?Fqx ?Xqx ?Nqx ?Tqx ?hkqx ?Uqx ?hmtqx ?hneqx ?htqx ?hp0qx ?hxqx ?hltqx ?havqx ?hdpqx ?hunqx ?_; (case Bqx | Fqx => k_asm); (case Xqx | Nqx | Tqx => k_asm); (case hkqx => first | exact rfl | assumption); (case Uqx => k_updF); (case hmtqx => k_mem); (case hneqx => k_ne); (case htqx | hp0qx => assumption); (case hxqx | hltqx | havqx => assumption); (case hdpqx => ktr_room); (case hunqx => ktr_units); intro _ _ _ _ _ _ _ l1; (try k_lt l1); (try k_sweep); (try dsimp only))); (try (revert l1; intro _)))))
  k_with "call ref" => ((fail_if_success k_extra "o29"); ((((k_here; (with_reducible show wpAny _ _ (call (Value.ref 103) _ _) _ _ _); k_dflt (refine' afs_ok ?Bqy ?Fqy ?Xqy ?Nqy ?Tqy ?hkqy ?m2qy ?m5qy ?m3qy ?hcqy ?lcqy ?hccqy ?zcqy ?ncqy ?m4qy ?hclqy ?lclqy ?hdpqy ?hunqy ?_; (case Bqy | Fqy => k_asm); (case Xqy | Nqy | Tqy => k_asm); (case hkqy => first | exact rfl | assumption); (case m2qy | m5qy | m3qy => k_mem); (case hcqy | lcqy => assumption); (case hccqy | zcqy | ncqy => assumption); (case m4qy => k_mem); (case hclqy | lclqy => assumption); (case hdpqy => ktr_room); (case hunqy => ktr_units); intro _ _ _ _ _ _ _ _ _ _ _ _ _ _ _ l1 l2; (try k_lt2 l2); (try k_lt l1); (try k_sweep); (try dsimp only))); (try (revert l1; intro _))); (try (revert l2; intro _)))))
  trivial
section

set_option maxRecDepth 100000 in
set_option maxHeartbeats 1000000 in
theorem hop1 {aw aat ad ab aas atab : Addr} {ow : Obj} {p x : Int} {tp : Tok} {nt nas : Nat} {gv : Value} {rest : Led} {tvs : List Value} {tns : List Int} {avs : Array Value}
    (B : Below A₀ base outer h₀) (F : Fr h₀ L s.heap m) (X : (h0.heap_1 w.params).In h₀) (N : News h₀ L s.heap ((aas, W.listOf avs nas) :: rest)) (T : TopX mean mg mb h₀) (hdp : dp + 20 < recursionLimit) (hun : un + 200 < cLine)
    (v1 : m (Str.ofString "walk") = some (.ref aw)) (v2 : m (Str.ofString "place") = some (.int p tp)) (v3 : m (Str.ofString "table") = some (.ref atab)) (v4 : m (Str.ofString "book") = some (.ref ab))
    (hr : ∀ q ∈ rest, q.1 ≠ aas) (hat : atab ≠ aas)
    (mwalk : (aw, ow) ∈ rest) (hw : ow.IsDictOf (strKind PG w) [(Str.ofString "at", .ref aat), (Str.ofString "dots", .ref ad), (Str.ofString "book", .ref ab), (Str.ofString "asked", .ref aas), (Str.ofString "good", gv)])
    (mt : (atab, W.listOf tvs.toArray nt) ∈ rest) (ht : IntsAre tvs tns) (hx : tns[p.toNat]? = some x) (hp0 : 0 ≤ p ∧ p < 6) (hlt : Int.fmod x 7 < 6) (hav : avs.size < 100)
    (ret : ∀ h' tk' d t na', Fr h₀ L h' (fun y => if y = Str.ofString "told" then some (.ref d) else m y) → News h₀ L h' ((d, { cls := .type "tuple", data := .seq #[.int (Int.fmod x 7) t, .int (Int.fmod x 7) t] }) :: (aas, W.listOf (avs.push (.int p tp)) na') :: rest) →
      aas < d → AllLt d rest → Q .next { s with heap := h', toks := tk' }) :
    wpAny (model PG w) (arH dp un gd L outer) (exec (hopB.getD 1 default) (envH L)) Q E s := by
  refine cut_exec (l' := Stmt.Assign [_] _ _) (env' := envOfC (Str.ofString "_law_hop") ⟨_, _, _, _, _⟩ L 233 (.ref 232)) rfl rfl ?_
  k_steps
  exact ret _ _ _ _ _ (by k_asm) (by k_asm) (by assumption) (by assumption)

end
end
section -- B4
theorem kw_B4 : True := by
  k_with "o29" => skip
  k_with "call ref" => ((fail_if_success k_extra "o30"); (((k_here; (with_reducible show wpAny _ _ (call (Value.ref 61) _ _) _ _ _); k_dflt (refine' gni_ok ?Bqx ?Fqx ?Xqx ?Nqx ?Tqx ?hkqx ?Uqx ?hmtqx ?hneqx ?htqx ?hp0qx ?hxqx ?hltqx ?havqx ?hdpqx ?hunqx ?_; (case Bqx | Fqx => k_asm); (case Xqx | Nqx | Tqx => k_asm); (case hkqx => first | exact rfl | assumption); (case Uqx => k_updF); (case hmtqx => k_mem); (case hneqx => k_ne); (case htqx | hp0qx => assumption); (case hxqx | hltqx | havqx => assumption); (case hdpqx => ktr_room); (case hunqx => ktr_units); intro _ _ _ _ _ _ _ l1; (try k_lt l1); (try k_sweep); (try dsimp only))); (try (revert l1; intro _)))))
  k_with "call ref" => ((fail_if_success k_extra "o30"); ((((k_here; (with_reducible show wpAny _ _ (call (Value.ref 103) _ _) _ _ _); k_dflt (refine' afs_ok ?Bqy ?Fqy ?Xqy ?Nqy ?Tqy ?hkqy ?m2qy ?m5qy ?m3qy ?hcqy ?lcqy ?hccqy ?zcqy ?ncqy ?m4qy ?hclqy ?lclqy ?hdpqy ?hunqy ?_; (case Bqy | Fqy => k_asm); (case Xqy | Nqy | Tqy => k_asm); (case hkqy => first | exact rfl | assumption); (case m2qy | m5qy | m3qy => k_mem); (case hcqy | lcqy => assumption); (case hccqy | zcqy | ncqy => assumption); (case m4qy => k_mem); (case hclqy | lclqy => assumption); (case hdpqy => ktr_room); (case hunqy => ktr_units); intro _ _ _ _ _ _ _ _ _ _ _ _ _ _ _ l1 l2; (try k_lt2 l2); (try k_lt l1); (try k_sweep); (try dsimp only))); (try (revert l1; intro _))); (try (revert l2; intro _)))))
  trivial
section

set_option maxRecDepth 100000 in
set_option maxHeartbeats 1000000 in
theorem u35 : Up 35 := by
  refine u34.step rfl ?_
  k_extra "st"
  iterate 45 k_extra "g"
  intro cc ckv tx2 tx1 tc2 tc1 x2 x1 c2 c1 wns wvs ne nw rest bkv tk tp wt p ocl oc ob aws acl ac ae ab b Q E s m h₀ base A₀ outer L gd un dp mb mg mean w B F X N T hdp hun v1 v2 v3 v4 v5 hr hb zb m2 m3 hc lc hcc zc nc m4 hcl lcl m5 hwt hwx hp0 ret
  refine cut_exec (l' := Stmt.Assign [_] _ _) (env' := envOfC (Str.ofString "_law_hop") ⟨_, _, _, _, _⟩ L 233 (.ref 232)) rfl rfl ?_
  k_steps
  exact ret _ _ _ _ _ _ _ _ _ _ _ (by k_asm) (news_sub (by k_asm) (by kcj_all)) (by assumption) (by assumption) (by assumption) (by assumption) (by assumption) (by assumption) (by assumption)

theorem hop4 : ∀ {w a c d e f g L outer h base h₀ m s E Q b ab ae ac acl aws i j k p wt l n bkv rest nw o wvs wns q r t u v x y z ckv cc}, @T35 w a c d e f g L outer h base h₀ m s E Q b ab ae ac acl aws i j k p wt l n bkv rest nw o wvs wns q r t u v x y z ckv cc := no_implicit_lambda% (u35.get rfl)
end
end
section
theorem kw_l_kw31 : True := by
  k_with "o30" => skip
  k_with "xe3" => ((fail_if_success k_extra "o31"); (refine' enter_kw ?k1qu ?k2qu ?k3qu ?k4qu ?k5qu ?kAqu ?kFqu ?kKqu ?k6qu ?k7qu ?k8qu ?kNqu ?kPqu ?kTqu ?kBqu ?_ ?c2qu ?c3qu ?c4qu ?c5qu; (case kAqu | kFqu => exact rfl); (case kKqu => first | exact rfl | assumption); (case k1qu | k2qu => k_asm); (case k3qu | k4qu | k5qu => k_asm); (case k6qu | k7qu => k_is); (case k8qu => ktr_room); (case kPqu => exact rfl); (case kTqu => exact fun _ => rfl); (case kNqu => exact rfl); (case kBqu => exact fun _ => locs rfl); (case c5qu => decide); (case c2qu | c3qu | c4qu => exact rfl); k_whole))
  k_with "callWith ref" => ((fail_if_success k_extra "o31"); ((k_here; (with_reducible show wpAny _ _ (callWith _ (Value.ref 223) _ _ _) _ _ _); k_dflt (refine' callWith_spread ?Xqv ?hkqv ?Fqv ?Nqv ?hmqv ?hdqv ?laqv ?szqv ?h1qv ?h2qv ?retqv ?heqv; (case Xqv => k_asm); (case hkqv => k_is); (case Fqv | Nqv => k_asm); (case hmqv => k_mem); (case hdqv | laqv => assumption); (case szqv => exact Nat.le_of_ble_eq_true rfl); (case heqv => rfl); (case h1qv => (intro _ _ F'z9 q'z9; refine' nameX_L F'z9 ?vqv q'z9 ?aqv ?bqv; (case aqv | bqv => rfl); (case vqv => ktr_rel))); (case h2qv => (intro _ _ F'z9 q'z9; refine' nameX_L F'z9 ?vqv q'z9 ?aqv ?bqv; (case aqv | bqv => rfl); (case vqv => ktr_rel)))); intro _ F'z9 _)))
  trivial
section -- G3
theorem kw_G3 : True := by
  k_with "exec Raise some none" => ((fail_if_success k_extra "o32"); ((k_here; k_dflt (refine raise_own (by rfl) ?_))))
  k_with "leaving ref" => ((fail_if_success k_extra "o32"); ((k_here; k_dflt (first | (refine' leave_onX ?Kqz ?Fqz ?Rqz ?Uqz ?_; (case Rqz | Kqz => assumption); (case Uqz | Fqz => assumption); intro _ _ _; (try dsimp only)) | (refine' leave_raiseO ?Kqz ?Fqz ?Nqz ?neqz ?h1qz ?_; (case Nqz | Kqz | Fqz => k_asm); (case neqz | h1qz => assumption); intro _ _ _; (try dsimp only))))))
  k_with "RaiseOwn" => ((fail_if_success k_extra "o32"); ((k_dflt (refine raiseOwn_of (K := h0.heap_1 _) (by k_asm) (by k_asm) (by k_asm) (by k_mem) (by exact rfl) (by exact rfl) (by assumption) (by first | exact os195 _ | exact os176 _ | exact os207 _) ?_))))
  k_with "call ref" => ((fail_if_success k_extra "o32"); ((k_here; (with_reducible show wpAny _ _ (call (Value.ref 195) _ _) _ _ _); k_dflt (refine' mk195 ?Bq0 ?Fq0 ?Xq0 ?Nq0 ?Tq0 ?hkq0 ?hdpq0 ?hunq0 ?_; (case Bq0 | Fq0 => k_asm); (case Xq0 | Nq0 | Tq0 => k_asm); (case hkq0 => first | exact rfl | assumption); (case hdpq0 => ktr_room); (case hunq0 => ktr_units); intro _ D'z9 _ es'z9 n'z9 _ _ _ _ _ _ l2'z9 l1'z9; (have l3' := ne_cons (D := D'z9) (o := dictOf es'z9 n'z9) l1'z9 l2'z9)))))
  k_with "call ref" => ((fail_if_success k_extra "o32"); ((k_here; (with_reducible show wpAny _ _ (call (Value.ref 176) _ _) _ _ _); k_dflt (refine' mk176 ?Bq1 ?Fq1 ?Xq1 ?Nq1 ?Tq1 ?hkq1 ?hdpq1 ?hunq1 ?_; (case Bq1 | Fq1 => k_asm); (case Xq1 | Nq1 | Tq1 => k_asm); (case hkq1 => first | exact rfl | assumption); (case hdpq1 => ktr_room); (case hunq1 => ktr_units); intro _ D'z9 _ es'z9 n'z9 _ _ _ _ _ _ _ _ l2'z9 l1'z9; (have l3' := ne_cons (D := D'z9) (o := dictOf es'z9 n'z9) l1'z9 l2'z9)))))
  k_with "call ref" => ((fail_if_success k_extra "o32"); ((k_here; (with_reducible show wpAny _ _ (call (Value.ref 207) _ _) _ _ _); k_dflt (refine' mk207 ?Bq2 ?Fq2 ?Xq2 ?Nq2 ?Tq2 ?hkq2 ?hdpq2 ?hunq2 ?_; (case Bq2 | Fq2 => k_asm); (case Xq2 | Nq2 | Tq2 => k_asm); (case hkq2 => first | exact rfl | assumption); (case hdpq2 => ktr_room); (case hunq2 => ktr_units); intro _ D'z9 _ es'z9 n'z9 _ _ _ _ _ _ _ l2'z9 l1'z9; (have l3' := ne_cons (D := D'z9) (o := dictOf es'z9 n'z9) l1'z9 l2'z9)))))
  k_with "subscriptTail" => ((fail_if_success k_extra "o32"); ((k_here; (with_reducible show wpAny _ _ (subscriptTail _ _ (Value.str (Str.ofString "abcdef") _) (Value.int _ _)) _ _ _); k_dflt ((refine KXi.item (n := 6) (by decide +kernel) (by omega) (by omega) (by decide) ?_); intro _))))
  trivial
section
variable {Q : Value → Shared → Prop} {cn : Str} {cs : Scope} {a : Addr} {ccd : Value} {cl : List (Str × Addr)}

set_option maxRecDepth 100000 in
theorem u36 : Up 36 := by
  refine u35.step rfl ?_
  k_extra "st"
  iterate 33 k_extra "g"
  intro rest x avs na nt tns tvs aas ab atab tp p cl ccd a cs cn Q E s m h₀ base A₀ outer L gd un dp mb mg mean w B F X N T hk hr hmt ht hp0 hx hlt hav hdp hun exc
  refine wpAny_call ?_
  k_with "zon" => (fail_if_success k_extra "zf4")
  k_dflt k_enter
  k_with "zf4" => skip
  have hm3 := mod3 p
  k_steps
  all_goals (
    refine' exc _ _ _ _ _ _ _ _ _ _ _ ?ra ?rb (RaisedX.sub (by with_reducible assumption) ?rs) ?rc
    case rs => kcj_all
    case rb => assumption
    case rc => assumption
    case ra => first
      | exact .inl ⟨by assumption, rfl, by assumption⟩
      | exact .inr (.inl ⟨by assumption, rfl, ⟨_, by assumption⟩, ⟨_, by assumption⟩, by assumption⟩)
      | exact .inr (.inr ⟨by omega, rfl, ⟨_, by assumption⟩, ⟨_, by assumption⟩⟩))

theorem gni_rh : ∀ {w b c d e f g L outer h base h₀ m s E Q cn i a ccd cl p j atab ab aas tvs tns k na avs x rest}, @T36 w b c d e f g L outer h base h₀ m s E Q cn i a ccd cl p j atab ab aas tvs tns k na avs x rest := no_implicit_lambda% (u36.get rfl)
end
end
section -- W0
theorem Stop.at {p : Prop} (h : Stop p) : p := h
theorem Stop.go {p : Prop} (h : p) : Stop p := h
theorem letter_ne : letter false ≠ letter true := by decide +kernel
theorem letter_ne' : letter true ≠ letter false := by decide +kernel
theorem CC.len {cc : List (Str × Int)} {nt nh : Nat} (h : CC cc nt nh) : cc.length ≤ 2 := by
  rcases h with ⟨_, _, rfl⟩ | ⟨_, _, rfl⟩ | ⟨_, _, rfl⟩ | ⟨_, _, rfl | rfl⟩ <;> simp
theorem CC.nodup {cc : List (Str × Int)} {nt nh : Nat} (h : CC cc nt nh) : (cc.map (·.1)).Nodup := by
  rcases h with ⟨_, _, rfl⟩ | ⟨_, _, rfl⟩ | ⟨_, _, rfl⟩ | ⟨_, _, rfl | rfl⟩ <;> simp [letter_ne, letter_ne']
theorem CC.bumpT {cc : List (Str × Int)} {nt nh : Nat} (h : CC cc nt nh) : CC (bump cc (letter false)) (nt + 1) nh := by
  have q := letter_ne
  have q' := letter_ne'
  rcases h with ⟨a, b, rfl⟩ | ⟨a, b, rfl⟩ | ⟨a, b, rfl⟩ | ⟨a, b, rfl | rfl⟩
  · exact .inr (.inl ⟨by omega, b, by simp [bump, a]⟩)
  · exact .inr (.inl ⟨by omega, b, by simp [bump]⟩)
  · exact .inr (.inr (.inr ⟨by omega, b, .inr (by simp [bump, q', a])⟩))
  · exact .inr (.inr (.inr ⟨by omega, b, .inl (by simp [bump, q'])⟩))
  · exact .inr (.inr (.inr ⟨by omega, b, .inr (by simp [bump, q'])⟩))
theorem CC.bumpH {cc : List (Str × Int)} {nt nh : Nat} (h : CC cc nt nh) : CC (bump cc (letter true)) nt (nh + 1) := by
  have q := letter_ne
  have q' := letter_ne'
  rcases h with ⟨a, b, rfl⟩ | ⟨a, b, rfl⟩ | ⟨a, b, rfl⟩ | ⟨a, b, rfl | rfl⟩
  · exact .inr (.inr (.inl ⟨a, by omega, by simp [bump, b]⟩))
  · exact .inr (.inr (.inr ⟨a, by omega, .inl (by simp [bump, q, b])⟩))
  · exact .inr (.inr (.inl ⟨a, by omega, by simp [bump]⟩))
  · exact .inr (.inr (.inr ⟨a, by omega, .inl (by simp [bump, q])⟩))
  · exact .inr (.inr (.inr ⟨a, by omega, .inr (by simp [bump, q])⟩))
theorem CC.bump {cc : List (Str × Int)} {nt nh : Nat} (h : CC cc nt nh) (b : Bool) : CC (Mine.bump cc (letter b)) (nt + cond b 0 1) (nh + cond b 1 0) := by
  cases b
  · exact h.bumpT
  · exact h.bumpH
theorem wo_off (a : Addr) (l : Led) : ∀ q ∈ wo a l, q.1 ≠ a := fun q hq => by
  have := (List.mem_filter.mp hq).2
  simpa using this
theorem wo_in {a : Addr} {l : Led} {q : Addr × Obj} (h : q ∈ l) (hne : q.1 ≠ a) : q ∈ wo a l := List.mem_filter.mpr ⟨h, by simpa using hne⟩
theorem wo_sub {a : Addr} {o : Obj} {l : Led} (h : (a, o) ∈ l) : ∀ q ∈ (a, o) :: wo a l, q ∈ l := fun q hq => by
  rcases List.mem_cons.mp hq with rfl | hq
  · exact h
  · exact (List.mem_filter.mp hq).1
theorem valueAt_stored_self {K : Type} [DecidableEq K] (kvs : List (K × Value)) (k : K) (v : Value) : valueAt (stored kvs k v) k = some v := by
  unfold stored valueAt
  split
  · rename_i h
    induction kvs with
    | nil => simp at h
    | cons x r ih =>
      by_cases e : x.1 = k
      · simp [e]
      · rw [List.map_cons, if_neg e, List.find?_cons_of_neg (by simpa using e)]
        refine ih ?_
        simpa [e] using h
  · rename_i h
    have : kvs.find? (fun kv => decide (kv.1 = k)) = none := List.find?_eq_none.mpr fun x hx => by
      intro hh
      exact h (List.any_eq_true.mpr ⟨x, hx, hh⟩)
    rw [List.find?_append, this]; simp
theorem valueAt_stored_ne {K : Type} [DecidableEq K] (kvs : List (K × Value)) (k k' : K) (v : Value) (hne : k' ≠ k) : valueAt (stored kvs k v) k' = valueAt kvs k' := by
  unfold stored valueAt
  split
  · rename_i h
    clear h
    induction kvs with
    | nil => rfl
    | cons x r ih =>
      by_cases e : x.1 = k
      · rw [List.map_cons, if_pos e, List.find?_cons_of_neg (by simpa [e] using Ne.symm hne), List.find?_cons_of_neg (by simpa [e] using Ne.symm hne)]
        exact ih
      · rw [List.map_cons, if_neg e]
        by_cases e' : x.1 = k'
        · rw [List.find?_cons_of_pos (by simpa using e'), List.find?_cons_of_pos (by simpa using e')]
        · rw [List.find?_cons_of_neg (by simpa using e'), List.find?_cons_of_neg (by simpa using e')]
          exact ih
  · rw [List.find?_append]
    cases List.find? (fun kv => decide (kv.1 = k')) kvs <;> simp [Ne.symm hne]
theorem stored_len {K : Type} [DecidableEq K] (kvs : List (K × Value)) (k : K) (v : Value) (h : (valueAt kvs k).isSome = true) : (stored kvs k v).length = kvs.length := by
  unfold stored
  rw [if_pos, List.length_map]
  unfold valueAt at h
  rw [Option.isSome_map, List.find?_isSome] at h
  obtain ⟨x, hx, hk⟩ := h
  exact List.any_eq_true.mpr ⟨x, hx, by simpa using hk⟩
theorem off1_mem {D : Addr} : ∀ {l : Led}, PyProof.Rows.LCg.Off1 D l → ∀ q ∈ l, q.1 ≠ D
  | [], _, _, h => nomatch h
  | _ :: _, x, q, h => by
    rcases List.mem_cons.mp h with rfl | h
    · exact x.1
    · exact off1_mem x.2 q h
theorem hopB_eq : hopB = [hopB.getD 0 default, hopB.getD 1 default, hopB.getD 2 default, hopB.getD 3 default, hopB.getD 4 default, hopB.getD 5 default, hopB.getD 6 default, hopB.getD 7 default, hopB.getD 8 default, hopB.getD 9 default, hopB.getD 10 default] := by rfl
theorem Entry.move {w : World} {D : Adr} {bkv bkv' : List (Int × Value)} {led led' : Led} {wt k : Int} {nt nh : Nat} (h : Entry w D bkv led wt k nt nh) (hv : valueAt bkv' k = valueAt bkv k) (up : ∀ q ∈ led, Off4 D q.1 → q ∈ led') : Entry w D bkv' led' wt k nt nh := by
  obtain ⟨ae, ac, oc, ne, tc1, tc2, tc3, tc4, ckv, cc, hval, mae, mac, hoc, hcc, hCC, lac, oae, oac⟩ := h.ex
  exact ⟨ae, ac, oc, ne, tc1, tc2, tc3, tc4, ckv, cc, hv.trans hval, up _ mae oae, up _ mac oac, hoc, hcc, hCC, lac, oae, oac⟩
section
variable {M : Model} {A : Around} {E : Value → Shared → Prop} {s' : Shared} {base g g₂ h : Heap} {outer : List Env} {L a e : Addr} {m : Str → Option Value} {env : Env} {Q : Unit → Shared → Prop} {news : Led} {oe : Obj}
theorem env_mem {b : Addr} (hf : env.frame = some L) (hm : b ∈ (env :: outer).filterMap (·.frame)) : b = L ∨ b ∈ outer.filterMap (·.frame) := by
  rw [List.filterMap_cons_some hf] at hm
  exact List.mem_cons.mp hm
theorem leave_onE (hf : env.frame = some L) (K : Below A base outer g) (F : Fr g L g₂ m) (R : RaisedX base g₂ (env :: outer) e oe news s'.heap) (hsm : g₂.UpToSlots s'.heap)
    (hQ : ∀ h', RaisedX base g outer e oe news h' → g.UpToSlots h' → Q () { s' with heap := h' }) :
    wpAny M (A.deeper env) (leaving env (.ref e)) Q E s' := by
  obtain ⟨B, hB, hBG, hl, hfl⟩ := R
  exact fly_on (Around.frames_deeper K.stack) hf hfl fun h' x1 x2 => hQ h' ⟨B, hB, fun b o q nm => hBG b o (F.keep b o q) (fun hm => by
      rcases env_mem hf hm with z | z
      · rw [z, kts_self F] at q; cases q
      · exact nm z), fun q hq => ⟨(hl q hq).1, kts_none F.keep (hl q hq).2.1, (hl q hq).2.2⟩, x1⟩ ((Heap.UpToSlots.of_keeps F.keep).trans (hsm.trans x2))
end
end
section -- L1
section
open PySem.Calls PyProof.V PySem.Spec PyProof.Rows.LCg
variable {prog : Program} {w : World} {A : Around} {E : Value → Shared → Prop} {s : Shared} {env : Env} {h₀ : Heap} {target : PySem.Expr} {body : List Stmt} {Q : Flow → Shared → Prop} {m : Str → Option Value} {news keep : Led}
theorem u37 : Up 37 := by
  refine u36.step rfl ?_
  k_extra "st"
  iterate 19 k_extra "g"
  intro cn St P n fp I keep news m Q body target h₀ env s E A w prog W hgo hI hfp hst hL hI0 F N hnw hk J h0 step fin
  refine ⟨I, fp, [I], n, _, _, St, m, news, fun i m n => J i m n ∧ ∀ q ∈ keep, q ∈ n, rfl, KTurns.ofWalks W hgo, hL, fun b hb => by rw [List.mem_singleton.mp hb]; exact hI0, fun p hp hb => hnw p hp (List.mem_singleton.mp hb), hst, F, N, ⟨h0, hk⟩, ?_, fun h' tk m' news' F' N' _ hJ => fin h' tk m' news' F' N' hJ.1⟩
  intro i v m₁ news₁ h₁ tk₁ own hi hP hJ hoff hown hget hall hst₁ F₁ N₁
  obtain ⟨oI, hoI, hcI⟩ := hI _ _ hst₁
  have hIown : (I, oI) ∈ own := hall I (W.sub I (List.mem_singleton.mpr rfl)) hI0 oI hoI
  have hoff' : ∀ p ∈ news₁, p.1 ≠ I := fun p hp e => hoff p hp (List.mem_singleton.mpr e)
  have N₂ : News h₀ env.locals h₁ ((I, oI) :: news₁) := fun p hp => by
    rcases List.mem_cons.mp hp with rfl | hp
    · exact N₁ _ (List.mem_append_left _ hIown)
    · exact N₁ _ (List.mem_append_right _ hp)
  refine wpAny_mono (step i v m₁ news₁ h₁ tk₁ oI hi hP hJ.1 hcI hoff' hJ.2 F₁ N₂) (fun _ s₂ h₂ => wpAny_mono h₂ (fun f s₃ p => ?_) fun _ _ e => e) fun _ _ e => e
  have fin' : (∃ h' tk m' news', s₃ = { s with heap := h', toks := tk } ∧ Fr h₀ env.locals h' m' ∧ News h₀ env.locals h' ((I, oI) :: news') ∧ (∀ p ∈ news', p.1 ≠ I) ∧ (∀ q ∈ keep, q ∈ news') ∧ J (i + 1) m' news') →
      LoopStepU h₀ env.locals [I] own (fun m n => J (i + 1) m n ∧ ∀ q ∈ keep, q ∈ n) { s with heap := h₁, toks := tk₁ } .next s₃ := by
    rintro ⟨h', tk, m', news', e, F', N', o', k', j'⟩
    refine ⟨rfl, h', tk, m', news', e, F', ?_, fun p hp hb => o' p hp (List.mem_singleton.mp hb), j', k'⟩
    rintro ⟨pa, po⟩ hp
    rcases List.mem_append.mp hp with hp | hp
    · have h2 : h₁.get? pa = some po := hget _ hp
      rcases hfp pa (hown _ hp) with rfl | ⟨o, h3⟩
      · have : oI = po := Option.some.inj (hoI.symm.trans h2)
        subst this
        exact N' _ List.mem_cons_self
      · have h4 : h₁.get? pa = some o := (N₁ _ (List.mem_append_right _ (hJ.2 _ h3))).1
        have : o = po := Option.some.inj (h4.symm.trans h2)
        subst this
        exact N' _ (List.mem_cons_of_mem _ (k' _ h3))
    · exact N' _ (List.mem_cons_of_mem _ hp)
  cases f with
  | ret v => exact .ret p
  | brk => exact .brk p
  | next => exact .next (fin' p)
  | cont => exact .cont (fin' p)
theorem turns_J : ∀ {prog w A E s env h₀ a body Q m news keep I b n P c cn}, @T37 prog w A E s env h₀ a body Q m news keep I b n P c cn := no_implicit_lambda% (u37.get rfl)
theorem range_J {r : Addr} {a b : Int} {t u v : Tok} {n : Nat} {x : Str} {px : Pos} (hh : A.handled = none) (F : Fr h₀ env.locals s.heap m) (N : News h₀ env.locals s.heap news) (hr : IsRange s.heap r a b 1 t u v) (hsm : Builtin.Range.small a b 1 = true) (hn : Builtin.Range.rangeSize a b 1 = ((n : Nat) : Int))
    (J : Nat → (Str → Option Value) → Led → Prop) (h0 : J 0 m news)
    (step : ∀ I i t m₁ news₁ h₁ tk₁ oI, i < n → J i m₁ news₁ → oI.cls = .type "range_iterator" → (∀ p ∈ news₁, p.1 ≠ I) → Fr h₀ env.locals h₁ m₁ → News h₀ env.locals h₁ ((I, oI) :: news₁) →
      wpAny (model prog w) A (assign (.Name x px) env (.int (a + (i : Int)) t)) (fun _ s₂ => wpAny (model prog w) A (execs body env) (StepQ h₀ env.locals I oI [] (J (i + 1)) Q { s with heap := h₁, toks := tk₁ }) E s₂) E { s with heap := h₁, toks := tk₁ })
    (fin : ∀ h' tk m' news', Fr h₀ env.locals h' m' → News h₀ env.locals h' news' → J n m' news' → Q .next { s with heap := h', toks := tk }) :
    wpAny (model prog w) A (pyIter (.ref r)) (fun it s₂ => TurnsAt prog w A h₀ env (.Name x px) body Q E it s₂) E s := by
  refine wpAny_pyIter_range hr hsm (turns_J (cn := "range_iterator") (keep := []) (range_walks (I := s.heap.objs.size) hh a n) (fun i v s Q E _ q => wpAny_pure q) (fun i h st => ⟨_, st, rfl⟩) (fun b hb => .inl (List.mem_singleton.mp hb)) ?_ ?_ (next_is_new F) (F.push _) (fun p hp => ⟨Heap.get?_push_of_some _ (N p hp).1, (N p hp).2⟩) (fun p hp => Nat.ne_of_lt (Heap.lt_size (N p hp).1)) (fun _ h => nomatch h) J h0 ?_ fin)
  · show IsRangeIter _ _ _ _ _
    rw [hn]; simpa using Heap.get?_push_size _ rfl
  · intro hb
    exact absurd F.ns.lt ((List.mem_singleton.mp hb) ▸ Nat.lt_irrefl _)
  · rintro i v m₁ news₁ h₁ tk₁ oI hi ⟨t, rfl⟩ hJ hc ho _ F₁ N₁
    exact step _ i t m₁ news₁ h₁ tk₁ oI hi hJ hc ho F₁ N₁
theorem tuple_J {ax : Addr} {lo : Obj} {its : Array Value} {k : Nat} (hh : A.handled = none) (F : Fr h₀ env.locals s.heap m) (N : News h₀ env.locals s.heap news) (hm : (ax, lo) ∈ news) (hc : lo.cls = .type "tuple") (hd : lo.data = .seq its k)
    (J : Nat → (Str → Option Value) → Led → Prop) (h0 : J 0 m news)
    (step : ∀ I i v m₁ news₁ h₁ tk₁ oI, its[i]? = some v → J i m₁ news₁ → oI.cls = .type "tuple_iterator" → (∀ p ∈ news₁, p.1 ≠ I) → (ax, lo) ∈ news₁ → Fr h₀ env.locals h₁ m₁ → News h₀ env.locals h₁ ((I, oI) :: news₁) →
      wpAny (model prog w) A (assign target env v) (fun _ s₂ => wpAny (model prog w) A (execs body env) (StepQ h₀ env.locals I oI [(ax, lo)] (J (i + 1)) Q { s with heap := h₁, toks := tk₁ }) E s₂) E { s with heap := h₁, toks := tk₁ })
    (fin : ∀ h' tk m' news', Fr h₀ env.locals h' m' → News h₀ env.locals h' news' → J its.size m' news' → Q .next { s with heap := h', toks := tk }) :
    wpAny (model prog w) A (pyIter (.ref ax)) (fun it s₂ => TurnsAt prog w A h₀ env target body Q E it s₂) E s := by
  have hax := N _ hm
  have hl : s.heap.IsTuple ax its := ⟨lo, hax.1, hc, k, hd⟩
  have hlt : ax < s.heap.objs.size := Heap.lt_size hax.1
  refine wpAny_pyIter_tuple hl (turns_J (cn := "tuple_iterator") (keep := [(ax, lo)]) (Walks.tuple hh s.heap.objs.size ax (Nat.ne_of_lt hlt) its) (fun i v s Q E st q => letGo_tupleiter st.1 q) (fun i h st => ?_) (fun b hb => ?_) ?_ ?_ (next_is_new F) (F.push _) (fun p hp => ⟨Heap.get?_push_of_some _ (N p hp).1, (N p hp).2⟩) (fun p hp => Nat.ne_of_lt (Heap.lt_size (N p hp).1)) (fun q hq => by rw [List.mem_singleton.mp hq]; exact hm) J h0 ?_ fin)
  · obtain ⟨it, hit, hic, _⟩ := st.1
    exact ⟨it, hit, hic⟩
  · have hb' : b = s.heap.objs.size ∨ b = ax := by simpa using hb
    rcases hb' with e | e
    · exact .inl e
    · exact .inr ⟨lo, by simp [e]⟩
  · exact ⟨⟨_, Heap.get?_push_size _ rfl, rfl, rfl⟩, hl.at fun o e => Heap.get?_push_of_some _ e⟩
  · intro hb
    have hb' : env.locals = s.heap.objs.size ∨ env.locals = ax := by simpa using hb
    rcases hb' with e | e
    · exact absurd F.ns.lt (e ▸ Nat.lt_irrefl _)
    · exact hax.2.1 e.symm
  · rintro i v m₁ news₁ h₁ tk₁ oI hi hP hJ hc ho hk F₁ N₁
    exact step _ i v m₁ news₁ h₁ tk₁ oI hP hJ hc ho (hk _ (List.mem_singleton.mpr rfl)) F₁ N₁
theorem list_J {ax : Addr} {lo : Obj} {its : Array Value} {k : Nat} (hh : A.handled = none) (F : Fr h₀ env.locals s.heap m) (N : News h₀ env.locals s.heap news) (hm : (ax, lo) ∈ news) (hc : lo.cls = .type "list") (hd : lo.data = .seq its k)
    (J : Nat → (Str → Option Value) → Led → Prop) (h0 : J 0 m news)
    (step : ∀ I i v m₁ news₁ h₁ tk₁ oI, its[i]? = some v → J i m₁ news₁ → oI.cls = .type "list_iterator" → (∀ p ∈ news₁, p.1 ≠ I) → (ax, lo) ∈ news₁ → Fr h₀ env.locals h₁ m₁ → News h₀ env.locals h₁ ((I, oI) :: news₁) →
      wpAny (model prog w) A (assign target env v) (fun _ s₂ => wpAny (model prog w) A (execs body env) (StepQ h₀ env.locals I oI [(ax, lo)] (J (i + 1)) Q { s with heap := h₁, toks := tk₁ }) E s₂) E { s with heap := h₁, toks := tk₁ })
    (fin : ∀ h' tk m' news', Fr h₀ env.locals h' m' → News h₀ env.locals h' news' → J its.size m' news' → Q .next { s with heap := h', toks := tk }) :
    wpAny (model prog w) A (pyIter (.ref ax)) (fun it s₂ => TurnsAt prog w A h₀ env target body Q E it s₂) E s := by
  have hax := N _ hm
  have hl : s.heap.IsList ax its := ⟨lo, hax.1, hc, k, hd⟩
  have hlt : ax < s.heap.objs.size := Heap.lt_size hax.1
  refine wpAny_pyIter_list hl (turns_J (cn := "list_iterator") (keep := [(ax, lo)]) (Walks.list hh s.heap.objs.size ax (Nat.ne_of_lt hlt) its) (fun i v s Q E st q => letGo_listiter st.1 q) (fun i h st => ?_) (fun b hb => ?_) ?_ ?_ (next_is_new F) (F.push _) (fun p hp => ⟨Heap.get?_push_of_some _ (N p hp).1, (N p hp).2⟩) (fun p hp => Nat.ne_of_lt (Heap.lt_size (N p hp).1)) (fun q hq => by rw [List.mem_singleton.mp hq]; exact hm) J h0 ?_ fin)
  · obtain ⟨it, hit, hic, _⟩ := st.1
    exact ⟨it, hit, hic⟩
  · have hb' : b = s.heap.objs.size ∨ b = ax := by simpa using hb
    rcases hb' with e | e
    · exact .inl e
    · exact .inr ⟨lo, by simp [e]⟩
  · exact ⟨⟨_, Heap.get?_push_size _ rfl, rfl, rfl⟩, hl.at fun o e => Heap.get?_push_of_some _ e⟩
  · intro hb
    have hb' : env.locals = s.heap.objs.size ∨ env.locals = ax := by simpa using hb
    rcases hb' with e | e
    · exact absurd F.ns.lt (e ▸ Nat.lt_irrefl _)
    · exact hax.2.1 e.symm
  · rintro i v m₁ news₁ h₁ tk₁ oI hi hP hJ hc ho hk F₁ N₁
    exact step _ i v m₁ news₁ h₁ tk₁ oI hP hJ hc ho (hk _ (List.mem_singleton.mpr rfl)) F₁ N₁
theorem vals_J {K : Type} [DecidableEq K] {knd : KeyKind prog w K} {d vw : Addr} {od : Obj} {kvs : List (K × Value)} (hh : A.handled = none) (F : Fr h₀ env.locals s.heap m) (N : News h₀ env.locals s.heap news) (hm : (d, od) ∈ news) (hd : od.IsDictOf knd kvs) (hv : s.heap.IsValuesView vw d)
    (J : Nat → (Str → Option Value) → Led → Prop) (h0 : J 0 m news)
    (step : ∀ I i k v m₁ news₁ h₁ tk₁ oI, kvs[i]? = some (k, v) → J i m₁ news₁ → oI.cls = .type "dict_valueiterator" → (∀ p ∈ news₁, p.1 ≠ I) → (d, od) ∈ news₁ → Fr h₀ env.locals h₁ m₁ → News h₀ env.locals h₁ ((I, oI) :: news₁) →
      wpAny (model prog w) A (assign target env v) (fun _ s₂ => wpAny (model prog w) A (execs body env) (StepQ h₀ env.locals I oI [(d, od)] (J (i + 1)) Q { s with heap := h₁, toks := tk₁ }) E s₂) E { s with heap := h₁, toks := tk₁ })
    (fin : ∀ h' tk m' news', Fr h₀ env.locals h' m' → News h₀ env.locals h' news' → J kvs.length m' news' → Q .next { s with heap := h', toks := tk }) :
    wpAny (model prog w) A (pyIter (.ref vw)) (fun it s₂ => TurnsAt prog w A h₀ env target body Q E it s₂) E s := by
  have hax := N _ hm
  obtain ⟨ep, hat⟩ := (kda_dict N hm hd).dictAt
  have hne : d ≠ s.heap.objs.size := Nat.ne_of_lt hat.lt_size
  refine wpAny_pyIter_values hv hat (turns_J (cn := "dict_valueiterator") (keep := [(d, od)]) (Walks.dictValues (knd := knd) hh s.heap.objs.size d hne kvs ep) (fun i v s Q E st q => letGo_valiter st.1 q) (fun i h st => ?_) (fun b hb => ?_) ?_ ?_ (next_is_new F) (F.push _) (fun p hp => ⟨Heap.get?_push_of_some _ (N p hp).1, (N p hp).2⟩) (fun p hp => Nat.ne_of_lt (Heap.lt_size (N p hp).1)) (fun q hq => by rw [List.mem_singleton.mp hq]; exact hm) J h0 ?_ fin)
  · obtain ⟨⟨oi, g, c, _⟩, _⟩ := st
    exact ⟨oi, g, c⟩
  · have hb' : b = s.heap.objs.size ∨ b = d := by simpa using hb
    rcases hb' with e | e
    · exact .inl e
    · exact .inr ⟨od, by simp [e]⟩
  · exact ⟨⟨_, Heap.get?_push_size _ rfl, rfl, rfl⟩, hat.push _⟩
  · intro hb
    have hb' : env.locals = s.heap.objs.size ∨ env.locals = d := by simpa using hb
    rcases hb' with e | e
    · exact absurd F.ns.lt (e ▸ Nat.lt_irrefl _)
    · exact hax.2.1 e.symm
  · rintro i v m₁ news₁ h₁ tk₁ oI hi ⟨k, hx⟩ hJ hc ho hk F₁ N₁
    exact step _ i k v m₁ news₁ h₁ tk₁ oI hx hJ hc ho (hk _ (List.mem_singleton.mpr rfl)) F₁ N₁
end
end
section -- N0
section
open PySem.Calls PyProof.V PySem.Spec PyProof.Rows.LCg
variable {prog : Program} {w : World} {A : Around} {E : Value → Shared → Prop} {R : Result → Shared → Prop} {s : Shared} {env : Env}
theorem u38 : Up 38 := by
  refine u37.step rfl ?_
  k_extra "st"
  iterate 16 k_extra "g"
  intro I acc it pos scope i1 t1 i0 t0 elt env s R A w prog turn n h
  refine codeAny_loop rfl I (fun n s hI => ?_) n h
  show wpAny _ A ((compTurn (nest2 elt t0 i0 t1 i1 scope pos) 1 it acc env).onRaise (fun x => do noteFrame x env; theTreesLotGoes x)) _ _ s
  refine wpAny_noted ?_
  have e : compTurn (nest2 elt t0 i0 t1 i1 scope pos) 1 it acc env = (standAt i1.pos >>= fun _ => pyNext it >>= fun r => match r with
      | none => pure (.done .next)
      | some v => letOwnedTupleGo t1 it v >>= fun _ => assign t1 env v >>= fun _ =>
        (eval elt env >>= fun x => call (.builtin "list.append") [acc, x] >>= fun _ => pure ()) >>= fun _ =>
          again (.compLoop (nest2 elt t0 i0 t1 i1 scope pos) 1 it acc env)) := by rfl
  rw [e]
  refine wpAny_bind (wpAny_standAt (wpAny_bind (wpAny_mono (turn n s hI) (fun r s₁ h₁ => ?_) fun _ _ h' => h')))
  cases r with
  | none => exact wpAny_pure h₁
  | some v =>
    refine wpAny_bind (wpAny_mono h₁ (fun _ s₀ h₀' => ?_) fun _ _ h' => h')
    refine wpAny_bind (wpAny_mono h₀' (fun _ s₂ h₂ => ?_) fun _ _ h' => h')
    exact wpAny_bind (wpAny_bind (wpAny_mono h₂ (fun x s₄ h₄ => wpAny_bind (wpAny_mono h₄ (fun _ s₅ h₅ => wpAny_pure (wpAny_pure ⟨rfl, h₅⟩)) fun _ _ h' => h')) fun _ _ h' => h'))
theorem cj_in : ∀ {prog w A R s env a b c d e scope f g h} (I : _), @T38 prog w A R s env a b c d e scope f g h I := no_implicit_lambda% (u38.get rfl)
theorem cj_start {elt t0 i0 t1 i1 : PySem.Expr} {scope : Scope} {pos : Pos} {it acc : Value}
    (h0 : codeAny (model prog w) A (.compLoop (nest2 elt t0 i0 t1 i1 scope pos) 1 it acc env) R s)
    (h : wpAny (model prog w) A (pyIter it) (fun it' s' => codeAny (model prog w) A (.compLoop (nest2 elt t0 i0 t1 i1 scope pos) 1 it' acc env) R s') (notedBy (model prog w) A env fun x s' => R (.error x) s') s) :
    codeAny (model prog w) A (.compStart (nest2 elt t0 i0 t1 i1 scope pos) 1 it acc env) R s := by
  refine codeAny_of_tree ?_
  show wpAny _ _ ((compStart (nest2 elt t0 i0 t1 i1 scope pos) 1 it acc env).onRaise (fun x => do noteFrame x env; standAt theWindowsPlace)) _ _ s
  refine wpAny_notedAt ?_
  unfold compStart
  show wpAny _ _ (ask >>= _) _ _ s
  refine wpAny_bind (wpAny_askSetting (wpAny_ite ?_))
  split
  · exact wpAny_pure (And.intro rfl h0)
  · refine wpAny_bind (wpAny_rule ?_)
    show wpAny _ _ (standAt i1.pos >>= _) _ _ s
    exact wpAny_bind (wpAny_standAt (wpAny_bind (wpAny_mono h (fun it' s' h' => wpAny_pure (And.intro rfl h')) fun _ _ x => x)))
theorem u39 : Up 39 := by
  refine u38.step rfl ?_
  k_extra "st"
  iterate 16 k_extra "g"
  intro I acc it pos scope i1 t1 i0 t0 elt env s R A w prog hs turn n h
  refine codeAny_loop rfl I (fun n s hI => ?_) n h
  show wpAny _ A ((compTurn (nest2 elt t0 i0 t1 i1 scope pos) 0 it acc env).onRaise (fun x => do noteFrame x env; theTreesLotGoes x)) _ _ s
  refine wpAny_noted ?_
  have e : compTurn (nest2 elt t0 i0 t1 i1 scope pos) 0 it acc env = (standAt i0.pos >>= fun _ => pyNext it >>= fun r => match r with
      | none => pure (.done .next)
      | some v => letOwnedTupleGo t0 it v >>= fun _ => assign t0 env v >>= fun _ =>
        eval i1 env >>= fun x => standAt i1.pos >>= fun _ => foldedSetIterable i1 env x >>= fun x => holding [x] (pyIter x) >>= fun i2 =>
          runOwn (.compStart (nest2 elt t0 i0 t1 i1 scope pos) 1 i2 acc env) env >>= fun _ =>
          again (.compLoop (nest2 elt t0 i0 t1 i1 scope pos) 0 it acc env)) := by rfl
  rw [e]
  refine wpAny_bind (wpAny_standAt (wpAny_bind (wpAny_mono (turn n s hI) (fun r s₁ h₁ => ?_) fun _ _ h' => h')))
  cases r with
  | none => exact wpAny_pure h₁
  | some v =>
    refine wpAny_bind (wpAny_mono h₁ (fun _ s₀ h₀' => ?_) fun _ _ h' => h')
    refine wpAny_bind (wpAny_mono h₀' (fun _ s₂ h₂ => ?_) fun _ _ h' => h')
    refine wpAny_bind (wpAny_mono h₂ (fun x s₃ h₃ => wpAny_bind (wpAny_standAt (wpAny_bind ?_))) fun _ _ h' => h')
    rw [hs]
    refine wpAny_pure (wpAny_bind (wpAny_holding (wpAny_mono h₃ (fun i2 s₄ h₄ => wpAny_bind (wpAny_runOwn (h := none) (codeAny_mono h₄ fun r s₅ h₅ => ?_))) fun _ _ h' => h')))
    cases r with
    | error e => exact h₅
    | ok f => exact wpAny_pure ⟨rfl, h₅⟩
theorem cj_nest : ∀ {prog w A R s env a b c d e scope f g h} (I : _), @T39 prog w A R s env a b c d e scope f g h I := no_implicit_lambda% (u39.get rfl)
end
section
open PySem.Calls PyProof.V PySem.Spec PyProof.Rows.LCg
variable {prog : Program} {w : World} {A : Around} {E : Value → Shared → Prop} {R : Result → Shared → Prop} {s : Shared} {h₀ : Heap} {L : Addr} {m : Str → Option Value}
theorem u40 : Up 40 := by
  refine u39.step rfl ?_
  k_extra "st"
  iterate 19 k_extra "g"
  intro St Md P n wr fp D C I target m L h₀ s R E A w prog W hlive hLf hwr hCf hDf hC0 hD0 J BODY mono step fin k s' hI
  obtain ⟨i, h', tk, ys, mC, oC, news', hi, rfl, rfl, hst, F, hC, N, off, hJ⟩ := hI
  have hwf : ∀ b, b ∈ wr → b ∈ fp := W.sub
  have next : ∀ h₁ : Heap, (∀ b o, b ∉ wr → h'.get? b = some o → h₁.get? b = some o) → Fr h₀ L h₁ m ∧ News h₀ L h₁ ((C, oC) :: (D, lst ys) :: news') := fun h₁ hk₁ =>
    ⟨⟨F.ns.at' fun o e => hk₁ _ o (fun q => hLf (hwf _ q)) e, fun b o e => hk₁ b o (fun q => by rw [hwr b q] at e; cases e) (F.keep b o e), F.above⟩, fun p hp => by
      refine ⟨hk₁ _ _ (fun q => ?_) (N p hp).1, (N p hp).2⟩
      rcases List.mem_cons.mp hp with rfl | hp
      · exact hCf (hwf _ q)
      · rcases List.mem_cons.mp hp with rfl | hp
        · exact hDf (hwf _ q)
        · exact (off p hp).2.2 q⟩
  by_cases hlt : i < n
  · refine W.item i _ _ _ hlt hst fun v h₁ tk₁ hMd hk₁ => ?_
    refine W.go i v _ _ _ hMd fun h₂ hP hst₂ hk₂ => ?_
    obtain ⟨F₂, N₂⟩ := next h₂ fun b o hb x => hk₂ b o hb (hk₁ b o hb x)
    have Nown : News h₀ L h₂ (PyProof.Rows.ownOf h₀ fp h₂) := news_ownOf hLf
    have N₃ : News h₀ L h₂ ((C, oC) :: (D, lst ys) :: (PyProof.Rows.ownOf h₀ fp h₂ ++ news')) := fun p hp => by
      rcases List.mem_cons.mp hp with rfl | hp
      · exact N₂ _ List.mem_cons_self
      · rcases List.mem_cons.mp hp with rfl | hp
        · exact N₂ _ (List.mem_cons_of_mem _ List.mem_cons_self)
        · rcases List.mem_append.mp hp with hp | hp
          · exact Nown p hp
          · exact N₂ p (List.mem_cons_of_mem _ (List.mem_cons_of_mem _ hp))
    refine mono v _ _ _ (fun s₅ h₅ => ?_) (step i v h₂ tk₁ ys mC oC news' _ hlt hP hJ hC off ownOf_sub (fun b hb => let ⟨o, e⟩ := hlive _ _ hst₂ b hb; ⟨o, mem_ownOf (hwf b hb) (hwr b hb) e⟩) F₂ N₃)
    obtain ⟨h₃, tk₃, ys₃, mC₃, oC₃, news₃, rfl, F₃, hC₃, N₃, off₃, hJ₃⟩ := h₅
    refine ⟨n + 1 - (i + 1), by omega, i + 1, h₃, tk₃, ys₃, mC₃, oC₃, news₃, hlt, rfl, rfl, ?_, F₃, hC₃, fun p hp => ?_, off₃, hJ₃⟩
    · refine W.frame _ _ _ hst₂ fun b hb o e => ?_
      cases hn : h₀.get? b with
      | some o₀ =>
        have : o₀ = o := by have q := F₂.keep b o₀ hn; rw [e] at q; exact (Option.some.inj q).symm
        exact this ▸ F₃.keep b o₀ hn
      | none => exact (N₃ _ (List.mem_cons_of_mem _ (List.mem_cons_of_mem _ (List.mem_append_left _ (mem_ownOf hb hn e))))).1
    · rcases List.mem_cons.mp hp with rfl | hp
      · exact N₃ _ List.mem_cons_self
      · rcases List.mem_cons.mp hp with rfl | hp
        · exact N₃ _ (List.mem_cons_of_mem _ List.mem_cons_self)
        · exact N₃ _ (List.mem_cons_of_mem _ (List.mem_cons_of_mem _ (List.mem_append_right _ hp)))
  · have hin : i = n := by omega
    subst hin
    refine W.done _ _ _ hst fun h₁ tk₁ hk₁ => ?_
    obtain ⟨F₁, N₁⟩ := next h₁ hk₁
    exact fin h₁ tk₁ ys mC oC news' hJ hC off F₁ N₁
theorem cj_fr : ∀ {prog w A E R s h₀ L m a I b D c d n P e f}, @T40 prog w A E R s h₀ L m a I b D c d n P e f := no_implicit_lambda% (u40.get rfl)
theorem cj_append {C D : Addr} {oC : Obj} {mC : Str → Option Value} {ys : List Value} {y : Value} {own news' : Led} {wr : List Addr} {J : List Value → (Str → Option Value) → Led → Prop} {s₁ : Shared} {h : Heap} {tk : Nat}
    (F : Fr h₀ L h m) (hC : NsObj oC mC) (N : News h₀ L h ((C, oC) :: (D, lst ys) :: (own ++ news'))) (off : OffCD C D wr news') (hCD : C ≠ D) (hown : ∀ p ∈ own, p.1 ≠ D) (hsz : ys.length ≤ sizeLine) (hJ : J (ys ++ [y]) mC news') :
    wpAny (model prog w) A (call (.builtin "list.append") [.ref D, y]) (fun _ s₅ => NextInv h₀ L m C D own wr J s₁ s₅) E { s₁ with heap := h, toks := tk } := by
  have zD := N (D, lst ys) (List.mem_cons_of_mem _ List.mem_cons_self)
  refine append_at (hsz := by show ys.toArray.size ≤ sizeLine; rw [List.size_toArray]; exact hsz) zD.1 fun h₅ hs₅ hD₅ => ?_
  refine ⟨h₅, tk, ys ++ [y], mC, oC, news', rfl, F.change hs₅ zD.2.1 zD.2.2, hC, fun p hp => ?_, off, hJ⟩
  rcases List.mem_cons.mp hp with rfl | hp
  · have z := N _ List.mem_cons_self
    exact ⟨hs₅.extBut _ _ hCD z.1, z.2⟩
  · rcases List.mem_cons.mp hp with rfl | hp
    · exact ⟨hD₅.trans (congrArg some (lst_snoc ys y)), zD.2⟩
    · have z := N p (List.mem_cons_of_mem _ (List.mem_cons_of_mem _ hp))
      refine ⟨hs₅.extBut _ _ ?_ z.1, z.2⟩
      rcases List.mem_append.mp hp with hp | hp
      · exact hown p hp
      · exact (off p hp).2.1
end
section
open PySem.Calls PyProof.V PySem.Spec PyProof.Rows.LCg
variable {prog : Program} {w : World} {A : Around} {E : Value → Shared → Prop} {s : Shared} {h₀ : Heap} {L : Addr} {m : Str → Option Value} {env : Env}
theorem u41 : Up 41 := by
  refine u40.step rfl ?_
  k_extra "st"
  iterate 20 k_extra "g"
  intro RR Fin it s₂ pos cl scope rest ifs i0 t0 elt env m L h₀ E A w prog hcell hkind S hRR
  obtain ⟨I, fp, wr, n, St, J, news, rfl, hfr, hself, hst, hfp, hwf, hwr, F, N, off, hJ, loop, hfin⟩ := S
  refine wpAny_newObj_type (wpAny_newFunctionEnv hcell (by intro y hy; simp at hy) (fun h₁ hns₁ hsb₁ => ?_) hkind)
  dsimp only at hns₁ hsb₁ ⊢
  generalize hH2 : s₂.heap.push { cls := .type "list", dict := none, data := .seq ([] : List Value).toArray } = H2 at hns₁ hsb₁ ⊢
  have hC : H2.objs.size = s₂.heap.objs.size + 1 := by rw [← hH2, Heap.size_push]
  have hDC : s₂.heap.objs.size ≠ H2.objs.size := by rw [hC]; exact Nat.ne_of_lt (Nat.lt_succ_self _)
  have below : ∀ b, b < s₂.heap.objs.size → b ≠ H2.objs.size ∧ b ≠ s₂.heap.objs.size := fun b hb => ⟨by rw [hC]; exact Nat.ne_of_lt (Nat.lt_succ_of_lt hb), Nat.ne_of_lt hb⟩
  have hDf : s₂.heap.objs.size ∉ fp := fun hm => Nat.lt_irrefl _ (hfp _ hm)
  have hCf : H2.objs.size ∉ fp := fun hm => by have := hfp _ hm; rw [hC] at this; exact Nat.lt_irrefl _ (Nat.lt_of_succ_lt this)
  have old : ∀ b o, s₂.heap.get? b = some o → h₁.get? b = some o := fun b o e => hsb₁.extBut b o (below b (Heap.lt_size e)).1 (Heap.get?_push_of_some _ (hH2 ▸ Heap.get?_push_of_some _ e))
  have hacc : h₁.get? s₂.heap.objs.size = some (lst []) := hsb₁.extBut _ _ hDC (Heap.get?_push_of_some _ (hH2 ▸ Heap.get?_push_size _ rfl))
  have hst₁ : St 0 h₁ := hfr _ _ _ hst fun b _ o e => old b o e
  have fresh : ∀ a, s₂.heap.objs.size ≤ a → s₂.heap.get? a = none := fun a ha => by
    cases e : s₂.heap.get? a with
    | none => rfl
    | some o' => exact absurd (Heap.lt_size e) (Nat.not_lt.mpr ha)
  have fresh₀ : ∀ a, s₂.heap.objs.size ≤ a → h₀.get? a = none := fun a ha => by
    cases e : h₀.get? a with
    | none => rfl
    | some o' => have := F.keep a o' e; rw [fresh a ha] at this; cases this
  have hD₀ : h₀.get? s₂.heap.objs.size = none := fresh₀ _ (Nat.le_refl _)
  have hC₀ : h₀.get? H2.objs.size = none := fresh₀ _ (by rw [hC]; exact Nat.le_succ _)
  have hLlt : L < s₂.heap.objs.size := F.ns.lt
  have hDL : s₂.heap.objs.size ≠ L := Ne.symm (below L hLlt).2
  have hCL : H2.objs.size ≠ L := Ne.symm (below L hLlt).1
  obtain ⟨oC, heC, hoC⟩ := ns_obj hns₁
  have inv : CInv h₀ L m H2.objs.size s₂.heap.objs.size wr St J n s₂ (n + 1) { s₂ with heap := h₁, toks := s₂.toks + ([] : List (Str × Value)).length } := by
    refine ⟨0, h₁, _, [], _, oC, news, Nat.zero_le _, rfl, rfl, hst₁, F.keeps old, hoC, fun p hp => ?_, fun p hp => ⟨(below _ (Heap.lt_size (N p hp).1)).1, (below _ (Heap.lt_size (N p hp).1)).2, off p hp⟩, hJ _⟩
    rcases List.mem_cons.mp hp with rfl | hp
    · exact ⟨heC, hCL, hC₀⟩
    · rcases List.mem_cons.mp hp with rfl | hp
      · exact ⟨hacc, hDL, hD₀⟩
      · exact ⟨old _ _ (N p hp).1, (N p hp).2⟩
  have go := loop H2.objs.size s₂.heap.objs.size (RR (.ref s₂.heap.objs.size) H2.objs.size) _ hCf hDf hC₀ hD₀ hCL hDL (Ne.symm hDC) inv (fun h' tk ys mC oC' news' hj hn ho F' N' => by
    have off1 : ∀ {l : Led}, OffCD H2.objs.size s₂.heap.objs.size wr l → Off1 s₂.heap.objs.size l := by
      intro l
      induction l with
      | nil => intro _; trivial
      | cons q r ih => intro h; exact ⟨(h q List.mem_cons_self).2.1, ih fun p hp => h p (List.mem_cons_of_mem _ hp)⟩
    exact hRR _ _ h' tk mC ys news' F' (fun p hp => N' p (List.mem_cons_of_mem _ hp)) (off1 ho) (hn.ns (N' _ List.mem_cons_self).1) hC₀ hD₀ hCL hDL (Ne.symm hDC) (fun p hp => (ho p hp).1) (hfin ys mC news' hj))
  exact codeAny_compStart_list go (hself _ _ _ hst₁ go)
theorem cj_block : ∀ {prog w A E h₀ L m env a b c d rest scope cl e f g h i}, @T41 prog w A E h₀ L m env a b c d rest scope cl e f g h i := no_implicit_lambda% (u41.get rfl)
theorem ListComp_J {elt t0 i0 : PySem.Expr} {ifs : List PySem.Expr} {rest : List Comprehension} {scope : Scope} {cl : List (Str × Addr)} {pos : Pos} {Q : Value → Shared → Prop}
    (hclos : closureFor scope env = pure cl) (hcell : ∀ y ∈ scope.names, y.2 ≠ .cell) (hkind : scope.kind = .function)
    (hnames : ∀ y ∈ scope.names, y.2 = .local → scope.names.lookup y.1 = some .local)
    (h : wpAny (model prog w) A (eval i0 env) (fun xv s₁ => wpAny (model prog w) A (pyIter xv) (SrcJ prog w A h₀ L m env (.ListComp elt (⟨t0, i0, ifs, 0⟩ :: rest) scope pos) scope cl (fun s₂ => FinE h₀ L m s₂ Q)) E s₁) E s)
    (hs : ∀ x, foldedSetIterable i0 env x = pure x := by intro _; rfl) :
    wpAny (model prog w) A (eval (.ListComp elt (⟨t0, i0, ifs, 0⟩ :: rest) scope pos) env) Q E s := by
  rw [eval_ListComp]
  refine wpAny_comprehension_free (use := none) rfl hs hclos hkind hnames (wpAny_mono h (fun xv s₁ h₁ => wpAny_mono h₁ (fun it s₂ h₂ => ?_) fun _ _ e => e) fun _ _ e => e)
  refine cj_block hcell hkind h₂ ?_
  intro D C h' tk m' ys news' F' N' o1 hn hC₀ hD₀ hCL hDL hCD offC fin
  refine ⟨m', hn, fun h'' hs'' => fin D h'' tk (F'.change hs'' hCL hC₀) (fun p hp => ?_) o1⟩
  refine ⟨hs''.extBut _ _ ?_ (N' p hp).1, (N' p hp).2⟩
  rcases List.mem_cons.mp hp with rfl | hp
  · exact Ne.symm hCD
  · exact offC p hp
theorem Assign_ListComp_J {elt t0 i0 : PySem.Expr} {ifs : List PySem.Expr} {rest : List Comprehension} {y : Str} {py : Pos} {scope : Scope} {cl : List (Str × Addr)} {pos spos : Pos} {Q : Flow → Shared → Prop} (hLe : env.locals = L)
    (hsw : swapsWith (.ListComp elt (⟨t0, i0, ifs, 0⟩ :: rest) scope pos) (some (.Name y py)) spos.line env = pure true)
    (hclos : closureFor scope env = pure cl) (hcell : ∀ z ∈ scope.names, z.2 ≠ .cell) (hkind : scope.kind = .function)
    (hnames : ∀ z ∈ scope.names, z.2 = .local → scope.names.lookup z.1 = some .local)
    (hy : env.kindOf y = some .local) (hp : (env.scope.kind == .class || (env.scope.kind == .module && env.locals != env.globals)) = false)
    (h : wpAny (model prog w) A (eval i0 env) (fun xv s₁ => wpAny (model prog w) A (pyIter xv) (SrcJ prog w A h₀ L m env (.ListComp elt (⟨t0, i0, ifs, 0⟩ :: rest) scope pos) scope cl (fun s₂ => FinA h₀ L m s₂ y Q)) E s₁) E s)
    (hs : ∀ x, foldedSetIterable i0 env x = pure x := by intro _; rfl) :
    wpAny (model prog w) A (exec (.Assign [.Name y py] (.ListComp elt (⟨t0, i0, ifs, 0⟩ :: rest) scope pos) spos) env) Q E s := by
  subst hLe
  rw [exec_Assign_Name_used _ _ _ _ hsw]
  refine wpAny_bind (wpAny_standAt (wpAny_bind ?_))
  show wpAny _ A (do let _ ← comprehension (.ListComp elt (⟨t0, i0, ifs, 0⟩ :: rest) scope pos) scope env _ (newList []) false (eval i0 env) (some (assign (.Name y py) env))) _ _ s
  refine wpAny_bind (wpAny_mono (wpAny_comprehension_free (use := some (assign (.Name y py) env)) (Q := fun _ s' => Q .next s') rfl hs hclos hkind hnames
    (wpAny_mono h (fun xv s₁ h₁ => wpAny_mono h₁ (fun it s₂ h₂ => ?_) fun _ _ e => e) fun _ _ e => e)) (fun _ s' hq => wpAny_pure (wpAny_pure hq)) fun _ _ e => e)
  refine cj_block hcell hkind h₂ ?_
  intro D C h' tk m' ys news' F' N' o1 hn hC₀ hD₀ hCL hDL hCD offC fin
  show wpAny _ A (assign (.Name y py) env (.ref D)) _ _ _
  refine wpAny_assign_Name (wpAny_storeName_local hy F'.ns (fun h₂ hn₂ hs₂ => ?_) hp)
  have hL₀ : h₀.get? env.locals = none := Heap.get?_none_of_le F'.above
  have F₂ : Fr h₀ env.locals h₂ (fun z => if z = y then some (.ref D) else m z) := ⟨hn₂, fun b o e => hs₂.extBut b o (fun q => by rw [q, hL₀] at e; cases e) (F'.keep b o e), F'.above⟩
  refine ⟨m', hn.sameBut hs₂ hCL, fun h'' hs'' => fin D h'' _ (F₂.change hs'' hCL hC₀) (fun p hp => ?_) o1⟩
  have z : h₂.get? p.1 = some p.2 := hs₂.extBut _ _ (N' p hp).2.1 (N' p hp).1
  refine ⟨hs''.extBut _ _ ?_ z, (N' p hp).2⟩
  rcases List.mem_cons.mp hp with rfl | hp
  · exact Ne.symm hCD
  · exact offC p hp
end
end
section -- N1
section
open PySem.Calls PyProof.V PySem.Spec PyProof.Rows.LCg
variable {prog : Program} {w : World} {A : Around} {E : Value → Shared → Prop} {s : Shared} {h₀ : Heap} {L : Addr} {m : Str → Option Value} {env : Env}
theorem EltEnd.append {C D : Addr} {ys : List Value} {own : Led} {wr : List Addr} {J : List Value → (Str → Option Value) → Led → Prop} {s₁ s₄ : Shared} {y : Value} (h : EltEnd h₀ L m C D ys own wr (fun y => J (ys ++ [y])) s₁ y s₄) (hCD : C ≠ D) (hown : ∀ p ∈ own, p.1 ≠ D) (hsz : ys.length ≤ sizeLine) :
    wpAny (model prog w) A (call (.builtin "list.append") [.ref D, y]) (fun _ s₅ => NextInv h₀ L m C D own wr J s₁ s₅) E s₄ := by
  obtain ⟨h', tk, mC, oC, news', rfl, F, hC, N, off, hJ⟩ := h
  exact cj_append F hC N off hCD hown hsz hJ
theorem cj_store {x : Str} {px : Pos} {scope : Scope} {cl : List (Str × Addr)} {C D : Addr} {oC : Obj} {mC : Str → Option Value} {ys : List Value} {own news' : Led} {v : Value} {h : Heap} {tk : Nat} {Q : Unit → Shared → Prop}
    (hkind : scope.kind = .function) (hx : scope.names.lookup x = some .local) (F : Fr h₀ L h m) (hC : NsObj oC mC) (N : News h₀ L h ((C, oC) :: (D, lst ys) :: (own ++ news'))) (hCD : C ≠ D) (ho : ∀ p ∈ own ++ news', p.1 ≠ C)
    (k : ∀ h' tk' oC', Fr h₀ L h' m → NsObj oC' (fun z => if z = x then some v else mC z) → News h₀ L h' ((C, oC') :: (D, lst ys) :: (own ++ news')) → Q () { s with heap := h', toks := tk' }) :
    wpAny (model prog w) A (assign (.Name x px) (compEnvC scope cl C env) v) Q E { s with heap := h, toks := tk } := by
  have zC := N _ List.mem_cons_self
  refine wpAny_assign_Name (wpAny_storeName_local (lookup_relabel_local hx) (hC.ns zC.1) (fun h₃ hn₃ hs₃ => ?_) (by simp [compEnvC, relabel, hkind]))
  obtain ⟨oC', heC, hoC⟩ := ns_obj hn₃
  refine k h₃ _ oC' (F.change hs₃ zC.2.1 zC.2.2) hoC fun p hp => ?_
  rcases List.mem_cons.mp hp with rfl | hp
  · exact ⟨heC, zC.2⟩
  · have z := N p (List.mem_cons_of_mem _ hp)
    refine ⟨hs₃.extBut _ _ ?_ z.1, z.2⟩
    rcases List.mem_cons.mp hp with rfl | hp
    · exact Ne.symm hCD
    · exact ho p hp
theorem cj_store2 {a b : Str} {pa pb tp : Pos} {kk : Nat} {scope : Scope} {cl : List (Str × Addr)} {C D T : Addr} {oC : Obj} {mC : Str → Option Value} {ys : List Value} {own news' : Led} {x y : Value} {h : Heap} {tk : Nat} {Q : Unit → Shared → Prop}
    (hh : A.handled = none) (hkind : scope.kind = .function) (ha : scope.names.lookup a = some .local) (hb : scope.names.lookup b = some .local) (hT : h.IsTuple T #[x, y]) (F : Fr h₀ L h m) (hC : NsObj oC mC) (N : News h₀ L h ((C, oC) :: (D, lst ys) :: (own ++ news'))) (hCD : C ≠ D) (ho : ∀ p ∈ own ++ news', p.1 ≠ C)
    (k : ∀ h' tk' oC', Fr h₀ L h' m → NsObj oC' (fun z => if z = b then some y else if z = a then some x else mC z) → News h₀ L h' ((C, oC') :: (D, lst ys) :: (own ++ news')) → Q () { s with heap := h', toks := tk' }) :
    wpAny (model prog w) A (assign (.Tuple [.Name a pa, .Name b pb] kk tp) (compEnvC scope cl C env) (.ref T)) Q E { s with heap := h, toks := tk } := by
  have zC := N _ List.mem_cons_self
  refine kcp_assign (s := { s with heap := h, toks := tk }) hh hT (lookup_relabel_local ha) (lookup_relabel_local hb) (by simp [compEnvC, relabel, hkind]) (hC.ns zC.1) fun h₃ tk₃ hn₃ up => ?_
  obtain ⟨oC', heC, hoC⟩ := ns_obj hn₃
  have up' : ∀ c o, c ≠ C → h.get? c = some o → h₃.get? c = some o := up
  have F₃ : Fr h₀ L h₃ m := ⟨F.ns.at' fun o e => up' _ o (Ne.symm zC.2.1) e, fun b o e => up' b o (fun q => by rw [q, zC.2.2] at e; cases e) (F.keep b o e), F.above⟩
  refine k h₃ tk₃ oC' F₃ hoC fun p hp => ?_
  rcases List.mem_cons.mp hp with rfl | hp
  · exact ⟨heC, zC.2⟩
  · have z := N p (List.mem_cons_of_mem _ hp)
    refine ⟨up' _ _ ?_ z.1, z.2⟩
    rcases List.mem_cons.mp hp with rfl | hp
    · exact Ne.symm hCD
    · exact ho p hp
section
variable {elt t0 i0 : PySem.Expr} {scope : Scope} {cl : List (Str × Addr)} {pos : Pos} {s₂ : Shared} {I : Addr} {fp wr : List Addr} {n : Nat} {P Md : Nat → Value → Heap → Prop} {St : Nat → Heap → Prop} {news : Led} {Fin : Shared → List Value → Led → Prop}
theorem srcj_one (S : SrcW prog w A h₀ L m t0 I fp wr n P Md St news s₂) (J : Nat → List Value → (Str → Option Value) → Led → Prop) (hJ0 : ∀ mC, J 0 [] mC news) (hlen : ∀ i ys mC nw, J i ys mC nw → ys.length ≤ sizeLine)
    (step : ∀ i v C D h₁ tk₁ ys mC oC news' own (E' : Value → Shared → Prop), i < n → P i v h₁ → J i ys mC news' → NsObj oC mC → OffCD C D wr news' → C ≠ D → (∀ p ∈ own, p.1 ≠ C ∧ p.1 ≠ D) → ((∀ b ∈ wr, ∃ o, (b, o) ∈ own) ∧ ∀ p ∈ own, p.1 ∈ fp) → Fr h₀ L h₁ m → News h₀ L h₁ ((C, oC) :: (D, lst ys) :: (own ++ news')) →
      wpAny (model prog w) A (assign t0 (compEnvC scope cl C env) v) (fun _ s₃ => wpAny (model prog w) A (eval elt (compEnvC scope cl C env)) (EltEnd h₀ L m C D ys own wr (fun y => J (i + 1) (ys ++ [y])) s₂) E' s₃) E' { s₂ with heap := h₁, toks := tk₁ })
    (fin : ∀ ys mC news', J n ys mC news' → Fin s₂ ys news') : SrcJ prog w A h₀ L m env (.ListComp elt [⟨t0, i0, [], 0⟩] scope pos) scope cl Fin (.ref I) s₂ := by
  refine ⟨I, fp, wr, n, St, J, news, rfl, S.W.frame, S.self, S.st, S.lt, S.W.sub, S.wr0, S.F, S.N, S.off, hJ0, ?_, fin⟩
  intro C D R s' hCf hDf hC0 hD0 hCL hDL hCD hinv hfin
  refine kcp_loop _ (fun k s'' hI => ?_) (n + 1) hinv
  refine wpAny_mono (cj_fr (R := R) (E := notedBy (model prog w) A (compEnvC scope cl C env) fun e s' => R (.error e) s') S.W S.live S.nL S.wr0 hCf hDf hC0 hD0 J
    (fun v P' s => wpAny (model prog w) A (assign t0 (compEnvC scope cl C env) v) (fun _ s₂ => wpAny (model prog w) A (eval elt (compEnvC scope cl C env)) (fun x s₄ => wpAny (model prog w) A (call (.builtin "list.append") [.ref D, x]) (fun _ s₅ => P' s₅)
      (notedBy (model prog w) A (compEnvC scope cl C env) fun e s' => R (.error e) s') s₄) (notedBy (model prog w) A (compEnvC scope cl C env) fun e s' => R (.error e) s') s₂) (notedBy (model prog w) A (compEnvC scope cl C env) fun e s' => R (.error e) s') s)
    (fun v P' P'' s hp h => wpAny_mono h (fun _ _ h => wpAny_mono h (fun _ _ h => wpAny_mono h (fun _ _ h => hp _ h) fun _ _ e => e) fun _ _ e => e) fun _ _ e => e)
    (fun i v h₁ tk₁ ys mC oC news' own hi hP hJ hC ho hown hlv F₁ N₁ => ?_) hfin k s'' hI) (fun r s₁ h => by cases r <;> exact h) fun _ _ e => e
  have hownC : ∀ p ∈ own, p.1 ≠ C ∧ p.1 ≠ D := fun p hp => ⟨fun q => hCf (q ▸ hown p hp), fun q => hDf (q ▸ hown p hp)⟩
  refine wpAny_mono (step i v C D h₁ tk₁ ys mC oC news' own _ hi hP hJ hC ho hCD hownC ⟨hlv, hown⟩ F₁ N₁) (fun _ s₃ h₃ => wpAny_mono h₃ (fun y s₄ h₄ => ?_) fun _ _ e => e) fun _ _ e => e
  exact EltEnd.append (J := J (i + 1)) h₄ hCD (fun p hp => (hownC p hp).2) (hlen _ _ _ _ hJ)
theorem srcj_test {c : PySem.Expr} (S : SrcW prog w A h₀ L m t0 I fp wr n P Md St news s₂) (J : Nat → List Value → (Str → Option Value) → Led → Prop) (hJ0 : ∀ mC, J 0 [] mC news) (hlen : ∀ i ys mC nw, J i ys mC nw → ys.length ≤ sizeLine)
    (step : ∀ i v C D h₁ tk₁ ys mC oC news' own (E' : Value → Shared → Prop), i < n → P i v h₁ → J i ys mC news' → NsObj oC mC → OffCD C D wr news' → C ≠ D → (∀ p ∈ own, p.1 ≠ C ∧ p.1 ≠ D) → ((∀ b ∈ wr, ∃ o, (b, o) ∈ own) ∧ ∀ p ∈ own, p.1 ∈ fp) → Fr h₀ L h₁ m → News h₀ L h₁ ((C, oC) :: (D, lst ys) :: (own ++ news')) →
      wpAny (model prog w) A (assign t0 (compEnvC scope cl C env) v) (fun _ s₃ => wpAny (model prog w) A (isTrue c (compEnvC scope cl C env) (eval c (compEnvC scope cl C env))) (fun okb s₃ => if okb = true then
        wpAny (model prog w) A (eval elt (compEnvC scope cl C env)) (EltEnd h₀ L m C D ys own wr (fun y => J (i + 1) (ys ++ [y])) s₂) E' s₃ else NextInv h₀ L m C D own wr (J (i + 1)) s₂ s₃) E' s₃) E' { s₂ with heap := h₁, toks := tk₁ })
    (fin : ∀ ys mC news', J n ys mC news' → Fin s₂ ys news') : SrcJ prog w A h₀ L m env (.ListComp elt [⟨t0, i0, [c], 0⟩] scope pos) scope cl Fin (.ref I) s₂ := by
  refine ⟨I, fp, wr, n, St, J, news, rfl, S.W.frame, S.self, S.st, S.lt, S.W.sub, S.wr0, S.F, S.N, S.off, hJ0, ?_, fin⟩
  intro C D R s' hCf hDf hC0 hD0 hCL hDL hCD hinv hfin
  refine kct_loop _ (fun k s'' hI => ?_) (n + 1) hinv
  refine wpAny_mono (cj_fr (R := R) (E := notedBy (model prog w) A (compEnvC scope cl C env) fun e s' => R (.error e) s') S.W S.live S.nL S.wr0 hCf hDf hC0 hD0 J
    (fun v P' s => wpAny (model prog w) A (assign t0 (compEnvC scope cl C env) v) (fun _ s₂ => wpAny (model prog w) A (isTrue c (compEnvC scope cl C env) (eval c (compEnvC scope cl C env))) (fun okb s₃ => if okb = true then wpAny (model prog w) A (eval elt (compEnvC scope cl C env)) (fun x s₄ => wpAny (model prog w) A (call (.builtin "list.append") [.ref D, x]) (fun _ s₅ => P' s₅)
      (notedBy (model prog w) A (compEnvC scope cl C env) fun e s' => R (.error e) s') s₄) (notedBy (model prog w) A (compEnvC scope cl C env) fun e s' => R (.error e) s') s₃ else P' s₃) (notedBy (model prog w) A (compEnvC scope cl C env) fun e s' => R (.error e) s') s₂) (notedBy (model prog w) A (compEnvC scope cl C env) fun e s' => R (.error e) s') s)
    (fun v P' P'' s hp h => wpAny_mono h (fun _ _ h => wpAny_mono h (fun okb _ h => by
      cases okb with
      | true => exact wpAny_mono (show wpAny _ _ _ _ _ _ from h) (fun _ _ h => wpAny_mono h (fun _ _ h => hp _ h) fun _ _ e => e) fun _ _ e => e
      | false => exact hp _ h) fun _ _ e => e) fun _ _ e => e)
    (fun i v h₁ tk₁ ys mC oC news' own hi hP hJ hC ho hown hlv F₁ N₁ => ?_) hfin k s'' hI) (fun r s₁ h => by cases r <;> exact h) fun _ _ e => e
  have hownC : ∀ p ∈ own, p.1 ≠ C ∧ p.1 ≠ D := fun p hp => ⟨fun q => hCf (q ▸ hown p hp), fun q => hDf (q ▸ hown p hp)⟩
  refine wpAny_mono (step i v C D h₁ tk₁ ys mC oC news' own _ hi hP hJ hC ho hCD hownC ⟨hlv, hown⟩ F₁ N₁) (fun _ s₃ h₃ => wpAny_mono h₃ (fun okb s₄ h₄ => ?_) fun _ _ e => e) fun _ _ e => e
  cases okb with
  | true => exact wpAny_mono (show wpAny _ _ _ _ _ _ from h₄) (fun y s₅ h₅ => EltEnd.append (J := J (i + 1)) h₅ hCD (fun p hp => (hownC p hp).2) (hlen _ _ _ _ hJ)) fun _ _ e => e
  | false => exact h₄
theorem u42 : Up 42 := by
  refine u41.step rfl ?_
  k_extra "st"
  iterate 25 k_extra "g"
  intro i1 t1 Fin news St Md P n wr fp I s₂ pos cl scope i0 t0 elt env m L h₀ A w prog S hh hs J hJ0 step fin
  refine ⟨I, fp, wr, n, St, J, news, rfl, S.W.frame, S.self, S.st, S.lt, S.W.sub, S.wr0, S.F, S.N, S.off, hJ0, ?_, fin⟩
  intro C D R s' hCf hDf hC0 hD0 hCL hDL hCD hinv hfin
  refine cj_nest _ (hs _) (fun k s'' hI => ?_) (n + 1) hinv
  refine wpAny_mono (cj_fr (R := R) (E := notedBy (model prog w) A (compEnvC scope cl C env) fun e s' => R (.error e) s') S.W S.live S.nL S.wr0 hCf hDf hC0 hD0 J
    (fun v P' s => wpAny (model prog w) A (assign t0 (compEnvC scope cl C env) v) (fun _ s₂ => wpAny (model prog w) A (eval i1 (compEnvC scope cl C env)) (fun x s₃ => wpAny (model prog w) A (pyIter x) (fun i2 s₄ =>
            codeAny (model prog w) A (.compStart (nest2 elt t0 i0 t1 i1 scope pos) 1 i2 (.ref D) (compEnvC scope cl C env)) (fun r s₅ => match r with | .ok _ => P' s₅ | .error e => cameBackBy (model prog w) A (compEnvC scope cl C env) (notedBy (model prog w) A (compEnvC scope cl C env) fun e s' => R (.error e) s') e s₅) s₄)
      (notedBy (model prog w) A (compEnvC scope cl C env) fun e s' => R (.error e) s') s₃) (notedBy (model prog w) A (compEnvC scope cl C env) fun e s' => R (.error e) s') s₂) (notedBy (model prog w) A (compEnvC scope cl C env) fun e s' => R (.error e) s') s)
    (fun v P' P'' s hp h => wpAny_mono h (fun _ _ h => wpAny_mono h (fun _ _ h => wpAny_mono h (fun _ _ h => codeAny_mono h fun r _ h => by cases r with | ok f => exact hp _ h | error e => exact h) fun _ _ e => e) fun _ _ e => e) fun _ _ e => e)
    (fun i v h₁ tk₁ ys mC oC news' own hi hP hJ hC ho hown hlv F₁ N₁ => ?_) hfin k s'' hI) (fun r s₁ h => by cases r <;> exact h) fun _ _ e => e
  have hownC : ∀ p ∈ own, p.1 ≠ C ∧ p.1 ≠ D := fun p hp => ⟨fun q => hCf (q ▸ hown p hp), fun q => hDf (q ▸ hown p hp)⟩
  refine wpAny_mono (step i v C D h₁ tk₁ ys mC oC news' own _ hi hP hJ hC ho hCD hCL hDL hC0 hD0 hownC ⟨hlv, hown⟩ F₁ N₁) (fun _ s₃ h₃ => wpAny_mono h₃ (fun x s₄ h₄ => wpAny_mono h₄ (fun i2 s₅ h₅ => ?_) fun _ _ e => e) fun _ _ e => e) fun _ _ e => e
  obtain ⟨I2, fp2, wr2, n2, P2, Md2, St2, J2, ys2, mC2, oC2, nw, h2, tk2, rfl, rfl, W2, self2, st2, live2, nL2, nC2, nD2, wr02, F2, hC2, N2, off2, hJ2, hlen2, step2, fin2⟩ := h₅
  have loop : ∀ RR : Result → Shared → Prop, (∀ h' tk ys mC oC news', J2 n2 ys mC news' → NsObj oC mC → OffCD C D wr2 news' → Fr h₀ L h' m → News h₀ L h' ((C, oC) :: (D, lst ys) :: news') → RR (.ok .next) { s₂ with heap := h', toks := tk }) →
      codeAny (model prog w) A (.compLoop (nest2 elt t0 i0 t1 i1 scope pos) 1 (.ref I2) (.ref D) (compEnvC scope cl C env)) RR { s₂ with heap := h2, toks := tk2 } := by
    intro RR hRR
    refine cj_in (CInv h₀ L m C D wr2 St2 J2 n2 s₂) (fun k s'' hI => ?_) (n2 + 1) ⟨0, h2, tk2, ys2, mC2, oC2, nw, Nat.zero_le _, rfl, rfl, st2, F2, hC2, N2, off2, hJ2⟩
    refine wpAny_mono (cj_fr (R := RR) (E := notedBy (model prog w) A (compEnvC scope cl C env) fun e s' => RR (.error e) s') W2 live2 nL2 wr02 nC2 nD2 hC0 hD0 J2
      (fun v P' s => wpAny (model prog w) A (assign t1 (compEnvC scope cl C env) v) (fun _ s₂ => wpAny (model prog w) A (eval elt (compEnvC scope cl C env)) (fun x s₄ => wpAny (model prog w) A (call (.builtin "list.append") [.ref D, x]) (fun _ s₅ => P' s₅)
        (notedBy (model prog w) A (compEnvC scope cl C env) fun e s' => RR (.error e) s') s₄) (notedBy (model prog w) A (compEnvC scope cl C env) fun e s' => RR (.error e) s') s₂) (notedBy (model prog w) A (compEnvC scope cl C env) fun e s' => RR (.error e) s') s)
      (fun v P' P'' s hp h => wpAny_mono h (fun _ _ h => wpAny_mono h (fun _ _ h => wpAny_mono h (fun _ _ h => hp _ h) fun _ _ e => e) fun _ _ e => e) fun _ _ e => e)
      (fun i v h₁ tk₁ ys mC oC news' own2 hi hP hJ hC ho hown2 hlv2 F₁ N₁ => ?_) hRR k s'' hI) (fun r s₁ h => by cases r <;> exact h) fun _ _ e => e
    have hown2C : ∀ p ∈ own2, p.1 ≠ C ∧ p.1 ≠ D := fun p hp => ⟨fun q => nC2 (q ▸ hown2 p hp), fun q => nD2 (q ▸ hown2 p hp)⟩
    refine wpAny_mono (step2 i v h₁ tk₁ ys mC oC news' own2 _ hi hP hJ hC ho hown2C ⟨hlv2, hown2⟩ F₁ N₁) (fun _ s₃ h₃ => wpAny_mono h₃ (fun y s₄ h₄ => ?_) fun _ _ e => e) fun _ _ e => e
    exact EltEnd.append (J := J2 (i + 1)) h₄ hCD (fun p hp => (hown2C p hp).2) (hlen2 _ _ _ _ hJ)
  have go := loop (fun r s₅ => match r with | .ok _ => NextInv h₀ L m C D own wr (J (i + 1)) s₂ s₅ | .error e => cameBackBy (model prog w) A (compEnvC scope cl C env) (notedBy (model prog w) A (compEnvC scope cl C env) fun e s' => R (.error e) s') e s₅)
    (fun h' tk ys mC oC news₃ hj hn ho F' N' => by
      obtain ⟨news'', q1, q2, q3⟩ := fin2 ys mC news₃ hj ho
      refine ⟨h', tk, ys, mC, oC, news'', rfl, F', hn, fun p hp => ?_, fun p hp => ⟨(ho p (q1 p (List.mem_append_right _ hp))).1, (ho p (q1 p (List.mem_append_right _ hp))).2.1, q2 p hp⟩, q3⟩
      rcases List.mem_cons.mp hp with rfl | hp
      · exact N' _ List.mem_cons_self
      · rcases List.mem_cons.mp hp with rfl | hp
        · exact N' _ (List.mem_cons_of_mem _ List.mem_cons_self)
        · exact N' _ (List.mem_cons_of_mem _ (List.mem_cons_of_mem _ (q1 p hp))))
  exact cj_start go (self2 _ _ _ st2 go)
theorem srcj_nest : ∀ {prog w A h₀ L m env a b c scope cl d e I f g n P h i news j k l}, @T42 prog w A h₀ L m env a b c scope cl d e I f g n P h i news j k l := no_implicit_lambda% (u42.get rfl)
end
end
end
section -- Y0
section
variable {prog : Program} {w : World} {A : Around} {E : Value → Shared → Prop} {s : Shared} {h₀ : Heap} {L : Addr} {news : Led}
theorem len_ints {l : Addr} {vs : List Value} {ns : List Int} {n : Nat} {Q : Value → Shared → Prop} (N : News h₀ L s.heap news) (hm : (l, W.listOf vs.toArray n) ∈ news) (hi : IntsAre vs ns) (hz : ns.length < 1000)
    (h : Q (.int (ns.length : Int) (s.toks + 1)) { s with toks := s.toks + 1 + 1 }) : wpAny (model prog w) A (call (.builtin "len") [.ref l]) Q E s :=
  kun_lenL (N.isList hm) (by rw [List.size_toArray, hi.length]) (by omega) h
theorem sym_item {value slice : PySem.Expr} {l : Addr} {vs : List Value} {ns : List Int} {n : Nat} {k x : Int} {u : Tok} {Q : Value → Shared → Prop} (N : News h₀ L s.heap news) (hm : (l, W.listOf vs.toArray n) ∈ news)
    (hi : IntsAre vs ns) (h0 : 0 ≤ k ∧ k < 1000) (hx : ns[k.toNat]? = some x) (h : ∀ t, Q (.int x t) s)
    (hs : subscripted slice false (.ref l) (.int k u) = operate [.ref l, .int k u] (getItem (.ref l) (.int k u)) := by with_unfolding_all rfl) (hg : ∀ r, letTemporaryGo value (.ref l) r = pure () := by intro _; with_unfolding_all rfl) : wpAny (model prog w) A (subscriptTail value slice (.ref l) (.int k u)) Q E s := by
  obtain ⟨t, ht⟩ := hi.get _ _ hx
  exact lit_item N hm h0.1 (by omega) (by simpa using ht) (h t) hs hg
theorem sym_in {l : Addr} {vs : List Value} {ns : List Int} {n : Nat} {k : Int} {t : Tok} {Q : Value → Shared → Prop} (N : News h₀ L s.heap news) (hm : (l, W.listOf vs.toArray n) ∈ news) (hi : IntsAre vs ns)
    (h : ∀ b, ns.any (· == k) = b → Q (.bool b) s) : wpAny (model prog w) A (compareOp .In (.int k t) (.ref l)) Q E s :=
  in_list_ints (N.isList hm) hi (h _ rfl)
theorem ints_kf {vs : List Value} {ns : List Int} (h : IntsAre vs ns) : kf_ints vs = true := by
  induction h with
  | nil => rfl
  | cons n t r ih => exact ih
theorem ints_at {vs : List Value} {ns : List Int} {k : Int} (h : IntsAre vs ns) : k ∈ ns → kf_at k vs = some (ns.idxOf k) := by
  induction h with
  | nil => intro h; exact absurd h List.not_mem_nil
  | @cons n t vs ns r ih =>
    intro hk
    by_cases e : n = k
    · subst e
      simp [kf_at, isInt, List.idxOf_cons]
    · have hk' : k ∈ ns := by
        rcases List.mem_cons.mp hk with h | h
        · exact absurd h.symm e
        · exact h
      simp only [kf_at, isInt, List.idxOf_cons, ih hk']
      rw [show (n == k) = false from by simpa using e]
      rfl
theorem sym_index {l : Addr} {vs : List Value} {ns : List Int} {n : Nat} {k : Int} {t : Tok} {Q : Value → Shared → Prop} (N : News h₀ L s.heap news) (hm : (l, W.listOf vs.toArray n) ∈ news) (hi : IntsAre vs ns) (hz : ns.length < 1000) {j : Int} (hk : k ∈ ns ∧ (ns.idxOf k : Int) = j)
    (h : Q (.int j s.toks) { s with toks := s.toks + 1 }) : wpAny (model prog w) A (call (.builtin "list.index") [.ref l, .int k t]) Q E s :=
  kf_index N hm (ints_kf hi) (ints_at hi hk.1) hk.2 (by rw [sizeLine_eq]; have := hi.length; simp; omega) h
end
end
section -- N2
section
open PySem.Calls PyProof.V PySem.Spec PyProof.Rows.LCg
variable {prog : Program} {w : World} {A : Around} {E : Value → Shared → Prop} {s : Shared} {h₀ : Heap} {L : Addr} {m : Str → Option Value} {env : Env} {news : Led}
theorem TestQ.of {b : Bool} {P Q : Prop} (h1 : b = true → P) (h0 : b = false → Q) : TestQ b P Q := by
  cases b with
  | true => exact h1 rfl
  | false => exact h0 rfl
theorem tail_swap {h : Heap} {x y : Addr × Obj} {a b : Led} (N : News h₀ L h (x :: y :: (a ++ b))) : News h₀ L h (x :: y :: (b ++ a)) := fun p hp => N p (by
  simp only [List.mem_cons, List.mem_append] at hp ⊢
  rcases hp with h | h | h | h
  · exact .inl h
  · exact .inr (.inl h)
  · exact .inr (.inr (.inr h))
  · exact .inr (.inr (.inl h)))
theorem EltQ.end {C D : Addr} {ys : List Value} {own : Led} {wr : List Addr} {J : Value → Led → Prop} {s₁ : Shared} {y : Value} {s₄ : Shared} {h : Heap} {tk : Nat} (h : EltQ h₀ L m C D ys own wr J { s₁ with heap := h, toks := tk } y s₄) :
    EltEnd h₀ L m C D ys own wr (fun y _ nw => J y nw) s₁ y s₄ := by
  obtain ⟨h', tk, mC, oC, nw, rfl, F, hC, N, off, hJ⟩ := h
  exact ⟨h', tk, mC, oC, nw, rfl, F, hC, tail_swap N, off, hJ⟩
theorem NoQ.next {C D : Addr} {ys : List Value} {own : Led} {wr : List Addr} {J : List Value → Led → Prop} {s₁ : Shared} {s₄ : Shared} {h : Heap} {tk : Nat} (h : NoQ h₀ L m C D ys own wr J { s₁ with heap := h, toks := tk } s₄) :
    NextInv h₀ L m C D own wr (fun ys _ nw => J ys nw) s₁ s₄ := by
  obtain ⟨h', tk, mC, oC, nw, rfl, F, hC, N, off, hJ⟩ := h
  exact ⟨h', tk, ys, mC, oC, nw, rfl, F, hC, tail_swap N, off, hJ⟩
section
variable {elt i0 : PySem.Expr} {scope : Scope} {cl : List (Str × Addr)} {pos : Pos} {s₂ : Shared} {I : Addr} {fp wr : List Addr} {n : Nat} {P Md : Nat → Value → Heap → Prop} {St : Nat → Heap → Prop} {Fin : Shared → List Value → Led → Prop}
theorem srcj_one1 {x : Str} {px : Pos} (hkind : scope.kind = .function) (hx : scope.names.lookup x = some .local) (S : SrcW prog w A h₀ L m (.Name x px) I fp wr n P Md St news s₂) (P' : Nat → Value → Prop) (hP' : ∀ i v h, P i v h → P' i v)
    (J : Nat → List Value → Led → Prop) (hJ0 : J 0 [] news) (hlen : ∀ i ys nw, J i ys nw → ys.length ≤ sizeLine)
    (step : ∀ i v C D h₁ tk₁ ys mC oC nw tl (E' : Value → Shared → Prop), i < n → P' i v → J i ys nw → mC x = some v → NsObj oC mC → OffCD C D wr nw → C ≠ D → Fr h₀ L h₁ m → News h₀ L h₁ ((C, oC) :: (D, lst ys) :: (nw ++ tl)) → (∀ p ∈ tl, p.1 ≠ C ∧ p.1 ≠ D) → ((∀ b ∈ wr, ∃ o, (b, o) ∈ tl) ∧ ∀ p ∈ tl, p.1 ∈ fp) →
      wpAny (model prog w) A (eval elt (compEnvC scope cl C env)) (EltQ h₀ L m C D ys tl wr (fun y => J (i + 1) (ys ++ [y])) { s₂ with heap := h₁, toks := tk₁ }) E' { s₂ with heap := h₁, toks := tk₁ })
    (fin : ∀ ys news', J n ys news' → Fin s₂ ys news') : SrcJ prog w A h₀ L m env (.ListComp elt [⟨.Name x px, i0, [], 0⟩] scope pos) scope cl Fin (.ref I) s₂ := by
  refine srcj_one S (fun i ys _ nw => J i ys nw) (fun _ => hJ0) (fun i ys _ nw => hlen i ys nw) (fun i v C D h₁ tk₁ ys mC oC news' own E' hi hP hJ hC ho hCD hown hlv F₁ N₁ => ?_) (fun ys _ nw => fin ys nw)
  refine cj_store hkind hx F₁ hC N₁ hCD (fun p hp => ?_) fun h' tk' oC' F' hC' N' => ?_
  · rcases List.mem_append.mp hp with hp | hp
    · exact (hown p hp).1
    · exact (ho p hp).1
  · exact wpAny_mono (step i v C D h' tk' ys _ oC' news' own E' hi (hP' _ _ _ hP) hJ (if_pos rfl) hC' ho hCD F' (tail_swap N') hown hlv) (fun y s₄ h₄ => EltQ.end h₄) fun _ _ e => e
theorem srcj_test1 {x : Str} {px : Pos} {c : PySem.Expr} (hkind : scope.kind = .function) (hx : scope.names.lookup x = some .local) (S : SrcW prog w A h₀ L m (.Name x px) I fp wr n P Md St news s₂) (P' : Nat → Value → Prop) (hP' : ∀ i v h, P i v h → P' i v)
    (J : Nat → List Value → Led → Prop) (hJ0 : J 0 [] news) (hlen : ∀ i ys nw, J i ys nw → ys.length ≤ sizeLine)
    (step : ∀ i v C D h₁ tk₁ ys mC oC nw tl (E' : Value → Shared → Prop), i < n → P' i v → J i ys nw → mC x = some v → NsObj oC mC → OffCD C D wr nw → C ≠ D → Fr h₀ L h₁ m → News h₀ L h₁ ((C, oC) :: (D, lst ys) :: (nw ++ tl)) → (∀ p ∈ tl, p.1 ≠ C ∧ p.1 ≠ D) → ((∀ b ∈ wr, ∃ o, (b, o) ∈ tl) ∧ ∀ p ∈ tl, p.1 ∈ fp) →
      wpAny (model prog w) A (isTrue c (compEnvC scope cl C env) (eval c (compEnvC scope cl C env))) (fun okb s₃ => TestQ okb (
        wpAny (model prog w) A (eval elt (compEnvC scope cl C env)) (EltQ h₀ L m C D ys tl wr (fun y => J (i + 1) (ys ++ [y])) { s₂ with heap := h₁, toks := tk₁ }) E' s₃) (NoQ h₀ L m C D ys tl wr (J (i + 1)) { s₂ with heap := h₁, toks := tk₁ } s₃)) E' { s₂ with heap := h₁, toks := tk₁ })
    (fin : ∀ ys news', J n ys news' → Fin s₂ ys news') : SrcJ prog w A h₀ L m env (.ListComp elt [⟨.Name x px, i0, [c], 0⟩] scope pos) scope cl Fin (.ref I) s₂ := by
  refine srcj_test S (fun i ys _ nw => J i ys nw) (fun _ => hJ0) (fun i ys _ nw => hlen i ys nw) (fun i v C D h₁ tk₁ ys mC oC news' own E' hi hP hJ hC ho hCD hown hlv F₁ N₁ => ?_) (fun ys _ nw => fin ys nw)
  refine cj_store hkind hx F₁ hC N₁ hCD (fun p hp => ?_) fun h' tk' oC' F' hC' N' => ?_
  · rcases List.mem_append.mp hp with hp | hp
    · exact (hown p hp).1
    · exact (ho p hp).1
  · refine wpAny_mono (step i v C D h' tk' ys _ oC' news' own E' hi (hP' _ _ _ hP) hJ (if_pos rfl) hC' ho hCD F' (tail_swap N') hown hlv) (fun okb s₄ h₄ => ?_) fun _ _ e => e
    cases okb with
    | true => exact wpAny_mono (show wpAny _ _ _ _ _ _ from h₄) (fun y s₄ h₄ => EltQ.end h₄) fun _ _ e => e
    | false => exact NoQ.next h₄
theorem srcj_one2 {a b : Str} {pa pb tp : Pos} {kk : Nat} (hh : A.handled = none) (hkind : scope.kind = .function) (ha : scope.names.lookup a = some .local) (hb : scope.names.lookup b = some .local) (hab : a ≠ b) (S : SrcW prog w A h₀ L m (.Tuple [.Name a pa, .Name b pb] kk tp) I fp wr n P Md St news s₂)
    (P' : Nat → Value → Value → Prop) (J : Nat → List Value → Led → Prop) (hP' : ∀ i v h ys nw, P i v h → J i ys nw → News h₀ L h nw → ∃ T x y, v = .ref T ∧ h.IsTuple T #[x, y] ∧ P' i x y) (hJ0 : J 0 [] news) (hlen : ∀ i ys nw, J i ys nw → ys.length ≤ sizeLine)
    (step : ∀ i x y C D h₁ tk₁ ys mC oC nw tl (E' : Value → Shared → Prop), i < n → P' i x y → J i ys nw → mC a = some x → mC b = some y → NsObj oC mC → OffCD C D wr nw → C ≠ D → Fr h₀ L h₁ m → News h₀ L h₁ ((C, oC) :: (D, lst ys) :: (nw ++ tl)) → (∀ p ∈ tl, p.1 ≠ C ∧ p.1 ≠ D) → ((∀ b ∈ wr, ∃ o, (b, o) ∈ tl) ∧ ∀ p ∈ tl, p.1 ∈ fp) →
      wpAny (model prog w) A (eval elt (compEnvC scope cl C env)) (EltQ h₀ L m C D ys tl wr (fun y => J (i + 1) (ys ++ [y])) { s₂ with heap := h₁, toks := tk₁ }) E' { s₂ with heap := h₁, toks := tk₁ })
    (fin : ∀ ys news', J n ys news' → Fin s₂ ys news') : SrcJ prog w A h₀ L m env (.ListComp elt [⟨.Tuple [.Name a pa, .Name b pb] kk tp, i0, [], 0⟩] scope pos) scope cl Fin (.ref I) s₂ := by
  refine srcj_one S (fun i ys _ nw => J i ys nw) (fun _ => hJ0) (fun i ys _ nw => hlen i ys nw) (fun i v C D h₁ tk₁ ys mC oC news' own E' hi hP hJ hC ho hCD hown hlv F₁ N₁ => ?_) (fun ys _ nw => fin ys nw)
  obtain ⟨T, x, y, rfl, hT, hp⟩ := hP' _ _ _ ys news' hP hJ (fun p hp => N₁ p (List.mem_cons_of_mem _ (List.mem_cons_of_mem _ (List.mem_append_right _ hp))))
  refine cj_store2 hh hkind ha hb hT F₁ hC N₁ hCD (fun p hp => ?_) fun h' tk' oC' F' hC' N' => ?_
  · rcases List.mem_append.mp hp with hp | hp
    · exact (hown p hp).1
    · exact (ho p hp).1
  · exact wpAny_mono (step i x y C D h' tk' ys _ oC' news' own E' hi hp hJ ((if_neg hab).trans (if_pos rfl)) (if_pos rfl) hC' ho hCD F' (tail_swap N') hown hlv) (fun y s₄ h₄ => EltQ.end h₄) fun _ _ e => e
theorem srcj_test2 {a b : Str} {pa pb tp : Pos} {kk : Nat} {c : PySem.Expr} (hh : A.handled = none) (hkind : scope.kind = .function) (ha : scope.names.lookup a = some .local) (hb : scope.names.lookup b = some .local) (hab : a ≠ b) (S : SrcW prog w A h₀ L m (.Tuple [.Name a pa, .Name b pb] kk tp) I fp wr n P Md St news s₂)
    (P' : Nat → Value → Value → Prop) (J : Nat → List Value → Led → Prop) (hP' : ∀ i v h ys nw, P i v h → J i ys nw → News h₀ L h nw → ∃ T x y, v = .ref T ∧ h.IsTuple T #[x, y] ∧ P' i x y) (hJ0 : J 0 [] news) (hlen : ∀ i ys nw, J i ys nw → ys.length ≤ sizeLine)
    (step : ∀ i x y C D h₁ tk₁ ys mC oC nw tl (E' : Value → Shared → Prop), i < n → P' i x y → J i ys nw → mC a = some x → mC b = some y → NsObj oC mC → OffCD C D wr nw → C ≠ D → Fr h₀ L h₁ m → News h₀ L h₁ ((C, oC) :: (D, lst ys) :: (nw ++ tl)) → (∀ p ∈ tl, p.1 ≠ C ∧ p.1 ≠ D) → ((∀ b ∈ wr, ∃ o, (b, o) ∈ tl) ∧ ∀ p ∈ tl, p.1 ∈ fp) →
      wpAny (model prog w) A (isTrue c (compEnvC scope cl C env) (eval c (compEnvC scope cl C env))) (fun okb s₃ => TestQ okb (
        wpAny (model prog w) A (eval elt (compEnvC scope cl C env)) (EltQ h₀ L m C D ys tl wr (fun y => J (i + 1) (ys ++ [y])) { s₂ with heap := h₁, toks := tk₁ }) E' s₃) (NoQ h₀ L m C D ys tl wr (J (i + 1)) { s₂ with heap := h₁, toks := tk₁ } s₃)) E' { s₂ with heap := h₁, toks := tk₁ })
    (fin : ∀ ys news', J n ys news' → Fin s₂ ys news') : SrcJ prog w A h₀ L m env (.ListComp elt [⟨.Tuple [.Name a pa, .Name b pb] kk tp, i0, [c], 0⟩] scope pos) scope cl Fin (.ref I) s₂ := by
  refine srcj_test S (fun i ys _ nw => J i ys nw) (fun _ => hJ0) (fun i ys _ nw => hlen i ys nw) (fun i v C D h₁ tk₁ ys mC oC news' own E' hi hP hJ hC ho hCD hown hlv F₁ N₁ => ?_) (fun ys _ nw => fin ys nw)
  obtain ⟨T, x, y, rfl, hT, hp⟩ := hP' _ _ _ ys news' hP hJ (fun p hp => N₁ p (List.mem_cons_of_mem _ (List.mem_cons_of_mem _ (List.mem_append_right _ hp))))
  refine cj_store2 hh hkind ha hb hT F₁ hC N₁ hCD (fun p hp => ?_) fun h' tk' oC' F' hC' N' => ?_
  · rcases List.mem_append.mp hp with hp | hp
    · exact (hown p hp).1
    · exact (ho p hp).1
  · refine wpAny_mono (step i x y C D h' tk' ys _ oC' news' own E' hi hp hJ ((if_neg hab).trans (if_pos rfl)) (if_pos rfl) hC' ho hCD F' (tail_swap N') hown hlv) (fun okb s₄ h₄ => ?_) fun _ _ e => e
    cases okb with
    | true => exact wpAny_mono (show wpAny _ _ _ _ _ _ from h₄) (fun y s₄ h₄ => EltQ.end h₄) fun _ _ e => e
    | false => exact NoQ.next h₄
end
theorem src_range {r : Addr} {a b : Int} {t u v : Tok} {n : Nat} {R : Value → Shared → Prop} (hh : A.handled = none) (F : Fr h₀ L s.heap m) (N : News h₀ L s.heap news) (hr : IsRange s.heap r a b 1 t u v) (hsm : Builtin.Range.small a b 1 = true) (hn : Builtin.Range.rangeSize a b 1 = ((n : Nat) : Int))
    (h : ∀ I St g, (∀ (x : Str) (px : Pos), SrcW prog w A h₀ L m (.Name x px) I [I] [I] n (fun i v _ => ∃ t, v = .int (a + (i : Int)) t) (fun i v h => (∃ t, v = .int (a + (i : Int)) t) ∧ St (i + 1) h) St news { s with heap := g }) → R (.ref I) { s with heap := g }) :
    wpAny (model prog w) A (pyIter (.ref r)) R E s := by
  refine wpAny_pyIter_range hr hsm (h _ _ _ fun x px => ⟨KTurns.ofWalks (range_walks (I := s.heap.objs.size) hh a n) (fun i v s Q E _ q => wpAny_pure q), ?_, ?_, ?_, ?_, F.push _, fun p hp => ⟨Heap.get?_push_of_some _ (N p hp).1, (N p hp).2⟩, fun p hp => ?_, ?_, fun i h st b hb => by rw [List.mem_singleton.mp hb]; exact ⟨_, st⟩⟩)
  · exact fun s' Q E st q => (range_walks (I := s.heap.objs.size) hh a n).self 0 s' Q E st q
  · show IsRangeIter _ _ _ _ _
    rw [hn]; simpa using Heap.get?_push_size _ rfl
  · intro b hb
    rw [List.mem_singleton.mp hb]
    show s.heap.objs.size < (s.heap.push _).objs.size
    rw [Heap.size_push]; exact Nat.lt_succ_self _
  · intro b hb
    rw [List.mem_singleton.mp hb]; exact next_is_new F
  · intro q
    exact absurd (List.mem_singleton.mp q) (Nat.ne_of_lt (Heap.lt_size (N p hp).1))
  · intro q
    exact Nat.ne_of_lt F.ns.lt (List.mem_singleton.mp q)
theorem src_list {ax : Addr} {lo : Obj} {its : Array Value} {k : Nat} {R : Value → Shared → Prop} (hh : A.handled = none) (F : Fr h₀ L s.heap m) (N : News h₀ L s.heap news) (hm : (ax, lo) ∈ news) (hc : lo.cls = .type "list") (hd : lo.data = .seq its k)
    (h : ∀ I St Md g, (∀ target, SrcW prog w A h₀ L m target I [I, ax] [I] its.size (fun i v _ => its[i]? = some v) Md St news { s with heap := g }) → R (.ref I) { s with heap := g }) :
    wpAny (model prog w) A (pyIter (.ref ax)) R E s := by
  have hax := N _ hm
  have hl : s.heap.IsList ax its := ⟨lo, hax.1, hc, k, hd⟩
  have hlt : ax < s.heap.objs.size := Heap.lt_size hax.1
  have W := Walks.list (prog := prog) (w := w) (A := A) hh s.heap.objs.size ax (Nat.ne_of_lt hlt) its
  refine wpAny_pyIter_list hl (h _ _ _ _ fun target => ⟨KTurns.ofWalks W (fun i v s Q E st q => letGo_listiter st.1 q), W.self 0, ?_, ?_, ?_, F.push _, fun p hp => ⟨Heap.get?_push_of_some _ (N p hp).1, (N p hp).2⟩, fun p hp => ?_, ?_, fun i h st b hb => by rw [List.mem_singleton.mp hb]; obtain ⟨it, hit, _⟩ := st.1; exact ⟨it, hit⟩⟩)
  · exact ⟨⟨_, Heap.get?_push_size _ rfl, rfl, rfl⟩, hl.at fun o e => Heap.get?_push_of_some _ e⟩
  · intro b hb
    have hb' : b = s.heap.objs.size ∨ b = ax := by simpa using hb
    show b < (s.heap.push _).objs.size
    rw [Heap.size_push]
    rcases hb' with e | e
    · rw [e]; exact Nat.lt_succ_self _
    · rw [e]; exact Nat.lt_succ_of_lt hlt
  · intro b hb
    rw [List.mem_singleton.mp hb]; exact next_is_new F
  · intro q
    exact absurd (List.mem_singleton.mp q) (Nat.ne_of_lt (Heap.lt_size (N p hp).1))
  · intro hb
    have hb' : L = s.heap.objs.size ∨ L = ax := by simpa using hb
    rcases hb' with e | e
    · exact absurd F.ns.lt (e ▸ Nat.lt_irrefl _)
    · exact hax.2.1 e.symm
theorem src_tuple {ax : Addr} {lo : Obj} {its : Array Value} {k : Nat} {R : Value → Shared → Prop} (hh : A.handled = none) (F : Fr h₀ L s.heap m) (N : News h₀ L s.heap news) (hm : (ax, lo) ∈ news) (hc : lo.cls = .type "tuple") (hd : lo.data = .seq its k)
    (h : ∀ I St Md g, (∀ target, SrcW prog w A h₀ L m target I [I, ax] [I] its.size (fun i v _ => its[i]? = some v) Md St news { s with heap := g }) → R (.ref I) { s with heap := g }) :
    wpAny (model prog w) A (pyIter (.ref ax)) R E s := by
  have hax := N _ hm
  have hl : s.heap.IsTuple ax its := ⟨lo, hax.1, hc, k, hd⟩
  have hlt : ax < s.heap.objs.size := Heap.lt_size hax.1
  have W := Walks.tuple (prog := prog) (w := w) (A := A) hh s.heap.objs.size ax (Nat.ne_of_lt hlt) its
  refine wpAny_pyIter_tuple hl (h _ _ _ _ fun target => ⟨KTurns.ofWalks W (fun i v s Q E st q => letGo_tupleiter st.1 q), W.self 0, ?_, ?_, ?_, F.push _, fun p hp => ⟨Heap.get?_push_of_some _ (N p hp).1, (N p hp).2⟩, fun p hp => ?_, ?_, fun i h st b hb => by rw [List.mem_singleton.mp hb]; obtain ⟨it, hit, _⟩ := st.1; exact ⟨it, hit⟩⟩)
  · exact ⟨⟨_, Heap.get?_push_size _ rfl, rfl, rfl⟩, hl.at fun o e => Heap.get?_push_of_some _ e⟩
  · intro b hb
    have hb' : b = s.heap.objs.size ∨ b = ax := by simpa using hb
    show b < (s.heap.push _).objs.size
    rw [Heap.size_push]
    rcases hb' with e | e
    · rw [e]; exact Nat.lt_succ_self _
    · rw [e]; exact Nat.lt_succ_of_lt hlt
  · intro b hb
    rw [List.mem_singleton.mp hb]; exact next_is_new F
  · intro q
    exact absurd (List.mem_singleton.mp q) (Nat.ne_of_lt (Heap.lt_size (N p hp).1))
  · intro hb
    have hb' : L = s.heap.objs.size ∨ L = ax := by simpa using hb
    rcases hb' with e | e
    · exact absurd F.ns.lt (e ▸ Nat.lt_irrefl _)
    · exact hax.2.1 e.symm
theorem ListComp_JF (_F : Fr h₀ L s.heap m) {elt t0 i0 : PySem.Expr} {ifs : List PySem.Expr} {rest : List Comprehension} {scope : Scope} {cl : List (Str × Addr)} {pos : Pos} {Q : Value → Shared → Prop}
    (hclos : closureFor scope env = pure cl) (hcell : ∀ y ∈ scope.names, y.2 ≠ .cell) (hkind : scope.kind = .function)
    (hnames : ∀ y ∈ scope.names, y.2 = .local → scope.names.lookup y.1 = some .local)
    (h : wpAny (model prog w) A (eval i0 env) (fun xv s₁ => wpAny (model prog w) A (pyIter xv) (SrcJ prog w A h₀ L m env (.ListComp elt (⟨t0, i0, ifs, 0⟩ :: rest) scope pos) scope cl (fun s₂ => FinE h₀ L m s₂ Q)) E s₁) E s)
    (hs : ∀ x, foldedSetIterable i0 env x = pure x := by intro _; rfl) :
    wpAny (model prog w) A (eval (.ListComp elt (⟨t0, i0, ifs, 0⟩ :: rest) scope pos) env) Q E s := ListComp_J hclos hcell hkind hnames h hs
theorem Assign_ListComp_JF (_F : Fr h₀ L s.heap m) {elt t0 i0 : PySem.Expr} {ifs : List PySem.Expr} {rest : List Comprehension} {y : Str} {py : Pos} {scope : Scope} {cl : List (Str × Addr)} {pos spos : Pos} {Q : Flow → Shared → Prop} (hLe : env.locals = L)
    (hsw : swapsWith (.ListComp elt (⟨t0, i0, ifs, 0⟩ :: rest) scope pos) (some (.Name y py)) spos.line env = pure true)
    (hclos : closureFor scope env = pure cl) (hcell : ∀ z ∈ scope.names, z.2 ≠ .cell) (hkind : scope.kind = .function)
    (hnames : ∀ z ∈ scope.names, z.2 = .local → scope.names.lookup z.1 = some .local)
    (hy : env.kindOf y = some .local) (hp : (env.scope.kind == .class || (env.scope.kind == .module && env.locals != env.globals)) = false)
    (h : wpAny (model prog w) A (eval i0 env) (fun xv s₁ => wpAny (model prog w) A (pyIter xv) (SrcJ prog w A h₀ L m env (.ListComp elt (⟨t0, i0, ifs, 0⟩ :: rest) scope pos) scope cl (fun s₂ => FinA h₀ L m s₂ y Q)) E s₁) E s)
    (hs : ∀ x, foldedSetIterable i0 env x = pure x := by intro _; rfl) :
    wpAny (model prog w) A (exec (.Assign [.Name y py] (.ListComp elt (⟨t0, i0, ifs, 0⟩ :: rest) scope pos) spos) env) Q E s := Assign_ListComp_J hLe hsw hclos hcell hkind hnames hy hp h hs
end
end
section -- N3
section
open PySem.Calls PyProof.V PySem.Spec PyProof.Rows.LCg
variable {prog : Program} {w : World} {A : Around} {E : Value → Shared → Prop} {s : Shared} {h₀ : Heap} {L : Addr} {m : Str → Option Value} {env : Env} {news : Led}
theorem u43 : Up 43 := by
  refine u42.step rfl ?_
  k_extra "st"
  iterate 18 k_extra "g"
  intro R n2 n1 ys xs lo2 lo1 l2 l1 news m L h₀ s E A w prog hh F N hm1 hc1 hd1 hm2 hc2 hd2 h
  have hax1 := N _ hm1
  have hax2 := N _ hm2
  have hl1 : s.heap.IsList l1 xs := ⟨lo1, hax1.1, hc1, n1, hd1⟩
  have hl2 : s.heap.IsList l2 ys := ⟨lo2, hax2.1, hc2, n2, hd2⟩
  have hlt1 : l1 < s.heap.objs.size := Heap.lt_size hax1.1
  have hlt2 : l2 < s.heap.objs.size := Heap.lt_size hax2.1
  have hLs : L < s.heap.objs.size := F.ns.lt
  have D : ZipApart (s.heap.objs.size + 4) (s.heap.objs.size + 2) (s.heap.objs.size + 3) s.heap.objs.size (s.heap.objs.size + 1) l1 l2 := ktu_apart _ _ _ hlt1 hlt2
  refine call_zip_2 hl1 hl2 fun h' hz hTI hTO hi1 hi2 hsz hk => ?_
  refine wpAny_pyIter_zip hz ?_
  refine h _ _ _ _ _ _ fun elts k pos => ⟨KTurns.ofWalksU (WalksT.zip2 hh _ _ _ _ _ _ _ D xs ys).toU, ?_, ?_, ?_, ?_, F.keeps hk, N.grown hk, ?_, ?_, fun i h st b hb => ?_⟩
  · rintro s' Q E ⟨hz', _⟩ q
    exact wpAny_pyIter_zip hz' q
  · exact ⟨hz, hTI, ⟨_, _, hTO⟩, hi1, hi2, hl1.at fun o e => hk _ _ e, hl2.at fun o e => hk _ _ e⟩
  · intro b hb
    show b < h'.objs.size
    rw [hsz]
    have hb' : b = s.heap.objs.size + 4 ∨ b = s.heap.objs.size + 2 ∨ b = s.heap.objs.size + 3 ∨ b = s.heap.objs.size ∨ b = s.heap.objs.size + 1 ∨ b = l1 ∨ b = l2 := by simpa using hb
    rcases hb' with e | e | e | e | e | e | e
    · rw [e]; exact Nat.lt_succ_self _
    · rw [e]; exact Nat.add_lt_add_left (by decide) _
    · rw [e]; exact Nat.add_lt_add_left (by decide) _
    · rw [e]; exact Nat.lt_add_of_pos_right (by decide)
    · rw [e]; exact Nat.add_lt_add_left (by decide) _
    · rw [e]; exact Nat.lt_of_lt_of_le hlt1 (Nat.le_add_right _ _)
    · rw [e]; exact Nat.lt_of_lt_of_le hlt2 (Nat.le_add_right _ _)
  · intro b hb
    have hb' : b = s.heap.objs.size + 4 ∨ b = s.heap.objs.size + 3 ∨ b = s.heap.objs.size ∨ b = s.heap.objs.size + 1 := by simpa using hb
    rcases hb' with rfl | rfl | rfl | rfl
    · exact ktu_new F (Nat.le_add_right _ _)
    · exact ktu_new F (Nat.le_add_right _ _)
    · exact ktu_new F (Nat.le_refl _)
    · exact ktu_new F (Nat.le_add_right _ _)
  · intro p hp hb
    have hlt := Heap.lt_size (N p hp).1
    have hb' : p.1 = s.heap.objs.size + 4 ∨ p.1 = s.heap.objs.size + 3 ∨ p.1 = s.heap.objs.size ∨ p.1 = s.heap.objs.size + 1 := by simpa using hb
    rcases hb' with e | e | e | e
    · rw [e] at hlt; exact absurd hlt (Nat.not_lt.mpr (Nat.le_add_right _ _))
    · rw [e] at hlt; exact absurd hlt (Nat.not_lt.mpr (Nat.le_add_right _ _))
    · rw [e] at hlt; exact absurd hlt (Nat.lt_irrefl _)
    · rw [e] at hlt; exact absurd hlt (Nat.not_lt.mpr (Nat.le_add_right _ _))
  · intro hb
    have hb' : L = s.heap.objs.size + 4 ∨ L = s.heap.objs.size + 2 ∨ L = s.heap.objs.size + 3 ∨ L = s.heap.objs.size ∨ L = s.heap.objs.size + 1 ∨ L = l1 ∨ L = l2 := by simpa using hb
    rcases hb' with e | e | e | e | e | e | e
    · rw [e] at hLs; exact absurd hLs (Nat.not_lt.mpr (Nat.le_add_right _ _))
    · rw [e] at hLs; exact absurd hLs (Nat.not_lt.mpr (Nat.le_add_right _ _))
    · rw [e] at hLs; exact absurd hLs (Nat.not_lt.mpr (Nat.le_add_right _ _))
    · rw [e] at hLs; exact absurd hLs (Nat.lt_irrefl _)
    · rw [e] at hLs; exact absurd hLs (Nat.not_lt.mpr (Nat.le_add_right _ _))
    · exact hax1.2.1 e.symm
    · exact hax2.2.1 e.symm
  · obtain ⟨hz, _, ⟨x, y, hTO⟩, ⟨p1, e1, _⟩, ⟨p2, e2, _⟩, _⟩ := st
    have hb' : b = s.heap.objs.size + 4 ∨ b = s.heap.objs.size + 3 ∨ b = s.heap.objs.size ∨ b = s.heap.objs.size + 1 := by simpa using hb
    rcases hb' with rfl | rfl | rfl | rfl
    · exact ⟨_, hz⟩
    · exact ⟨_, hTO⟩
    · exact ⟨_, e1⟩
    · exact ⟨_, e2⟩
theorem src_zip : ∀ {prog w A E s h₀ L m news a b c d xs ys e f R}, @T43 prog w A E s h₀ L m news a b c d xs ys e f R := no_implicit_lambda% (u43.get rfl)
theorem ZipP.tup {xs ys : Array Value} {i : Nat} {v : Value} {h : Heap} (z : ZipP xs ys i v h) : ∃ T x y, v = .ref T ∧ h.IsTuple T #[x, y] ∧ xs[i]? = some x ∧ ys[i]? = some y := by
  obtain ⟨T, _, rfl, ⟨x, y, hx, hy, rfl⟩, hT⟩ := z
  exact ⟨T, x, y, rfl, hT, hx, hy⟩
end
end
section -- N4
section
open PySem.Calls PyProof.V PySem.Spec PyProof.Rows.LCg
variable {prog : Program} {w : World} {A : Around} {E : Value → Shared → Prop} {s : Shared} {h₀ : Heap} {L : Addr} {m : Str → Option Value} {env : Env} {news : Led}
theorem inner_list {ax : Addr} {lo : Obj} {its : Array Value} {k : Nat} {elt : PySem.Expr} {x : Str} {px : Pos} {scope : Scope} {cl : List (Str × Addr)} {C D : Addr} {own nw : Led} {wr : List Addr} {Jn : List Value → (Str → Option Value) → Led → Prop} {s₂ : Shared} {h : Heap} {tk : Nat} {oC : Obj} {mC : Str → Option Value} {ys : List Value}
    (hh : A.handled = none) (hkind : scope.kind = .function) (hx : scope.names.lookup x = some .local) (hCD : C ≠ D) (hC0 : h₀.get? C = none) (hD0 : h₀.get? D = none)
    (F : Fr h₀ L h m) (hC : NsObj oC mC) (N : News h₀ L h ((C, oC) :: (D, lst ys) :: nw)) (off : ∀ p ∈ nw, p.1 ≠ C ∧ p.1 ≠ D) (hm : (ax, lo) ∈ nw) (hc : lo.cls = .type "list") (hd : lo.data = .seq its k)
    (J2 : Nat → List Value → (Str → Option Value) → Led → Prop) (h0 : J2 0 ys mC nw) (hlen : ∀ i ys mC nw, J2 i ys mC nw → ys.length ≤ sizeLine)
    (step : ∀ (I : Addr) i v h₁ tk₁ ys mC mC' oC nw own2 (E' : Value → Shared → Prop), its[i]? = some v → J2 i ys mC nw → mC' x = some v → (∀ z, z ≠ x → mC' z = mC z) → NsObj oC mC' → OffCD C D [I] nw → (∀ p ∈ own2, p.1 ≠ C ∧ p.1 ≠ D) → ((∀ b ∈ [I], ∃ o, (b, o) ∈ own2) ∧ ∀ p ∈ own2, p.1 ∈ [I, ax]) → Fr h₀ L h₁ m → News h₀ L h₁ ((C, oC) :: (D, lst ys) :: (own2 ++ nw)) →
      wpAny (model prog w) A (eval elt (compEnvC scope cl C env)) (EltEnd h₀ L m C D ys own2 [I] (fun y => J2 (i + 1) (ys ++ [y])) { s₂ with heap := h₁, toks := tk₁ }) E' { s₂ with heap := h₁, toks := tk₁ })
    (fin : ∀ ys mC nw, J2 its.size ys mC nw → (∀ p ∈ nw, p.1 ≠ C ∧ p.1 ≠ D) → ∃ news'', (∀ p ∈ own ++ news'', p ∈ nw) ∧ (∀ p ∈ news'', p.1 ∉ wr) ∧ Jn ys mC news'') :
    wpAny (model prog w) A (pyIter (.ref ax)) (InnerAt prog w A h₀ L m elt (.Name x px) (compEnvC scope cl C env) C D own wr Jn s₂) E { s₂ with heap := h, toks := tk } := by
  have hax := N _ (List.mem_cons_of_mem _ (List.mem_cons_of_mem _ hm))
  have zC := N _ List.mem_cons_self
  have zD := N _ (List.mem_cons_of_mem _ List.mem_cons_self)
  refine src_list (news := (C, oC) :: (D, lst ys) :: nw) (s := { s₂ with heap := h, toks := tk }) hh F N (List.mem_cons_of_mem _ (List.mem_cons_of_mem _ hm)) hc hd fun I St Md g S => ?_
  have S1 := S (.Name x px)
  have offI := S1.off
  have nC : ∀ b ∈ [I, ax], b ≠ C ∧ b ≠ D := fun b hb => by
    have hb' : b = I ∨ b = ax := by simpa using hb
    rcases hb' with e | e
    · subst e
      exact ⟨fun q => offI _ List.mem_cons_self (by rw [← q]; exact List.mem_singleton.mpr rfl), fun q => offI _ (List.mem_cons_of_mem _ List.mem_cons_self) (by rw [← q]; exact List.mem_singleton.mpr rfl)⟩
    · subst e
      exact off _ hm
  refine ⟨I, [I, ax], [I], its.size, _, Md, St, J2, ys, mC, oC, nw, g, tk, rfl, rfl, S1.W, S1.self, S1.st, S1.live, S1.nL, fun q => (nC _ q).1 rfl, fun q => (nC _ q).2 rfl, S1.wr0, S1.F, hC, S1.N, ?_, h0, hlen, ?_, ?_⟩
  · exact fun p hp => ⟨(off p hp).1, (off p hp).2, offI p (List.mem_cons_of_mem _ (List.mem_cons_of_mem _ hp))⟩
  · intro i v h₁ tk₁ ys mC oC nw own2 E' hi hP hJ hC ho hown hlv F₁ N₁
    refine cj_store hkind hx F₁ hC N₁ hCD (fun p hp => ?_) fun h' tk' oC' F' hC' N' => ?_
    · rcases List.mem_append.mp hp with hp | hp
      · exact (hown p hp).1
      · exact (ho p hp).1
    · refine wpAny_mono (step I i v h' tk' ys mC _ oC' nw own2 E' hP hJ (if_pos rfl) (fun z hz => if_neg hz) hC' ho hown hlv F' N') (fun y s₄ h₄ => ?_) fun _ _ e => e
      obtain ⟨h', tk, mC, oC, nw, rfl, F, hC, N, off, hJ⟩ := h₄
      exact ⟨h', tk, mC, oC, nw, rfl, F, hC, N, off, hJ⟩
  · exact fun ys mC nw hJ ho => fin ys mC nw hJ fun p hp => ⟨(ho p hp).1, (ho p hp).2.1⟩
end
end
section -- N5
section
open PySem.Calls PyProof.V PySem.Spec PyProof.Rows.LCg
variable {prog : Program} {w : World} {A : Around} {E : Value → Shared → Prop} {s : Shared} {h₀ : Heap} {L : Addr} {m : Str → Option Value} {env : Env} {news : Led}
theorem tupIter_at {h h' : Heap} {a t : Addr} {i : Nat} (x : h.IsTupleIter a t i) (k : ∀ o, h.get? a = some o → h'.get? a = some o) : h'.IsTupleIter a t i := by
  obtain ⟨o, ho, r⟩ := x
  exact ⟨o, k _ ho, r⟩
theorem nextOf_tuple {it t : Addr} {i : Nat} {items : Array Value} {x : Value} {Q : Value → Shared → Prop} (hit : s.heap.IsTupleIter it t i) (ht : s.heap.IsTuple t items) (hx : items[i]? = some x)
    (hQ : ∀ h', h'.IsTupleIter it t (i + 1) → Heap.SameBut it s.heap h' → Q x { s with heap := h' }) :
    wpAny (model prog w) A (Builtin.SmallTypes.nextOf (.ref it)) Q E s := by
  obtain ⟨o, ho, hc, hd⟩ := id hit
  obtain ⟨ol, hol, _, nl, hdl⟩ := ht
  unfold Builtin.SmallTypes.nextOf
  refine wpAny_bind (wpAny_callSpecial?_slot (name := Str.ofString "__next__") hit.typeIs PySem.F.slot_tuple_iterator_next
    (wpAny_call_entry PySem.F.slot_tuple_iterator_next hit.typeIs PySem.F.entry_tuple_iterator_next ?_ (PySem.F.args_tuple_iterator_next_1 _)))
  show wpAny _ _ (field (.ref it) 0 >>= _) _ _ s
  refine wpAny_bind (wpAny_field ho hd (x := .ref t) rfl ?_)
  show wpAny _ _ (if (Value.ref t == Value.none) = true then _ else _) _ _ s
  rw [if_neg (show ¬ ((Value.ref t == Value.none) = true) from Bool.false_ne_true)]
  show wpAny _ _ (field (.ref it) 1 >>= _) _ _ s
  refine wpAny_bind (wpAny_field ho hd (x := .int i 0) rfl ?_)
  show wpAny _ _ (seqItems? (.ref t) >>= _) _ _ s
  refine wpAny_bind (wpAny_seqItems hol hdl ?_)
  simp only [Int.toNat_natCast, hx]
  refine wpAny_bind (wpAny_setField ho hd (by simp) (wpAny_pure ⟨x, rfl, wpAny_pure (hQ _ ?_ (Heap.SameBut.update ..))⟩))
  exact ⟨_, Heap.get?_update_self _ ho (Obj.isFreed_of_fields (Obj.data_mapFields hd _)), (Obj.cls_mapFields ..).trans hc, by
    rw [Obj.data_mapFields hd]; simp [rawInt]⟩
theorem u44 : Up 44 := by
  refine u43.step rfl ?_
  k_extra "st"
  iterate 10 k_extra "g"
  intro Q items i t it s E A w prog hh hit ht hx hE
  obtain ⟨o, ho, hc, hd⟩ := id hit
  obtain ⟨ol, hol, _, nl, hdl⟩ := ht
  unfold Builtin.SmallTypes.nextOf
  refine wpAny_bind (wpAny_callSpecial?_slot (name := Str.ofString "__next__") hit.typeIs PySem.F.slot_tuple_iterator_next
    (wpAny_call_entry PySem.F.slot_tuple_iterator_next hit.typeIs PySem.F.entry_tuple_iterator_next ?_ (PySem.F.args_tuple_iterator_next_1 _)))
  show wpAny _ _ (field (.ref it) 0 >>= _) _ _ s
  refine wpAny_bind (wpAny_field ho hd (x := .ref t) rfl ?_)
  show wpAny _ _ (if (Value.ref t == Value.none) = true then _ else _) _ _ s
  rw [if_neg (show ¬ ((Value.ref t == Value.none) = true) from Bool.false_ne_true)]
  show wpAny _ _ (field (.ref it) 1 >>= _) _ _ s
  refine wpAny_bind (wpAny_field ho hd (x := .int i 0) rfl ?_)
  show wpAny _ _ (seqItems? (.ref t) >>= _) _ _ s
  refine wpAny_bind (wpAny_seqItems hol hdl ?_)
  simp only [Int.toNat_natCast, hx]
  refine wpAny_bind (wpAny_rule (wpAny_bind (wpAny_setField ho hd (by simp) ?_)))
  show wpAny _ _ (newExc (.type "StopIteration") [] >>= _) _ _ _
  refine wpAny_bind ?_
  simp only [newExc, newTuple]
  refine wpAny_bind (wpAny_newObj_type ?_ (by size_fits))
  refine wpAny_bind (m := firstArgMember _ _) (wpAny_of_eq (a := Value.none) (by first | rfl | (simp only [firstArgMember]; rfl)) ?_)
  refine wpAny_newObj_type ?_ (by size_fits)
  simp only [raiseNew]
  refine wpAny_bind (wpAny_handled ?_)
  first | rw [show A.in1.handled = none from hh] | rw [hh]
  refine wpAny_bind (wpAny_pure (wpAny_throw ?_))
  exact hE _ _ (((Heap.SameBut.update ..).extBut.push _).push _) ⟨_, Heap.get?_push_size _ rfl, rfl⟩
theorem nextOf_tuple_end : ∀ {prog w A E s a t i b Q}, @T44 prog w A E s a t i b Q := no_implicit_lambda% (u44.get rfl)
theorem draws_tuple (hh : A.handled = none) (it t : Addr) (hne : t ≠ it) (items : Array Value) : Draws prog w A it [it, t] items.size (fun i v => items[i]? = some v) (fun i h => h.IsTupleIter it t i ∧ h.IsTuple t items) where
  live := fun _ _ st => let ⟨o, ho, _⟩ := st.1; ⟨o, ho⟩
  frame := fun _ _ _ st hk => ⟨tupIter_at st.1 fun o e => hk it (by simp) o e, st.2.at fun o e => hk t (by simp) o e⟩
  item := fun i s Q E hi st hQ => nextOf_tuple st.1 st.2 (x := items[i]) (by simp [hi]) fun h' hit' hs' => hQ _ h' s.toks (by simp [hi]) ⟨hit', st.2.extBut hs'.extBut hne⟩ hs'
  done := fun s Q E st hE => nextOf_tuple_end hh st.1 st.2 (by simp) hE
end
end
section -- N6
section
open PySem.Calls PyProof.V PySem.Spec PyProof.Rows.LCg
variable {prog : Program} {w : World} {A : Around} {E : Value → Shared → Prop} {s : Shared} {h₀ : Heap} {L : Addr} {m : Str → Option Value} {env : Env} {news : Led}
section
variable {z TI TO i1 i2 : Addr} {fp1 fp2 : List Addr} {n1 n2 : Nat} {P1 P2 : Nat → Value → Prop} {St1 St2 : Nat → Heap → Prop}
theorem u45 : Up 45 := by
  refine u44.step rfl ?_
  k_extra "st"
  iterate 22 k_extra "g"
  intro Q b a k St2 St1 P2 P1 n2 n1 fp2 fp1 i2 i1 TO TI z s E A w prog D1 D2 D hz hTI hTO st1 st2 hk1 hk2 hQ
  show wpAny _ _ (field (.ref z) 2 >>= _) _ _ _
  refine wpAny_bind (wpAny_field hz rfl (x := .bool false) rfl ?_)
  show wpAny _ _ (field (.ref z) 3 >>= _) _ _ _
  refine wpAny_bind (wpAny_field hz rfl (x := .ref TI) rfl ?_)
  refine wpAny_bind (wpAny_seqItems hTI rfl ?_)
  show wpAny _ _ (Builtin.SmallTypes.ownedTupleIsFree (.ref z) >>= _) _ _ _
  refine wpAny_bind ?_
  unfold Builtin.SmallTypes.ownedTupleIsFree
  refine wpAny_bind (wpAny_field hz rfl (x := .none) rfl (wpAny_pure ?_))
  simp only [if_true]
  refine wpAny_bind (wpAny_rule ?_)
  refine wpAny_bind (wpAny_field hz rfl (x := .ref TO) rfl ?_)
  refine wpAny_bind (wpAny_setField_rec hz (by simp) fun h₁ hz₁ hs₁ => ?_)
  replace hz₁ : IsZip h₁ z TI TO .ellipsis := hz₁
  refine wpAny_bind ?_
  simp only [List.zipIdx_cons, List.zipIdx_nil, List.forIn_cons, List.forIn_nil]
  refine wpAny_bind (wpAny_bind (wpAny_onRaise ?_))
  show wpAny _ _ (Builtin.SmallTypes.nextOf (.ref i1) >>= _) _ _ _
  refine wpAny_bind (D1.item k _ _ _ hk1 (D1.frame _ _ _ st1 fun c hc o e => hs₁.extBut _ _ (D.f1 c hc).1 e) fun x h₂ tk₂ hPx st1₂ hs₂ => wpAny_pure ?_)
  have hTO₂ : IsPair h₂ TO a b := hs₂.extBut _ _ D.TOi1 (hs₁.extBut _ _ D.TOz hTO)
  refine wpAny_bind (wpAny_seqItems hTO₂ rfl ?_)
  refine wpAny_bind (wpAny_updateSeq_pair hTO₂ fun h₃ hTO₃ hs₃ => ?_)
  replace hTO₃ : IsPair h₃ TO x b := hTO₃
  refine wpAny_bind (wpAny_letGo (wpAny_pure ?_))
  refine wpAny_bind (wpAny_bind (wpAny_onRaise ?_))
  show wpAny _ _ (Builtin.SmallTypes.nextOf (.ref i2) >>= _) _ _ _
  refine wpAny_bind (D2.item k _ _ _ hk2 (D2.frame _ _ _ st2 fun c hc o e => hs₃.extBut _ _ (D.f2 c hc).2.1 (hs₂.extBut _ _ (D.f2 c hc).2.2 (hs₁.extBut _ _ (D.f2 c hc).1 e))) fun y h₄ tk₄ hPy st2₄ hs₄ => wpAny_pure ?_)
  have hTO₄ : IsPair h₄ TO x b := hs₄.extBut _ _ D.TOi2 hTO₃
  refine wpAny_bind (wpAny_seqItems hTO₄ rfl ?_)
  refine wpAny_bind (wpAny_updateSeq_pair hTO₄ fun h₅ hTO₅ hs₅ => ?_)
  replace hTO₅ : IsPair h₅ TO x y := hTO₅
  refine wpAny_bind (wpAny_letGo (wpAny_pure (wpAny_pure ?_)))
  refine wpAny_bind (wpAny_seqItems hTO₅ rfl ?_)
  refine wpAny_bind (wpAny_newTuple ?_)
  have hsz : h₅.objs.size = s.heap.objs.size := by rw [hs₅.1, hs₄.1, hs₃.1, hs₂.1, hs₁.1]
  have hz₅ : IsZip h₅ z TI TO .ellipsis := hs₅.extBut _ _ D.TOz.symm (hs₄.extBut _ _ D.i2z.symm (hs₃.extBut _ _ D.TOz.symm (hs₂.extBut _ _ D.i1z.symm hz₁)))
  have hk₅ : ∀ c o, c ≠ z → c ≠ TO → c ≠ i1 → c ≠ i2 → s.heap.get? c = some o → h₅.get? c = some o := fun c o c1 c2 c3 c4 e =>
    hs₅.extBut _ _ c2 (hs₄.extBut _ _ c4 (hs₃.extBut _ _ c2 (hs₂.extBut _ _ c3 (hs₁.extBut _ _ c1 e))))
  have st1₅ : St1 (k + 1) h₅ := D1.frame _ _ _ st1₂ fun c hc o e => hs₅.extBut _ _ (D.f1 c hc).2.1 (hs₄.extBut _ _ (D.f1 c hc).2.2 (hs₃.extBut _ _ (D.f1 c hc).2.1 e))
  have st2₅ : St2 (k + 1) h₅ := D2.frame _ _ _ st2₄ fun c hc o e => hs₅.extBut _ _ (D.f2 c hc).2.1 e
  have hzlt : z < h₅.objs.size := Heap.lt_size hz₅
  show wpAny _ _ (Builtin.SmallTypes.ownedTupleHandOut (.ref z) (.ref h₅.objs.size) >>= _) _ _ _
  refine wpAny_bind ?_
  unfold Builtin.SmallTypes.ownedTupleHandOut
  have hz₆ : IsZip (h₅.push { cls := .type "tuple", data := .seq #[x, y] }) z TI TO .ellipsis := Heap.get?_push_of_some _ hz₅
  refine wpAny_bind (wpAny_setField_rec hz₆ (by simp) fun h₇ hz₇ hs₇ => ?_)
  replace hz₇ : IsZip h₇ z TI TO (rawInt h₅.objs.size) := hz₇
  refine wpAny_setField_rec hz₇ (by simp) fun h₈ hz₈ hs₈ => ?_
  replace hz₈ : IsZip h₈ z TI TO (rawInt h₅.objs.size) := hz₈
  have up : ∀ c o, c ≠ z → h₅.get? c = some o → h₈.get? c = some o := fun c o c1 e => hs₈.extBut _ _ c1 (hs₇.extBut _ _ c1 (Heap.get?_push_of_some _ e))
  have hT₈ : IsPair h₈ h₅.objs.size x y := hs₈.extBut _ _ (Nat.ne_of_gt hzlt) (hs₇.extBut _ _ (Nat.ne_of_gt hzlt) (Heap.get?_push_size _ rfl))
  rw [hsz] at hz₈ hT₈
  refine wpAny_pure ⟨_, rfl, ?_⟩
  show Q (.ref h₅.objs.size) _
  rw [hsz]
  exact hQ h₈ tk₄ x y hPx hPy hz₈ (up _ _ D.TOz hTO₅) (D1.frame _ _ _ st1₅ fun c hc o e => up _ o (D.f1 c hc).1 e) (D2.frame _ _ _ st2₅ fun c hc o e => up _ o (D.f2 c hc).1 e) hT₈ fun c o c1 c2 c3 c4 e => up c o c1 (hk₅ c o c1 c2 c3 c4 e)
theorem zd_item : ∀ {prog w A E s c d e f g h i j l m n o p k a b Q}, @T45 prog w A E s c d e f g h i j l m n o p k a b Q := no_implicit_lambda% (u45.get rfl)
theorem u46 : Up 46 := by
  refine u45.step rfl ?_
  k_extra "st"
  iterate 18 k_extra "g"
  intro Q b a St1 P1 n1 fp2 fp1 i2 i1 TO TI z s E A w prog D1 D hz hTI hTO st1 hE
  show wpAny _ _ (field (.ref z) 2 >>= _) _ _ _
  refine wpAny_bind (wpAny_field hz rfl (x := .bool false) rfl ?_)
  show wpAny _ _ (field (.ref z) 3 >>= _) _ _ _
  refine wpAny_bind (wpAny_field hz rfl (x := .ref TI) rfl ?_)
  refine wpAny_bind (wpAny_seqItems hTI rfl ?_)
  show wpAny _ _ (Builtin.SmallTypes.ownedTupleIsFree (.ref z) >>= _) _ _ _
  refine wpAny_bind ?_
  unfold Builtin.SmallTypes.ownedTupleIsFree
  refine wpAny_bind (wpAny_field hz rfl (x := .none) rfl (wpAny_pure ?_))
  simp only [if_true]
  refine wpAny_bind (wpAny_rule ?_)
  refine wpAny_bind (wpAny_field hz rfl (x := .ref TO) rfl ?_)
  refine wpAny_bind (wpAny_setField_rec hz (by simp) fun h₁ hz₁ hs₁ => ?_)
  replace hz₁ : IsZip h₁ z TI TO .ellipsis := hz₁
  refine wpAny_bind ?_
  simp only [List.zipIdx_cons, List.zipIdx_nil, List.forIn_cons, List.forIn_nil]
  refine wpAny_bind (wpAny_bind (wpAny_onRaise ?_))
  show wpAny _ _ (Builtin.SmallTypes.nextOf (.ref i1) >>= _) _ _ _
  refine wpAny_bind (D1.done _ _ _ (D1.frame _ _ _ st1 fun c hc o e => hs₁.extBut _ _ (D.f1 c hc).1 e) fun h₂ e hs₂ he => ?_)
  obtain ⟨oe, hoe, hce⟩ := he
  have hz₂ : IsZip h₂ z TI TO .ellipsis := hs₂ _ _ D.i1z.symm hz₁
  have hez : e ≠ z := fun x => by subst x; rw [hz₂] at hoe; cases hoe; simp at hce
  refine wpAny_setField_rec hz₂ (by simp) fun h₃ _ hs₃ => hE h₃ e (fun c o c1 _ c3 _ x => hs₃.extBut _ _ c1 (hs₂ _ _ c3 (hs₁.extBut _ _ c1 x))) ⟨oe, hs₃.extBut _ _ hez hoe, hce⟩
theorem zd_end : ∀ {prog w A E s c d e f g h i j k l a b Q}, @T46 prog w A E s c d e f g h i j k l a b Q := no_implicit_lambda% (u46.get rfl)
end
end
end
section -- N7
section
open PySem.Calls PyProof.V PySem.Spec PyProof.Rows.LCg
theorem meets_zipt (l1 l2 : Addr) (xs ys : Array Value) :
    Meets (Builtin.«zip.__new__» ⟨[.type "zip", .ref l1, .ref l2], []⟩) (fun _ R s => s.heap.IsTuple l1 xs ∧ s.heap.IsTuple l2 ys ∧
      R (.ok (.ret (.ref (ztH4 s.heap l1 l2).objs.size))) { s with heap := ztH5 s.heap l1 l2 }) :=
  .of_wp fun prog w A R s h => by
    obtain ⟨hp, g, d, tk, os⟩ := s; obtain ⟨hl1, hl2, h⟩ := h
    have hsub := sub_zip
    have hL1 : Heap.IsTuple (Shared.heap ⟨hp, g, d, tk, os⟩) l1 xs := hl1
    have hL2 : Heap.IsTuple (Shared.heap ⟨hp.push { cls := .type "tuple_iterator", data := .fields #[.ref l1, .int 0 0] }, g, d, tk, os⟩) l2 ys := Heap.IsTuple.push hl2 _
    wp_walk using wpAny_pyIter_tuple hL1, wpAny_pyIter_tuple hL2
    exact ⟨_, rfl, h⟩
variable {prog : Program} {w : World} {A : Around} {E : Value → Shared → Prop} {s : Shared} {h₀ : Heap} {L : Addr} {m : Str → Option Value} {env : Env} {news : Led}
theorem u47 : Up 47 := by
  refine u46.step rfl ?_
  k_extra "st"
  iterate 10 k_extra "g"
  intro Q ys xs l2 l1 s E A w prog hl1 hl2 h
  refine callType_new PySem.F.called_zip (by decide) (PySem.F.typeCall_zip_2 _ _) (PySem.F.newCall_zip_2 _ _) (fun obj => PySem.F.args_object_init_3 obj _ _) PySem.F.entry_zip_new
    (meets_zipt l1 l2 xs ys) ⟨hl1, hl2, ?_⟩
  have z1 : (ztH1 s.heap l1).objs.size = s.heap.objs.size + 1 := Heap.size_push ..
  have z2 : (ztH2 s.heap l1 l2).objs.size = s.heap.objs.size + 2 := by rw [Heap.size_push, z1]
  have z3 : (ztH3 s.heap l1 l2).objs.size = s.heap.objs.size + 3 := by rw [Heap.size_push, z2]
  have z4 : (ztH4 s.heap l1 l2).objs.size = s.heap.objs.size + 4 := by rw [Heap.size_push, z3]
  have z5 : (ztH5 s.heap l1 l2).objs.size = s.heap.objs.size + 5 := by rw [Heap.size_push, z4]
  have g5 : (ztH5 s.heap l1 l2).get? (ztH4 s.heap l1 l2).objs.size = some _ := Heap.get?_push_size _ rfl
  have g4 : (ztH5 s.heap l1 l2).get? (ztH3 s.heap l1 l2).objs.size = some _ := Heap.get?_push_of_some _ (Heap.get?_push_size _ rfl)
  have g3 : (ztH5 s.heap l1 l2).get? (ztH2 s.heap l1 l2).objs.size = some _ := Heap.get?_push_of_some _ (Heap.get?_push_of_some _ (Heap.get?_push_size _ rfl))
  have g2 : (ztH5 s.heap l1 l2).get? (ztH1 s.heap l1).objs.size = some _ := Heap.get?_push_of_some _ (Heap.get?_push_of_some _ (Heap.get?_push_of_some _ (Heap.get?_push_size _ rfl)))
  have g1 : (ztH5 s.heap l1 l2).get? s.heap.objs.size = some _ := Heap.get?_push_of_some _ (Heap.get?_push_of_some _ (Heap.get?_push_of_some _ (Heap.get?_push_of_some _ (Heap.get?_push_size _ rfl))))
  show _ ∧ _
  rw [z2, z3, z4] at g5
  rw [z1, z2] at g3
  rw [z3] at g4
  rw [z1] at g2
  rw [z4]
  exact ⟨⟨_, g5, rfl⟩, h _ g5 g3 g4 ⟨_, g1, rfl, rfl⟩ ⟨_, g2, rfl, rfl⟩ z5 fun c o x =>
    Heap.get?_push_of_some _ (Heap.get?_push_of_some _ (Heap.get?_push_of_some _ (Heap.get?_push_of_some _ (Heap.get?_push_of_some _ x))))⟩
theorem call_zipt : ∀ {prog w A E s a b xs ys Q}, @T47 prog w A E s a b xs ys Q := no_implicit_lambda% (u47.get rfl)
theorem walksT_zd {z TI TO i1 i2 : Addr} {fp1 fp2 : List Addr} {n : Nat} {P1 P2 : Nat → Value → Prop} {St1 St2 : Nat → Heap → Prop} (D1 : Draws prog w A.in1 i1 fp1 n P1 St1) (D2 : Draws prog w A.in1 i2 fp2 n P2 St2) (D : ZAp z TI TO i1 i2 fp1 fp2) :
    WalksT prog w A z ([z, TI, TO, i1, i2] ++ (fp1 ++ fp2)) [z, TO, i1, i2] n (fun i vals => ∃ x y, P1 i x ∧ P2 i y ∧ vals = #[x, y])
      (fun i h => IsZip h z TI TO .none ∧ IsPair h TI (.ref i1) (.ref i2) ∧ (∃ a b, IsPair h TO a b) ∧ St1 i h ∧ St2 i h)
      (fun i T h => IsZip h z TI TO (rawInt T) ∧ IsPair h TI (.ref i1) (.ref i2) ∧ (∃ a b, IsPair h TO a b) ∧ St1 (i + 1) h ∧ St2 (i + 1) h ∧ T ≠ z ∧ T ≠ TO ∧ T ≠ i1 ∧ T ≠ i2) where
  sub := fun c hc => List.mem_append_left _ (by simp at hc ⊢; rcases hc with rfl | rfl | rfl | rfl <;> simp)
  frame := fun i h h' hst hk => by
    obtain ⟨hz, hTI, ⟨a, b, hTO⟩, st1, st2⟩ := hst
    exact ⟨hk z (by simp) _ hz, hk TI (by simp) _ hTI, ⟨a, b, hk TO (by simp) _ hTO⟩, D1.frame _ _ _ st1 fun c hc o e => hk c (by simp [hc]) o e, D2.frame _ _ _ st2 fun c hc o e => hk c (by simp [hc]) o e⟩
  item := fun i s Q E hi hst hQ => by
    obtain ⟨hz, hTI, ⟨a, b, hTO⟩, st1, st2⟩ := hst
    have lt : ∀ {c o}, s.heap.get? c = some o → s.heap.objs.size ≠ c := fun e => Nat.ne_of_gt (Heap.lt_size e)
    have hT : s.TypeIs (.ref z) "zip" := ⟨_, hz, rfl⟩
    unfold pyNext
    refine wpAny_bind (wpAny_attempt (wpAny_callSpecial?_slot (name := Str.ofString "__next__") hT PySem.F.slot_zip_next (wpAny_call_entry PySem.F.slot_zip_next hT PySem.F.entry_zip_next
      (zd_item (s := s) D1 D2 D hz hTI hTO st1 st2 hi hi fun h' tk x y p1 p2 a1 a2 a3 a4 a5 hk => wpAny_pure ?_) (PySem.F.args_zip_next_1 _))))
    refine hQ s.heap.objs.size #[x, y] h' tk ⟨_, _, p1, p2, rfl⟩ (Nat.le_refl _) ⟨_, a5, rfl, _, rfl⟩
      ⟨a1, hk _ _ D.TIz D.TITO D.TIi1 D.TIi2 hTI, ⟨_, _, a2⟩, a3, a4, lt hz, lt hTO, (by obtain ⟨_, e⟩ := D1.live _ _ st1; exact lt e), (by obtain ⟨_, e⟩ := D2.live _ _ st2; exact lt e)⟩
      fun c o hc e => hk c o (fun x => hc (by simp [x])) (fun x => hc (by simp [x])) (fun x => hc (by simp [x])) (fun x => hc (by simp [x])) e
  go := fun elts k pos i T s Q E hm hQ => by
    obtain ⟨hz, hTI, ⟨a, b, hTO⟩, st1, st2, _⟩ := hm
    refine wpAny_letOwnedTupleGo_zip hz fun h' hz' hs' => hQ h' ⟨hz', hs'.extBut _ _ D.TIz hTI, ⟨a, b, hs'.extBut _ _ D.TOz hTO⟩, D1.frame _ _ _ st1 fun c hc o e => hs'.extBut _ _ (D.f1 c hc).1 e, D2.frame _ _ _ st2 fun c hc o e => hs'.extBut _ _ (D.f2 c hc).1 e⟩
      fun c o hc e => hs'.extBut _ _ (fun x => hc (by simp [x])) e
  apart := fun i T h hm hT => by
    obtain ⟨_, _, _, _, _, t1, t2, t3, t4⟩ := hm
    simp at hT
    rcases hT with rfl | rfl | rfl | rfl
    · exact t1 rfl
    · exact t2 rfl
    · exact t3 rfl
    · exact t4 rfl
  done := fun s Q E hst hQ => by
    obtain ⟨hz, hTI, ⟨a, b, hTO⟩, st1, st2⟩ := hst
    have hT : s.TypeIs (.ref z) "zip" := ⟨_, hz, rfl⟩
    unfold pyNext
    refine wpAny_bind (wpAny_attempt (wpAny_callSpecial?_slot (name := Str.ofString "__next__") hT PySem.F.slot_zip_next
      (wpAny_call_entry PySem.F.slot_zip_next hT PySem.F.entry_zip_next (zd_end (s := s) D1 D hz hTI hTO st1 fun h' e hk he => ?_) (PySem.F.args_zip_next_1 _))))
    obtain ⟨o, ho, hc⟩ := he
    refine wpAny_bind (wpAny_isInstance (T := "StopIteration") (b := true) ⟨o, ho, hc⟩ isSubtype_stop ?_)
    refine wpAny_pure (hQ _ _ fun c o hc e => hk c o (fun x => hc (by simp [x])) (fun x => hc (by simp [x])) (fun x => hc (by simp [x])) (fun x => hc (by simp [x])) e)
  self := fun i s Q E hst hQ => wpAny_pyIter_zip hst.1 hQ
theorem u48 : Up 48 := by
  refine u47.step rfl ?_
  k_extra "st"
  iterate 18 k_extra "g"
  intro R n2 n1 ys xs lo2 lo1 l2 l1 news m L h₀ s E A w prog hh F N hm1 hc1 hd1 hm2 hc2 hd2 hxy h
  have hax1 := N _ hm1
  have hax2 := N _ hm2
  have hl1 : s.heap.IsTuple l1 xs := ⟨lo1, hax1.1, hc1, n1, hd1⟩
  have hl2 : s.heap.IsTuple l2 ys := ⟨lo2, hax2.1, hc2, n2, hd2⟩
  have hlt1 : l1 < s.heap.objs.size := Heap.lt_size hax1.1
  have hlt2 : l2 < s.heap.objs.size := Heap.lt_size hax2.1
  have hLs : L < s.heap.objs.size := F.ns.lt
  have D := ktu_apart s.heap.objs.size l1 l2 hlt1 hlt2
  have ap : ZAp (s.heap.objs.size + 4) (s.heap.objs.size + 2) (s.heap.objs.size + 3) s.heap.objs.size (s.heap.objs.size + 1) [s.heap.objs.size, l1] [s.heap.objs.size + 1, l2] :=
    ⟨D.TIz, D.TOz, D.i1z, D.i2z, D.TITO, D.TIi1, D.TIi2, D.TOi1, D.TOi2, D.i12, fun b hb => by
      have hb' : b = s.heap.objs.size ∨ b = l1 := by simpa using hb
      rcases hb' with e | e
      · rw [e]; exact ⟨D.i1z, D.TOi1.symm, D.i12⟩
      · rw [e]; exact ⟨D.l1z, D.l1TO, D.l1i2⟩, fun b hb => by
      have hb' : b = s.heap.objs.size + 1 ∨ b = l2 := by simpa using hb
      rcases hb' with e | e
      · rw [e]; exact ⟨D.i2z, D.TOi2.symm, D.i12.symm⟩
      · rw [e]; exact ⟨D.l2z, D.l2TO, D.l2i1⟩⟩
  have D1 := draws_tuple (prog := prog) (w := w) (A := A.in1) hh s.heap.objs.size l1 (Nat.ne_of_lt hlt1) xs
  rw [hxy] at D1
  have W := walksT_zd D1 (draws_tuple (prog := prog) (w := w) (A := A.in1) hh (s.heap.objs.size + 1) l2 (Nat.ne_of_lt (Nat.lt_succ_of_lt hlt2)) ys) ap
  refine call_zipt hl1 hl2 fun h' hz hTI hTO hi1 hi2 hsz hk => ?_
  refine wpAny_pyIter_zip hz ?_
  refine h _ _ _ _ _ _ fun elts k pos => ⟨KTurns.ofWalksU W.toU, ?_, ?_, ?_, ?_, F.keeps hk, N.grown hk, ?_, ?_, fun i h st b hb => ?_⟩
  · rintro s' Q E ⟨hz', _⟩ q
    exact wpAny_pyIter_zip hz' q
  · exact ⟨hz, hTI, ⟨_, _, hTO⟩, ⟨hi1, hl1.at fun o e => hk _ _ e⟩, ⟨hi2, hl2.at fun o e => hk _ _ e⟩⟩
  · intro b hb
    show b < h'.objs.size
    rw [hsz]
    have hb' : b = s.heap.objs.size + 4 ∨ b = s.heap.objs.size + 2 ∨ b = s.heap.objs.size + 3 ∨ b = s.heap.objs.size ∨ b = s.heap.objs.size + 1 ∨ b = s.heap.objs.size ∨ b = l1 ∨ b = s.heap.objs.size + 1 ∨ b = l2 := by simpa using hb
    rcases hb' with e | e | e | e | e | e | e | e | e
    · rw [e]; exact Nat.lt_succ_self _
    · rw [e]; exact Nat.add_lt_add_left (by decide) _
    · rw [e]; exact Nat.add_lt_add_left (by decide) _
    · rw [e]; exact Nat.lt_add_of_pos_right (by decide)
    · rw [e]; exact Nat.add_lt_add_left (by decide) _
    · rw [e]; exact Nat.lt_add_of_pos_right (by decide)
    · rw [e]; exact Nat.lt_of_lt_of_le hlt1 (Nat.le_add_right _ _)
    · rw [e]; exact Nat.add_lt_add_left (by decide) _
    · rw [e]; exact Nat.lt_of_lt_of_le hlt2 (Nat.le_add_right _ _)
  · intro b hb
    have hb' : b = s.heap.objs.size + 4 ∨ b = s.heap.objs.size + 3 ∨ b = s.heap.objs.size ∨ b = s.heap.objs.size + 1 := by simpa using hb
    rcases hb' with rfl | rfl | rfl | rfl
    · exact ktu_new F (Nat.le_add_right _ _)
    · exact ktu_new F (Nat.le_add_right _ _)
    · exact ktu_new F (Nat.le_refl _)
    · exact ktu_new F (Nat.le_add_right _ _)
  · intro p hp hb
    have hlt := Heap.lt_size (N p hp).1
    have hb' : p.1 = s.heap.objs.size + 4 ∨ p.1 = s.heap.objs.size + 3 ∨ p.1 = s.heap.objs.size ∨ p.1 = s.heap.objs.size + 1 := by simpa using hb
    rcases hb' with e | e | e | e
    · rw [e] at hlt; exact absurd hlt (Nat.not_lt.mpr (Nat.le_add_right _ _))
    · rw [e] at hlt; exact absurd hlt (Nat.not_lt.mpr (Nat.le_add_right _ _))
    · rw [e] at hlt; exact absurd hlt (Nat.lt_irrefl _)
    · rw [e] at hlt; exact absurd hlt (Nat.not_lt.mpr (Nat.le_add_right _ _))
  · intro hb
    have hb' : L = s.heap.objs.size + 4 ∨ L = s.heap.objs.size + 2 ∨ L = s.heap.objs.size + 3 ∨ L = s.heap.objs.size ∨ L = s.heap.objs.size + 1 ∨ L = s.heap.objs.size ∨ L = l1 ∨ L = s.heap.objs.size + 1 ∨ L = l2 := by simpa using hb
    rcases hb' with e | e | e | e | e | e | e | e | e
    · rw [e] at hLs; exact absurd hLs (Nat.not_lt.mpr (Nat.le_add_right _ _))
    · rw [e] at hLs; exact absurd hLs (Nat.not_lt.mpr (Nat.le_add_right _ _))
    · rw [e] at hLs; exact absurd hLs (Nat.not_lt.mpr (Nat.le_add_right _ _))
    · rw [e] at hLs; exact absurd hLs (Nat.lt_irrefl _)
    · rw [e] at hLs; exact absurd hLs (Nat.not_lt.mpr (Nat.le_add_right _ _))
    · rw [e] at hLs; exact absurd hLs (Nat.lt_irrefl _)
    · exact hax1.2.1 e.symm
    · rw [e] at hLs; exact absurd hLs (Nat.not_lt.mpr (Nat.le_add_right _ _))
    · exact hax2.2.1 e.symm
  · obtain ⟨hz, _, ⟨x, y, hTO⟩, st1, st2⟩ := st
    have hb' : b = s.heap.objs.size + 4 ∨ b = s.heap.objs.size + 3 ∨ b = s.heap.objs.size ∨ b = s.heap.objs.size + 1 := by simpa using hb
    rcases hb' with rfl | rfl | rfl | rfl
    · exact ⟨_, hz⟩
    · exact ⟨_, hTO⟩
    · exact D1.live _ _ st1
    · exact (draws_tuple (prog := prog) (w := w) (A := A.in1) hh (s.heap.objs.size + 1) l2 (Nat.ne_of_lt (Nat.lt_succ_of_lt hlt2)) ys).live _ _ st2
theorem src_zipt : ∀ {prog w A E s h₀ L m news a b c d xs ys e f R}, @T48 prog w A E s h₀ L m news a b c d xs ys e f R := no_implicit_lambda% (u48.get rfl)
end
end
section -- N8
section
open PySem.Calls PyProof.V PySem.Spec PyProof.Rows.LCg
variable {prog : Program} {w : World} {A : Around} {E : Value → Shared → Prop} {s : Shared} {h₀ : Heap} {L : Addr} {m : Str → Option Value} {env : Env} {news : Led}
theorem map_ints {f : Int → Int} {ns : List Int} {its : Array Value} {elt i0 : PySem.Expr} {x : Str} {px : Pos} {scope : Scope} {cl : List (Str × Addr)} {pos : Pos} {s₂ : Shared} {I : Addr} {fp wr : List Addr} {Md : Nat → Value → Heap → Prop} {St : Nat → Heap → Prop} {Fin : Shared → List Value → Led → Prop}
    (hkind : scope.kind = .function) (hx : scope.names.lookup x = some .local) (S : ∀ target, SrcW prog w A h₀ L m target I fp wr its.size (fun i v _ => its[i]? = some v) Md St news s₂) (hi : IntsAre its.toList ns) (hz : ns.length < 1000)
    (step : ∀ n t C D h₁ tk₁ ys mC oC tl (E' : Value → Shared → Prop) (Q' : Value → Shared → Prop), n ∈ ns → mC x = some (.int n t) → NsObj oC mC → OffCD C D wr news → C ≠ D → Fr h₀ L h₁ m → News h₀ L h₁ ((C, oC) :: (D, lst ys) :: (news ++ tl)) →
      (∀ t tk, Q' (.int (f n) t) { s₂ with heap := h₁, toks := tk }) → wpAny (model prog w) A (eval elt (compEnvC scope cl C env)) Q' E' { s₂ with heap := h₁, toks := tk₁ })
    (fin : ∀ ys, IntsAre ys (ns.map f) → Fin s₂ ys news) : SrcJ prog w A h₀ L m env (.ListComp elt [⟨.Name x px, i0, [], 0⟩] scope pos) scope cl Fin (.ref I) s₂ := by
  have hl : its.size = ns.length := by rw [← Array.length_toList, hi.length]
  refine srcj_one1 hkind hx (S _) (fun i v => its[i]? = some v) (fun i v _ h => h) (fun i ys nw => nw = news ∧ i ≤ its.size ∧ IntsAre ys ((ns.take i).map f)) ⟨rfl, Nat.zero_le _, .nil⟩ ?_ ?_ ?_
  · rintro i ys nw ⟨rfl, hi', h⟩
    have e := h.length
    rw [List.length_map, List.length_take] at e
    rw [sizeLine_eq]
    omega
  · rintro i v C D h₁ tk₁ ys mC oC nw tl E' hin hv ⟨rfl, hi', hys⟩ hxv hC ho hCD F₁ N₁ htl hlv
    obtain ⟨n, t, rfl, hn⟩ := hi.at i v (by simpa using hv)
    refine step n t C D h₁ tk₁ ys mC oC tl E' _ (List.mem_of_getElem? hn) hxv hC ho hCD F₁ N₁ fun t' tk' => ?_
    refine ⟨h₁, tk', mC, oC, nw, rfl, F₁, hC, N₁, ho, rfl, hin, ?_⟩
    rw [List.take_add_one, hn]
    simp only [Option.toList_some, List.map_append, List.map_cons, List.map_nil]
    exact IntsAre.append hys (.cons _ _ .nil)
  · rintro ys nw ⟨rfl, _, h⟩
    rw [hl, List.take_length] at h
    exact fin ys h
end
end
section -- P0
section
open PySem.Calls
variable {prog : Program} {w : World} {A : Around} {E : Value → Shared → Prop} {s : Shared} {h₀ : Heap} {L : Addr} {m : Str → Option Value} {news : Led} {g : Obj → Led}
theorem iter_list {ax : Addr} {its : Array Value} {n : Nat} {Q : Value → Shared → Prop} (F : Fr h₀ L s.heap m) (N : News h₀ L s.heap news) (hm : (ax, W.listOf its n) ∈ news)
    (h : ∀ I h', Fr h₀ L h' m → News h₀ L h' ((I, litObj ax 0) :: news) → (∀ p ∈ news, p.1 < I) → Q (.ref I) { s with heap := h' }) :
    wpAny (model prog w) A (call (.builtin "iter") [.ref ax]) Q E s := by
  refine call_function_entry (by decide +kernel) (by decide +kernel) kdk_entry_iter (kdk_args_iter _) ?_
  unfold Builtin.«iter»
  refine wpAny_bind (m := someArgs "iter" 1 2 _) (wpAny_of_eq (a := [Value.ref ax]) (by first | rfl | kernel_rfl!) ?_)
  show wpAny _ _ (pyIter (.ref ax) >>= _) _ _ _
  refine wpAny_bind (wpAny_pyIter_list (N.isList hm) ?_)
  exact wpAny_pure ⟨_, rfl, h _ _ (F.push _) (News.push F N _ rfl) fun q hq => Heap.lt_size (N q hq).1⟩
theorem u49 : Up 49 := by
  refine u48.step rfl ?_
  k_extra "st"
  iterate 17 k_extra "g"
  intro Q x n its i ax it g news m L h₀ s E A w prog F N U hm hx h
  obtain ⟨pre, post, rfl, hg, a, b⟩ := U.split
  have ho := N (it, litObj ax i) (by simp)
  have hit : s.heap.IsListIter it ax i := ⟨_, ho.1, rfl, rfl⟩
  have hl : s.heap.IsList ax its := N.isList hm
  obtain ⟨U1, U2⟩ := news_upd (f := Obj.mapFields (·.setIfInBounds 1 (rawInt ((i : Int) + 1)))) F N a b (o' := litObj ax (i + 1)) rfl rfl
  refine call_function_entry (by decide +kernel) (by decide +kernel) kdk_entry_next (kdk_args_next _) ?_
  unfold Builtin.«next»
  refine wpAny_bind (m := someArgs "next" 1 2 _) (wpAny_of_eq (a := [Value.ref it]) (by first | rfl | kernel_rfl!) ?_)
  dsimp only
  refine wpAny_bind (wpAny_specialOf (name := Str.ofString "__next__") hit.typeIs slot_listiter_next.lookup ?_)
  refine wpAny_ite_split (fun hab => absurd hab (by decide)) (fun _ => ?_)
  refine wpAny_bind (wpAny_callSpecial?_slot (name := Str.ofString "__next__") hit.typeIs slot_listiter_next (wpAny_call_entry slot_listiter_next hit.typeIs entry_listiter_next ?_ (args_listiter_next _)))
  obtain ⟨ol, hol, _, nl, hdl⟩ := hl
  show wpAny _ _ (field (.ref it) 0 >>= _) _ _ s
  refine wpAny_bind (wpAny_field ho.1 rfl (x := .ref ax) rfl ?_)
  show wpAny _ _ (if (Value.ref ax == Value.none) = true then _ else _) _ _ s
  rw [if_neg (show ¬ ((Value.ref ax == Value.none) = true) from Bool.false_ne_true)]
  show wpAny _ _ (field (.ref it) 1 >>= _) _ _ s
  refine wpAny_bind (wpAny_field ho.1 rfl (x := .int i 0) rfl ?_)
  show wpAny _ _ (seqItems? (.ref ax) >>= _) _ _ s
  refine wpAny_bind (wpAny_seqItems hol hdl ?_)
  simp only [Int.toNat_natCast, hx]
  refine wpAny_bind (wpAny_setField ho.1 rfl (by simp) ?_)
  refine wpAny_pure ⟨_, rfl, ?_⟩
  exact wpAny_pure ⟨_, rfl, h _ U1 (by rw [hg]; exact U2)⟩
theorem tape_next : ∀ {prog w A E s h₀ L m news a b c i its n x Q}, @T49 prog w A E s h₀ L m news a b c i its n x Q := no_implicit_lambda% (u49.get rfl)
theorem u50 : Up 50 := by
  refine u49.step rfl ?_
  k_extra "st"
  iterate 16 k_extra "g"
  intro Q n its i ax it g news m L h₀ s E A w prog hh F N U hm hx h
  obtain ⟨pre, post, rfl, hg, a, b⟩ := U.split
  have ho := N (it, litObj ax i) (by simp)
  have hit : s.heap.IsListIter it ax i := ⟨_, ho.1, rfl, rfl⟩
  have hl : s.heap.IsList ax its := N.isList hm
  obtain ⟨U1, U2⟩ := news_upd (f := Obj.mapFields (·.setIfInBounds 0 .none)) F N a b (o' := { cls := .type "list_iterator", data := .fields #[.none, .int i 0] }) rfl rfl
  have lt : ∀ q ∈ pre ++ (it, ({ cls := .type "list_iterator", data := .fields #[.none, .int i 0] } : Obj)) :: post, q.1 < s.heap.objs.size := fun q hq => by
    rcases List.mem_append.mp hq with hq | hq
    · exact Heap.lt_size (N q (by simp [hq])).1
    · rcases List.mem_cons.mp hq with rfl | hq
      · exact Heap.lt_size ho.1
      · exact Heap.lt_size (N q (by simp [hq])).1
  refine call_function_entry (by decide +kernel) (by decide +kernel) kdk_entry_next (kdk_args_next _) ?_
  unfold Builtin.«next»
  refine wpAny_bind (m := someArgs "next" 1 2 _) (wpAny_of_eq (a := [Value.ref it]) (by first | rfl | kernel_rfl!) ?_)
  dsimp only
  refine wpAny_bind (wpAny_specialOf (name := Str.ofString "__next__") hit.typeIs slot_listiter_next.lookup ?_)
  refine wpAny_ite_split (fun hab => absurd hab (by decide)) (fun _ => ?_)
  refine wpAny_bind (wpAny_callSpecial?_slot (name := Str.ofString "__next__") hit.typeIs slot_listiter_next (wpAny_call_entry slot_listiter_next hit.typeIs entry_listiter_next ?_ (args_listiter_next _)))
  obtain ⟨ol, hol, _, nl, hdl⟩ := hl
  show wpAny _ _ (field (.ref it) 0 >>= _) _ _ s
  refine wpAny_bind (wpAny_field ho.1 rfl (x := .ref ax) rfl ?_)
  show wpAny _ _ (if (Value.ref ax == Value.none) = true then _ else _) _ _ s
  rw [if_neg (show ¬ ((Value.ref ax == Value.none) = true) from Bool.false_ne_true)]
  show wpAny _ _ (field (.ref it) 1 >>= _) _ _ s
  refine wpAny_bind (wpAny_field ho.1 rfl (x := .int i 0) rfl ?_)
  show wpAny _ _ (seqItems? (.ref ax) >>= _) _ _ s
  refine wpAny_bind (wpAny_seqItems hol hdl ?_)
  simp only [Int.toNat_natCast, hx]
  refine wpAny_bind (wpAny_rule (wpAny_bind (wpAny_setField ho.1 rfl (by simp) ?_)))
  show wpAny _ _ (newExc (.type "StopIteration") [] >>= _) _ _ _
  refine wpAny_bind ?_
  simp only [newExc, newTuple]
  refine wpAny_bind (wpAny_newObj_type ?_ (by size_fits))
  refine wpAny_bind (m := firstArgMember _ _) (wpAny_of_eq (a := Value.none) (by first | rfl | (simp only [firstArgMember]; rfl)) ?_)
  refine wpAny_newObj_type ?_ (by size_fits)
  simp only [raiseNew]
  refine wpAny_bind (wpAny_handled ?_)
  first | rw [show A.in1.handled = none from hh] | rw [hh]
  refine wpAny_bind (wpAny_pure (wpAny_throw ?_))
  have hsz : (s.heap.update it (Obj.mapFields (·.setIfInBounds 0 .none))).objs.size = s.heap.objs.size := Heap.size_after_update ..
  have F2 := U1.push nilTup
  have N2 := News.push U1 U2 nilTup
  have N3 := News.push F2 N2 (stopObj (#[Value.ref (s.heap.update it (Obj.mapFields (·.setIfInBounds 0 .none))).objs.size, .none, .none, .none, .bool false, .none] ++ ownMembersOf (.type "StopIteration") []))
  have e : ((s.heap.update it (Obj.mapFields (·.setIfInBounds 0 .none))).push nilTup).objs.size = s.heap.objs.size + 1 := by rw [Heap.size_push, hsz]
  refine h _ (s.heap.update it (Obj.mapFields (·.setIfInBounds 0 .none))).objs.size _ _ { cls := .type "list_iterator", data := .fields #[.none, .int i 0] } (F2.push _) (by rw [hg]; exact N3) ?_ ?_
  · intro q hq
    show q.1 ≠ ((s.heap.update it (Obj.mapFields (·.setIfInBounds 0 .none))).push nilTup).objs.size
    rw [e]
    rcases List.mem_cons.mp hq with rfl | hq
    · show (s.heap.update it (Obj.mapFields (·.setIfInBounds 0 .none))).objs.size ≠ _
      rw [hsz]
      exact Nat.ne_of_lt (Nat.lt_succ_self _)
    · rw [hg] at hq
      exact Nat.ne_of_lt (Nat.lt_succ_of_lt (lt q hq))
  · exact (Array.getElem?_append_left (by simp)).trans rfl
theorem tape_stop : ∀ {prog w A E s h₀ L m news a b c i its n Q}, @T50 prog w A E s h₀ L m news a b c i its n Q := no_implicit_lambda% (u50.get rfl)
end
end
section -- P1
theorem bit63 (x : Int) : Builtin.bitAnd x 63 = x % 64 := bitAnd_m6 x
theorem nat_and64 (x : Nat) : x &&& 64 = 64 * (x / 64 % 2) := by
  have e : x.testBit 6 = decide (x / 64 % 2 = 1) := Nat.testBit_eq_decide_div_mod_eq
  apply Nat.eq_of_testBit_eq
  intro i
  rw [Nat.testBit_and, show (64 : Nat) = 2 ^ 6 by decide, Nat.testBit_two_pow]
  rcases Nat.mod_two_eq_zero_or_one (x / 2 ^ 6) with h | h
  · rw [h, Nat.mul_zero, Nat.zero_testBit]
    by_cases hi : 6 = i
    · subst hi
      rw [e, show x / 64 % 2 = 0 from h]; simp
    · simp [hi]
  · rw [h, Nat.mul_one, Nat.testBit_two_pow]
    by_cases hi : 6 = i
    · subst hi
      rw [e, show x / 64 % 2 = 1 from h]; simp
    · simp [hi]
theorem bit64 {x : Int} (hx : 0 ≤ x) : Builtin.bitAnd x 64 = 64 * (x / 64 % 2) := by
  rw [bitAnd_pp hx (by decide)]
  show ((x.toNat &&& 64 : Nat) : Int) = _
  rw [nat_and64]
  omega
theorem or64 {a q : Int} (ha : 0 ≤ a) (hq : 0 ≤ q ∧ q < 64) : Builtin.bitOr (a * 64) q = a * 64 + q := by
  have h : Builtin.bitAnd (a * 64) q = 0 := by
    rw [bitAnd_pp (by omega) hq.1]
    have e : (a * 64).toNat &&& q.toNat = 0 := by
      apply Nat.eq_of_testBit_eq
      intro i
      rw [Nat.testBit_and, Nat.zero_testBit]
      rcases Nat.lt_or_ge i 6 with h | h
      · have : (a * 64).toNat = a.toNat * 2 ^ 6 := by omega
        rw [this, Nat.testBit_mul_two_pow]
        simp; omega
      · have : q.toNat.testBit i = false := Nat.testBit_lt_two_pow (Nat.lt_of_lt_of_le (by omega : q.toNat < 2 ^ 6) (Nat.pow_le_pow_right (by decide) h))
        rw [this]; simp
    rw [e]; rfl
  rw [bitOr_and, h]; omega
theorem fm (x : Int) {k : Int} (h : 0 ≤ k) : Int.fmod x k = x % k := Int.fmod_eq_emod_of_nonneg x h
theorem fd (x : Int) {k : Int} (h : 0 ≤ k) : Int.fdiv x k = x / k := Int.fdiv_eq_ediv_of_nonneg x h
section
variable {prog : Program} {w : World} {A : Around} {E : Value → Shared → Prop} {s : Shared} {Q : Value → Shared → Prop} {a b c : Int} {t u : Tok}
theorem and_fact (e : Builtin.bitAnd a b = c) (h : Q (.int c s.toks) { s with toks := s.toks + 1 }) : wpAny (model prog w) A (binaryOp .BitAnd (.int a t) (.int b u)) Q E s := and_int (by rw [e]; exact h)
theorem or_fact (e : Builtin.bitOr a b = c) (h : Q (.int c s.toks) { s with toks := s.toks + 1 }) : wpAny (model prog w) A (inplaceOp .BitOr (.int a t) (.int b u)) Q E s := ior_int (by rw [e]; exact h)
theorem shl_fact (e : a * 64 = c) (h0 : 0 ≤ a) (h1 : a < 1000000) (h : Q (.int c s.toks) { s with toks := s.toks + 1 }) : wpAny (model prog w) A (inplaceOp .LShift (.int a t) (.int 6 u)) Q E s :=
  ilshift_int_small (by decide) (by decide) (by omega) (by rw [show (2 : Int) ^ (6 : Int).toNat = 64 by decide, e]; exact h)
end
end
section -- C1
section
open PySem.Calls
variable {prog : Program} {w : World} {A A₀ : Around} {E : Value → Shared → Prop} {s' : Shared} {base g G : Heap} {env : Env} {outer : List Env} {L e : Addr} {oe : Obj} {m : Str → Option Value} {news : Led} {Q : Flow → Shared → Prop} {KF : Frag}
  {p : Program} {loose : List Str} {mean : ExcName → Option Value} {mg mb : Str → Option Value} {hs : List ExceptHandler}
theorem look_X (hA : A.frames = some (env :: outer)) (hf : env.frame = some L) (K : Below A₀ base outer g) (F : Fr g L G m) (R : RaisedX base G (env :: outer) e oe news s'.heap) (hsm : G.UpToSlots s'.heap)
    (k : ∀ h', RaisedX base G (env :: outer) e oe news h' → G.UpToSlots h' → wpAny (model prog w) A (handleBy (.ref e) env hs) Q E { s' with heap := h' }) :
    wpAny (model prog w) A (noteFrame (.ref e) env) (fun _ s₂ => wpAny (model prog w) A (setFlight (.ref e) none) (fun _ s₃ => wpAny (model prog w) A (handleBy (.ref e) env hs) Q E s₃) E s₂) E s' := by
  obtain ⟨B, hB, hBG, hl, f1, f2, f3, f4⟩ := R
  refine trail_note hA f3 hf f4 f1 f2 fun h₁ x1 x2 x3 x4 => ?_
  refine trail_land x1 x2 x3 fun h₂ y1 y2 y3 y4 => ?_
  exact k h₂ ⟨B, hB, hBG, hl, y1, f2, y2, y3⟩ (hsm.trans (x4.trans y4))
theorem fm_env (hf : env.frame = some L) (name : Str) (scope : Scope) (a : Addr) (cd : Value) : (env :: outer).filterMap (·.frame) = (envOf name scope L a cd :: outer).filterMap (·.frame) := by
  rw [List.filterMap_cons_some hf, List.filterMap_cons_some (show (envOf name scope L a cd).frame = some L from rfl)]
theorem u51 : Up 51 := by
  refine u50.step rfl ?_
  k_extra "st"
  iterate 12 k_extra "g"
  intro news m oe e L outer env G g base s' A₀ hf K F R hsm D
  obtain ⟨B, hB, hBG, hl, f1, f2, f3, vs, T, oT, ts, he, h1, hnT, hTe, hT, hdT, h3⟩ := R
  have hL : B.get? L = none := by
    obtain ⟨_, ⟨L', _, hf', hn', _⟩, _⟩ := f3
    rw [hf] at hf'
    obtain rfl : L = L' := Option.some.inj hf'
    exact hn'
  have hBG' : ∀ b o, G.get? b = some o → b ∉ (envOf (Str.ofString "x") default L 0 .none :: outer).filterMap (·.frame) → B.get? b = some o := by
    rw [← fm_env (outer := outer) hf]; exact hBG
  obtain ⟨g', T', F', K'⟩ := kts_ground (name := Str.ofString "x") (scope := default) (a := 0) (cd := .none) K F hBG' f1 hsm
  have ne' : g'.get? e = none := T'.none_ _ (kts_fresh (name := Str.ofString "x") (scope := default) (a := 0) (cd := .none) F hBG' f2 fun o ho mm => by
    obtain ⟨_, o', ho', hd⟩ := K.frames.mem mm
    rw [ho] at ho'
    cases ho'
    obtain ⟨sl, hs⟩ := hsm _ _ (F.keep _ _ ho) hd
    rw [he] at hs
    injection hs with hs
    have hs' := congrArg Obj.data hs
    exact hd vs hs'.symm)
  refine ⟨g', vs, F', K', fun q hq => ?_, D.turn T'⟩
  rcases List.mem_cons.mp hq with rfl | hq
  · refine ⟨he, fun q => ?_, ne'⟩
    obtain ⟨oL, es, ep, hoL, hdL, _⟩ := F'.ns
    have q' : e = L := q
    rw [← q', he] at hoL
    injection hoL with hoL
    have := congrArg Obj.data hoL
    rw [hdL] at this
    cases this
  · exact ⟨f1 _ _ (hl q hq).1, (fun z => by have := (hl q hq).1; rw [z, hL] at this; cases this), T'.none_ _ (kts_none F.keep (hl q hq).2.1)⟩
theorem ground_X : ∀ {a s' base b c env outer L e oe m news}, @T51 a s' base b c env outer L e oe m news := no_implicit_lambda% (u51.get rfl)
theorem RaisedX.ty {M : Model} {l : List Env} {h : Heap} {C : Value} (R : RaisedX base G l e oe news h) (hc : oe.cls = C) : Looks M h (typeOf (.ref e)) C := by
  obtain ⟨B, hB, hBG, hl, f1, f2, f3, vs, T, oT, ts, he, _⟩ := R
  subst hc
  exact (Looks.ld he).andThen .now
theorem pass_X {cls c : Value} {t : PySem.Expr} {nm : Option Str} {body : List Stmt} {pos : Pos} {rest : List ExceptHandler} (hf : env.frame = some L) (K : Below A₀ base outer g) (F : Fr g L G m) (R : RaisedX base G (env :: outer) e oe news s'.heap) (hsm : G.UpToSlots s'.heap) (D : KtsDicts (outer.filterMap (·.frame)) g)
    (XB : KF.In base) (TB : Top p loose mean mg mb base) (ct : ClassAt prog w KF p loose mg mb env L t c) (hc : oe.cls = cls) (hx : exmOne KF cls c = some false)
    (k : wpAny (model prog w) A (handleBy (.ref e) env rest) Q E s') :
    wpAny (model prog w) A (handleBy (.ref e) env (.ExceptHandler (some t) nm body pos :: rest)) Q E s' := by
  obtain ⟨g', vs, F', K', N', D'⟩ := ground_X hf K F R hsm D
  have X' : KF.In g' := XB.keeps K'.stays
  refine wpAny_handleBy_cons (codeAny_handlers_test (ct _ _ _ _ _ _ F' X' (topRead_of (TB.keeps K'.stays)) ?_)) (by intro q; cases q)
  exact (exm_one (X'.keeps F'.keep) (R.ty hc) hx).here k
theorem u52 : Up 52 := by
  refine u51.step rfl ?_
  k_extra "st"
  iterate 31 k_extra "g"
  intro rest pos suite b₀ n t c cls mb mg mean loose p KF Q news m oe e L outer env G g base s' E A₀ A w prog hf hL K F R hsm D XB TB ct hc hx hk hn k
  have hp : (env.scope.kind == .class || (env.scope.kind == .module && env.locals != env.globals)) = false := by rw [hk]; rfl
  obtain ⟨g₁, vs₁, F₁, K₁, N₁, D₁⟩ := ground_X hf K F R hsm D
  have X₁ : KF.In g₁ := XB.keeps K₁.stays
  refine wpAny_handleBy_cons (codeAny_handlers_test (ct _ _ _ _ _ _ F₁ X₁ (topRead_of (TB.keeps K₁.stays)) ?_)) (by intro q; cases q)
  refine (exm_one (X₁.keeps F₁.keep) (R.ty hc) hx).here ?_
  refine codeAny_handlers_suite_as ?_
  obtain ⟨B, hB, hBG, hl, f1, f2, f3, f4⟩ := R
  refine trail_land (fl := .none) f1 f3 f4 fun h₂ y1 y2 y3 y4 => ?_
  obtain ⟨g₂, vs₂, F₂, K₂, N₂, D₂⟩ := ground_X (s' := { s' with heap := h₂ }) hf K F ⟨B, hB, hBG, hl, y1, f2, y2, y3⟩ (hsm.trans y4) D
  have X₂ : KF.In g₂ := XB.keeps K₂.stays
  have T₂ : Top p loose mean mg mb g₂ := TB.keeps K₂.stays
  subst hL
  refine wpAny_storeName_local hn F₂.ns (fun h₃ hn₃ hs₃ => ?_) hp
  refine wpAny_mono (k h₃ g₂ vs₂ _ (F₂.set hn₃ hs₃) (N₂.set hs₃) K₂ X₂ T₂ D₂) (fun f s₄ h₄ => h₄) fun _ _ h => h.elim
theorem catch_as : ∀ {prog w A a E s' base b d env outer L e oe m news Q f p g h i j cls c t n k l o rest}, @T52 prog w A a E s' base b d env outer L e oe m news Q f p g h i j cls c t n k l o rest := no_implicit_lambda% (u52.get rfl)
theorem u53 : Up 53 := by
  refine u52.step rfl ?_
  k_extra "st"
  iterate 30 k_extra "g"
  intro rest pos suite b₀ t c cls mb mg mean loose p KF Q news m oe e L outer env G g base s' E A₀ A w prog hf K F R hsm D XB TB ct hm k
  obtain ⟨g₁, vs₁, F₁, K₁, N₁, D₁⟩ := ground_X hf K F R hsm D
  have X₁ : KF.In g₁ := XB.keeps K₁.stays
  refine wpAny_handleBy_cons (codeAny_handlers_test (ct _ _ _ _ _ _ F₁ X₁ (topRead_of (TB.keeps K₁.stays)) ?_)) (by intro q; cases q)
  refine (hm (X₁.keeps F₁.keep) (R.ty rfl)).here ?_
  refine codeAny_handlers_suite ?_
  obtain ⟨B, hB, hBG, hl, f1, f2, f3, f4⟩ := R
  refine trail_land (fl := .none) f1 f3 f4 fun h₂ y1 y2 y3 y4 => ?_
  exact wpAny_mono (k _ ⟨fun b o e => y1 b o (hB b o e), rfl, rfl⟩) (fun f s₄ h₄ => h₄) fun _ _ h => h.elim
theorem catch_plain : ∀ {prog w A a E s' base b d env outer L e oe m news Q f p g h i j cls c t k l n rest}, @T53 prog w A a E s' base b d env outer L e oe m news Q f p g h i j cls c t k l n rest := no_implicit_lambda% (u53.get rfl)
end
section
open PySem.Calls
variable {prog : Program} {w : World} {A A₀ : Around} {s : Shared} {K : Frag} {L : Addr} {h₀ base : Heap} {m mg mb : Str → Option Value} {news : Led} {p : Program} {loose : List Str} {mean : ExcName → Option Value}
theorem u54 : Up 54 := by
  refine u53.step rfl ?_
  k_extra "st"
  iterate 37 k_extra "g"
  intro binds args f osl od an oc ct cdv pm doc kV dV scope body params qual name R outer env mean loose p news mb mg m base h₀ L K s A₀ A w prog B F X₀ N T hA hf hke D ho hcd hroom hbind hkind hnd h hco hgen hk
  obtain ⟨FG, BG, st, lv⟩ := groundX (R := R) B F N hA hf hke
  have hL := FG.ns
  have DG : KtsDicts ((env :: outer).filterMap (·.frame)) (hideAll s.heap (news.map (·.1))) := by
    rw [List.filterMap_cons_some hf]
    intro b hb
    rcases List.mem_cons.mp hb with rfl | hb
    · obtain ⟨oL, es, ep, hLg, hLd, _⟩ := hL
      exact ⟨oL, es, ep, hLg, hLd⟩
    · obtain ⟨o, es, n, ho', hd'⟩ := D b hb
      exact ⟨o, es, n, st b o ho', hd'⟩
  refine codeAny_call_function hroom ((X₀.keeps F.keep) _ _ ho) rfl hco hgen rfl (codeRec_of (X₀.keeps F.keep) hcd) (hbind _ _ _ _ ?_)
  refine wpAny_newFunctionEnv_cells hk (kindsX hkind _) fun env' he s' x => ?_
  subst he
  refine ⟨(T.nolimit.keeps F.keep).keeps x.toInCall.keep, codeAny_func ?_⟩
  obtain ⟨h₁, tk, rfl, _⟩ := x.done
  have hk₁ := x.toInCall.keep
  obtain ⟨cells, NC, Y⟩ := Cl.news (h₀ := s.heap) (Nat.le_refl _) fun n c hm => ⟨x.cell n c (lookup_of_mem_nodup (cellsFrom_names scope.names 0 (s.heap.objs.size + 1) [] [] rfl ▸ hnd) hm), x.above n c hm⟩
  refine wpAny_mono (h _ s.heap.objs.size h₁ tk cells FG ⟨x.toInCall.ns, fun b o e => hk₁ b o (of_hideAll _ e), Nat.le_of_eq (hideAll_size _ _)⟩ (fun p hp => ?_) Y BG (X₀.keeps st) (T.keeps st) (fun p hp => Heap.lt_size (N p hp).1) DG) (fun fl s' hl => hl) fun _ _ y => y.elim
  rcases List.mem_append.mp hp with hp | hp
  · refine ⟨(NC p hp).1, (NC p hp).2.1, ?_⟩
    cases q : (hideAll s.heap (news.map (·.1))).get? p.1 with
    | none => rfl
    | some o => have := of_hideAll _ q; rw [(NC p hp).2.2] at this; cases this
  · exact ⟨hk₁ _ _ (N p hp).1, Nat.ne_of_lt (Heap.lt_size (N p hp).1), hideAll_none _ (List.mem_map_of_mem hp)⟩
theorem code_free : ∀ {prog w A a s K L h₀ base m b c news p d e env outer R name g h body scope i j k l n o q r od t f u v}, @T54 prog w A a s K L h₀ base m b c news p d e env outer R name g h body scope i j k l n o q r od t f u v := no_implicit_lambda% (u54.get rfl)
end
end
section -- W3
theorem KeysAre.mono {led led' : Led} {vs : List Value} {ks : List (Int × Int)} (h : KeysAre led vs ks) (hs : ∀ v ∈ vs, ∀ a o, v = .ref a → (a, o) ∈ led → (a, o) ∈ led') : KeysAre led' vs ks := by
  induction h with
  | nil => exact .nil
  | cons hm hi hr ih => exact .cons (hs _ List.mem_cons_self _ _ rfl hm) hi (ih fun v hv => hs v (List.mem_cons_of_mem _ hv))
theorem KeysAre.get {led : Led} {vs : List Value} {ks : List (Int × Int)} (h : KeysAre led vs ks) : ∀ (i : Nat) (v : Value), vs[i]? = some v → ∃ a k d t u n, v = .ref a ∧ (a, ({ cls := .type "tuple", data := .seq #[.int k t, .int d u] n } : Obj)) ∈ led ∧ (0 ≤ k ∧ k < 3) ∧ ks[i]? = some (k, d) := by
  induction h with
  | nil => intro i v h; simp at h
  | @cons a k d t u n vs ks hm hi hr ih =>
    intro i v h
    cases i with
    | zero =>
      obtain rfl : Value.ref a = v := by simpa using h
      exact ⟨a, k, d, t, u, n, rfl, hm, hi, rfl⟩
    | succ i => simpa using ih i v (by simpa using h)
theorem KeysAre.len {led : Led} {vs : List Value} {ks : List (Int × Int)} (h : KeysAre led vs ks) : vs.length = ks.length := by
  induction h with
  | nil => rfl
  | cons hm hi hr ih => simp [ih]
section
variable {prog : Program} {w : World} {A : Around} {E : Value → Shared → Prop} {s : Shared} {h₀ : Heap} {L : Addr} {news : Led}
theorem tup_item {value slice : PySem.Expr} {l : Addr} {vs : List Value} {ns : List Int} {n : Nat} {k x : Int} {u : Tok} {Q : Value → Shared → Prop} (N : News h₀ L s.heap news) (hm : (l, ({ cls := .type "tuple", data := .seq vs.toArray n } : Obj)) ∈ news)
    (hi : IntsAre vs ns) (h0 : 0 ≤ k ∧ k < 3) (hx : ns[k.toNat]? = some x) (h : ∀ t, Q (.int x t) s)
    (hs : subscripted slice false (.ref l) (.int k u) = operate [.ref l, .int k u] (getItem (.ref l) (.int k u)) := by with_unfolding_all rfl) : wpAny (model prog w) A (subscriptTail value slice (.ref l) (.int k u)) Q E s := by
  obtain ⟨t, ht⟩ := hi.get _ _ hx
  have hlt : k.toNat < vs.length := (List.getElem?_eq_some_iff.mp ht).1
  refine item_tupleT (l := vs) (j := k.toNat) (News.isTup N hm) (by omega) (by omega) ?_ ht (h t) hs
  have e : seqIndex? k vs.length = some k.toNat := by
    unfold seqIndex?
    have h1 : ¬ k < 0 := by omega
    have h2 : k < (vs.length : Int) := by omega
    simp [h1, h0.1, h2]
  exact e
end
end
end
section -- W14
theorem kw_W14 : True := by
  k_with "o32" => skip
  k_with "o31" => skip
  k_with "exec For Name Call cons nil" => ((fail_if_success k_extra "o49"); ((k_here; refine Stop.at ?_)))
  k_with "loadName" => ((fail_if_success k_extra "o49"); ((k_here; k_dflt (refine' ldn ?Fq3 ?vq3 ?_; (case Fq3 => k_asm); (case vq3 => ktr_rel); k_whole))))
  trivial
section
variable {Q : Value → Shared → Prop} {cn : Str} {cs : Scope} {a : Addr} {ccd : Value} {cl : List (Str × Addr)}

theorem callers_get {kvs : List (Str × Value)} {c : List (Str × Int)} (h : CallersAre kvs c) : ∀ (i : Nat) (k : Str) (v : Value), kvs[i]? = some (k, v) → ∃ n t, v = .int n t ∧ c[i]? = some (k, n) := by
  induction h with
  | nil => intro i k v h; simp at h
  | @cons k' n t kvs c r ih =>
    intro i k v h
    cases i with
    | zero =>
      have e : (k', Value.int n t) = (k, v) := by simpa using h
      injection e with e1 e2
      subst e1 e2
      exact ⟨n, t, rfl, rfl⟩
    | succ i => simpa using ih i k v (by simpa using h)
theorem sumC_take {c : List (Str × Int)} {i : Nat} {k : Str} {n : Int} (h : c[i]? = some (k, n)) : sumC (c.take (i + 1)) = sumC (c.take i) + n := by
  unfold sumC
  rw [List.take_add_one, h, List.map_append, List.sum_append]
  simp
set_option maxRecDepth 100000 in
theorem u55 : Up 55 := by
  refine u54.step rfl ?_
  k_extra "st"
  iterate 26 k_extra "g"
  intro cc ckv oc ac
  k_extra "i1"
  intro B F X N T hk m3 hc lc hcc hdp hun ret
  refine wpAny_call ?_
  k_with "zon" => (fail_if_success k_extra "zf5")
  k_dflt k_enter
  k_with "zf5" => skip
  rename_i FG1 F1 N1 B1 X1 T1
  k_steps
  rename_i h2 F2 N2
  refine Stop.go ?_
  k_dflt (refine For_turns F2 ?_)
  with_unfolding_all ((refine MethodCall_ ?_); (refine ld F2 (by rfl) ?_); (refine kdl_method (knd := PySem.strKind _ _) PySem.F.slot_dict_values PySem.F.type_dict_values N2 m3 hc ?_); (refine callWith_method0 ?_); (refine kta_callValues (knd := PySem.strKind _ _) F2 N2 m3 hc lc ?_))
  intro h' hv F' N'
  refine vals_J (knd := PySem.strKind PG w) (by rfl) F' N' m3 hc hv (JV cc news) ⟨rfl, _, rfl⟩ (fun I i k v m₁ news₁ h₁ tk₁ oI hx hJ hcl ho hdm F₁ N₁ => ?_) (fun h' tk m' news' F' N' hJ => ?_)
  · obtain ⟨rfl, t0, e1⟩ := hJ
    obtain ⟨n, t, rfl, hci⟩ := callers_get hcc i k v hx
    k_steps
    refine ⟨_, _, _, _, rfl, by k_asm, by k_asm, ho, fun q hq => by rw [List.mem_singleton.mp hq]; exact hdm, rfl, ?_⟩
    rw [sumC_take hci]
    exact ⟨_, if_pos rfl⟩
  · obtain ⟨rfl, t0, e1⟩ := hJ
    have e2 : cc.take ckv.length = cc := List.take_of_length_le (by rw [callers_len hcc]; exact Nat.le_refl _)
    rw [e2] at e1
    show wpAny _ _ (execs _ _) _ _ _
    k_steps
    exact ret _ _ _ (by k_asm) (by k_asm)
theorem count_ok : ∀ {w b c d e f g L outer h base h₀ m s E news Q cn i a ccd cl ac j ckv cc}, @T55 w b c d e f g L outer h base h₀ m s E news Q cn i a ccd cl ac j ckv cc := no_implicit_lambda% (u55.get rfl)
theorem CC.sum {cc : List (Str × Int)} {nt nh : Nat} (h : CC cc nt nh) : sumC cc = (nt : Int) + nh := by
  rcases h with ⟨a, b, rfl⟩ | ⟨a, b, rfl⟩ | ⟨a, b, rfl⟩ | ⟨a, b, rfl | rfl⟩ <;> simp [sumC, a, b] <;> omega

end
end
section -- P2
theorem kw_P2 : True := by
  k_with "o49" => skip
  k_with "call builtin:next" => ((fail_if_success k_extra "o50"); ((k_here; (with_reducible show wpAny _ _ (call (Value.builtin "next") [Value.ref _]) _ _ _); k_dflt (refine' tape_next ?Fq4 ?Nq4 ?Uq4 ?mq4 ?xq4 ?_; (case Fq4 | Nq4 => k_asm); (case Uq4 => k_updF); (case mq4 => k_mem); (case xq4 => assumption)); intro _ _ N'z9; (try dsimp only at N'z9))))
  k_with "binaryOp BitAnd int int" => ((fail_if_success k_extra "o50"); ((k_here; k_dflt (refine' and_fact ?eq5 ?_; (case eq5 => assumption); k_whole))))
  k_with "inplaceOp BitOr int int" => ((fail_if_success k_extra "o50"); ((k_here; k_dflt (refine' or_fact ?eq6 ?_; (case eq6 => assumption); k_whole))))
  k_with "inplaceOp LShift int int" => ((fail_if_success k_extra "o50"); ((k_here; k_dflt (refine' shl_fact ?eq7 ?aq7 ?bq7 ?_; (case eq7 => assumption); (case aq7 => omega); (case bq7 => omega); k_whole))))
  k_with "exec While BinOp" => ((fail_if_success k_extra "o50"); ((k_here; refine Stop.at ?_)))
  k_with "exec While" => ((fail_if_success k_extra "o50"); ((k_here; refine Stop.at ?_)))
  trivial
section
variable {Q : Value → Shared → Prop} {cn : Str} {cs : Scope} {a : Addr} {ccd : Value} {cl : List (Str × Addr)}

set_option maxRecDepth 100000 in
theorem u56 : Up 56 := by
  refine u55.step rfl ?_
  k_extra "st"
  iterate 30 k_extra "g"
  intro q0 rest t0 b0 its n i ax it cl ccd a cs cn Q E s m h₀ base A₀ outer L gd un dp mb mg mean w B F X N T hk hr hm x0 a0 c0 hdp hun ret
  refine wpAny_call ?_
  k_with "zon" => (fail_if_success k_extra "zf6")
  k_dflt k_enter
  k_with "zf6" => skip
  k_steps
  refine Stop.go ?_
  refine whl_start 5 ?_
  k_steps
  exact ret _ _ _ (by k_asm) (by k_asm)
theorem pv1 : ∀ {w b c d e f g L outer h base h₀ m s E Q cn j a ccd cl k l i n its o p rest q}, @T56 w b c d e f g L outer h base h₀ m s E Q cn j a ccd cl k l i n its o p rest q := no_implicit_lambda% (u56.get rfl)
set_option maxRecDepth 100000 in
theorem u57 : Up 57 := by
  refine u56.step rfl ?_
  k_extra "st"
  iterate 35 k_extra "g"
  intro w1 v1 q1 q0 rest t1 t0 b1 b0 its n i ax it cl ccd a cs cn Q E s m h₀ base A₀ outer L gd un dp mb mg mean w B F X N T hk hr hm x0 x1 a0 c0 a1 c1 s0 z0 o1 hdp hun ret
  refine wpAny_call ?_
  k_with "zon" => (fail_if_success k_extra "zf7")
  k_dflt k_enter
  k_with "zf7" => skip
  k_steps
  refine Stop.go ?_
  refine whl_start 5 ?_
  k_steps
  exact ret _ _ _ (by k_asm) (by k_asm)
theorem pv2 : ∀ {w b c d e f g L outer h base h₀ m s E Q cn j a ccd cl k l i n its o p q r rest t u v x}, @T57 w b c d e f g L outer h base h₀ m s E Q cn j a ccd cl k l i n its o p q r rest t u v x := no_implicit_lambda% (u57.get rfl)
set_option maxRecDepth 100000 in
theorem u58 : Up 58 := by
  refine u57.step rfl ?_
  k_extra "st"
  iterate 40 k_extra "g"
  intro w2 v2 w1 v1 q2 q1 q0 rest t2 t1 t0 b2 b1 b0 its n i ax it cl ccd a cs cn Q E s m h₀ base A₀ outer L gd un dp mb mg mean w B F X N T hk hr hm x0 x1 x2 a0 c0 a1 c1 a2 c2 s0 z0 o1 s1 z1 o2 hdp hun ret
  refine wpAny_call ?_
  k_with "zon" => (fail_if_success k_extra "zf8")
  k_dflt k_enter
  k_with "zf8" => skip
  k_steps
  refine Stop.go ?_
  refine whl_start 5 ?_
  k_steps
  exact ret _ _ _ (by k_asm) (by k_asm)
theorem pv3 : ∀ {w b c d e f g L outer h base h₀ m s E Q cn j a ccd cl k l i n its o p q r t u rest v x y z a' b' c'}, @T58 w b c d e f g L outer h base h₀ m s E Q cn j a ccd cl k l i n its o p q r t u rest v x y z a' b' c' := no_implicit_lambda% (u58.get rfl)
theorem b64no {q e : Int} (hq : 0 ≤ q ∧ q < 64) (he : 0 ≤ e ∧ e < 2) : Builtin.bitAnd (q + 128 * e) 64 = 0 := by
  rw [bit64 (by omega)]
  rcases (by omega : e = 0 ∨ e = 1) with rfl | rfl <;> omega
theorem b64yes {q e : Int} (hq : 0 ≤ q ∧ q < 64) (he : 0 ≤ e ∧ e < 2) : Builtin.bitAnd (64 + q + 128 * e) 64 = 64 := by
  rw [bit64 (by omega)]
  rcases (by omega : e = 0 ∨ e = 1) with rfl | rfl <;> omega
theorem u59 : Up 59 := by
  refine u58.step rfl ?_
  k_extra "st"
  iterate 30 k_extra "g"
  intro rest x tl ns vs n i ax it cl ccd a cs cn Q E s m h₀ base A₀ outer L gd un dp mb mg mean w B F X N T hk hr hm hi hx hd hdp hun ret
  have get : ∀ j b, (enc x)[j]? = some b → ∃ t, vs.toArray[i + j]? = some (.int b t) := fun j b hb => by
    have h1 : (ns.drop i)[j]? = some b := by rw [hd, List.getElem?_append_left (List.getElem?_eq_some_iff.mp hb).1]; exact hb
    rw [List.getElem?_drop] at h1
    obtain ⟨t, ht⟩ := hi.get _ _ h1
    exact ⟨t, by simpa using ht⟩
  have e2 := fm x (show (0 : Int) ≤ 2 by decide)
  have e64 := fm x (show (0 : Int) ≤ 64 by decide)
  have d64 := fd x (show (0 : Int) ≤ 64 by decide)
  have d4096 := fd x (show (0 : Int) ≤ 4096 by decide)
  have m64 := fm (x / 64) (show (0 : Int) ≤ 64 by decide)
  have h2 : 0 ≤ x % 2 ∧ x % 2 < 2 := by omega
  by_cases c1 : x < 64
  · have ee : enc x = [x % 64 + 128 * (x % 2)] := by unfold enc octs; rw [if_pos c1, e64, e2]; rfl
    obtain ⟨t0, g0⟩ := get 0 _ (by rw [ee]; rfl)
    have a0 : Builtin.bitAnd (x % 64 + 128 * (x % 2)) 63 = x := by rw [bit63]; omega
    have b0 : Builtin.bitAnd (x % 64 + 128 * (x % 2)) 64 = 0 := b64no (by omega) h2
    rw [ee] at ret
    exact pv1 B F X N T hk hr hm g0 a0 b0 hdp hun ret
  · by_cases c2 : x < 4096
    · have ee : enc x = [64 + x / 64 % 64 + 128 * (x % 2), x % 64 + 128 * (x % 2)] := by unfold enc octs; rw [if_neg c1, if_pos c2, e64, e2, d64, m64]; rfl
      obtain ⟨t0, g0⟩ := get 0 _ (by rw [ee]; rfl)
      obtain ⟨t1, g1⟩ := get 1 _ (by rw [ee]; rfl)
      have a0 : Builtin.bitAnd (64 + x / 64 % 64 + 128 * (x % 2)) 63 = x / 64 := by rw [bit63]; omega
      have b0 : Builtin.bitAnd (64 + x / 64 % 64 + 128 * (x % 2)) 64 = 64 := b64yes (by omega) h2
      have a1 : Builtin.bitAnd (x % 64 + 128 * (x % 2)) 63 = x % 64 := by rw [bit63]; omega
      have b1 : Builtin.bitAnd (x % 64 + 128 * (x % 2)) 64 = 0 := b64no (by omega) h2
      have o1 : Builtin.bitOr (x / 64 * 64) (x % 64) = x := by rw [or64 (by omega) (by omega)]; omega
      rw [ee] at ret
      exact pv2 B F X N T hk hr hm g0 g1 a0 b0 a1 b1 rfl (by omega) o1 hdp hun ret
    · have ee : enc x = [64 + x / 4096 + 128 * (x % 2), 64 + x / 64 % 64 + 128 * (x % 2), x % 64 + 128 * (x % 2)] := by unfold enc octs; rw [if_neg c1, if_neg c2, e64, e2, d64, m64, d4096]; rfl
      obtain ⟨t0, g0⟩ := get 0 _ (by rw [ee]; rfl)
      obtain ⟨t1, g1⟩ := get 1 _ (by rw [ee]; rfl)
      obtain ⟨t2, g2⟩ := get 2 _ (by rw [ee]; rfl)
      have a0 : Builtin.bitAnd (64 + x / 4096 + 128 * (x % 2)) 63 = x / 4096 := by rw [bit63]; omega
      have b0 : Builtin.bitAnd (64 + x / 4096 + 128 * (x % 2)) 64 = 64 := b64yes (by omega) h2
      have a1 : Builtin.bitAnd (64 + x / 64 % 64 + 128 * (x % 2)) 63 = x / 64 % 64 := by rw [bit63]; omega
      have b1 : Builtin.bitAnd (64 + x / 64 % 64 + 128 * (x % 2)) 64 = 64 := b64yes (by omega) h2
      have a2 : Builtin.bitAnd (x % 64 + 128 * (x % 2)) 63 = x % 64 := by rw [bit63]; omega
      have b2 : Builtin.bitAnd (x % 64 + 128 * (x % 2)) 64 = 0 := b64no (by omega) h2
      have o1 : Builtin.bitOr (x / 4096 * 64) (x / 64 % 64) = x / 64 := by rw [or64 (by omega) (by omega)]; omega
      have o2 : Builtin.bitOr (x / 64 * 64) (x % 64) = x := by rw [or64 (by omega) (by omega)]; omega
      rw [ee] at ret
      exact pv3 B F X N T hk hr hm g0 g1 g2 a0 b0 a1 b1 a2 b2 rfl (by omega) o1 rfl (by omega) o2 hdp hun ret

theorem parse_ok : ∀ {w b c d e f g L outer h base h₀ m s E Q cn j a ccd cl k l i n vs ns tl x rest}, @T59 w b c d e f g L outer h base h₀ m s E Q cn j a ccd cl k l i n vs ns tl x rest := no_implicit_lambda% (u59.get rfl)
end
end
section -- P3
theorem kw_P3 : True := by
  k_with "o50" => skip
  k_with "call builtin:next" => ((fail_if_success k_extra "o51"); ((k_here; (with_reducible show wpAny _ _ (call (Value.builtin "next") [Value.ref _]) _ _ _); k_dflt (refine' tape_stop ?hhq8 ?Fq8 ?Nq8 ?Uq8 ?mq8 ?xq8 ?_; (case hhq8 => rfl); (case Fq8 | Nq8 => k_asm); (case Uq8 => k_updF); (case mq8 => k_mem); (case xq8 => assumption)); intro _ _ _ _ _ _ N'z9 _ _; (try dsimp only at N'z9))))
  trivial
theorem leave_raiseS' {M : Model} {A : Around} {E : Value → Shared → Prop} {s' : Shared} {base g : Heap} {outer : List Env} {L a e : Addr} {m : Str → Option Value} {name : Str} {scope : Scope} {cd : Value} {Q : Unit → Shared → Prop} {news : Led} {vs : Array Value}
    (K : Below A base outer g) (F : Fr g L s'.heap m) (N : News g L s'.heap ((e, stopObj vs) :: news)) (hne : ∀ q ∈ news, q.1 ≠ e) (h1 : vs[1]? = some .none)
    (hQ : ∀ h', RaisedX base g outer e (stopObj vs) news h' → g.UpToSlots h' → Q () { s' with heap := h' }) (hk : scope.kind = .function := by rfl) :
    wpAny M (A.deeper (envOf name scope L a cd)) (leaving (envOf name scope L a cd) (.ref e)) Q E s' :=
  leave_raiseX (oe := stopObj vs) K F N hne h1 hQ hk
section
variable {Q : Value → Shared → Prop} {cn : Str} {cs : Scope} {a : Addr} {ccd : Value} {cl : List (Str × Addr)}
set_option maxRecDepth 100000 in
theorem parse_stop {it ax : Addr} {i n : Nat} {its : Array Value} {rest : Led}
    (B : Below A₀ base outer h₀) (F : Fr h₀ L s.heap m) (X : (h0.heap_1 w.params).In h₀) (N : News h₀ L s.heap ((it, litObj ax i) :: rest)) (T : TopX mean mg mb h₀) (hk : cs.kind = .function)
    (hr : ∀ q ∈ rest, q.1 ≠ it) (hm : (ax, W.listOf its n) ∈ rest) (hx : its[i]? = none)
    (hdp : dp + 8 < recursionLimit) (hun : un + 80 < cLine)
    (exc : ∀ e vs nw G h' tk', Fr h₀ L G m → RaisedX base G (envX cn cs L a ccd cl :: outer) e (stopObj vs) nw h' → G.UpToSlots h' → E (.ref e) { s with heap := h', toks := tk' }) :
    wpAny (model PG w) (ktrTop dp un gd cn cs L a ccd cl outer) (call (.ref 68) [.ref it]) Q E s := by
  refine wpAny_call ?_
  k_dflt k_enter
  k_steps
  k_dflt (refine' leave_raiseS' ?K ?F ?N ?ne ?h1 ?_)
  case N => k_asm
  case K => k_asm
  case F => k_asm
  case ne => assumption
  case h1 => assumption
  intro h' R' U'
  exact exc _ _ _ _ _ _ (by assumption) R' U'

end
end
section -- B1r
theorem kw_B1r : True := by
  k_with "o51" => skip
  k_with "call ref" => ((fail_if_success k_extra "o52"); (((k_here; (with_reducible show wpAny _ _ (call (Value.ref 61) _ _) _ _ _); k_dflt (refine' gni_ok ?Bqx ?Fqx ?Xqx ?Nqx ?Tqx ?hkqx ?Uqx ?hmtqx ?hneqx ?htqx ?hp0qx ?hxqx ?hltqx ?havqx ?hdpqx ?hunqx ?_; (case Bqx | Fqx => k_asm); (case Xqx | Nqx | Tqx => k_asm); (case hkqx => first | exact rfl | assumption); (case Uqx => k_updF); (case hmtqx => k_mem); (case hneqx => k_ne); (case htqx | hp0qx => assumption); (case hxqx | hltqx | havqx => assumption); (case hdpqx => ktr_room); (case hunqx => ktr_units); intro _ _ _ _ _ _ _ l1; (try k_lt l1); (try k_sweep); (try dsimp only))); (try (revert l1; intro _)))))
  k_with "call ref" => ((fail_if_success k_extra "o52"); ((((k_here; (with_reducible show wpAny _ _ (call (Value.ref 103) _ _) _ _ _); k_dflt (refine' afs_ok ?Bqy ?Fqy ?Xqy ?Nqy ?Tqy ?hkqy ?m2qy ?m5qy ?m3qy ?hcqy ?lcqy ?hccqy ?zcqy ?ncqy ?m4qy ?hclqy ?lclqy ?hdpqy ?hunqy ?_; (case Bqy | Fqy => k_asm); (case Xqy | Nqy | Tqy => k_asm); (case hkqy => first | exact rfl | assumption); (case m2qy | m5qy | m3qy => k_mem); (case hcqy | lcqy => assumption); (case hccqy | zcqy | ncqy => assumption); (case m4qy => k_mem); (case hclqy | lclqy => assumption); (case hdpqy => ktr_room); (case hunqy => ktr_units); intro _ _ _ _ _ _ _ _ _ _ _ _ _ _ _ l1 l2; (try k_lt2 l2); (try k_lt l1); (try k_sweep); (try dsimp only))); (try (revert l1; intro _))); (try (revert l2; intro _)))))
  trivial
section

set_option maxRecDepth 100000 in
set_option maxHeartbeats 1000000 in
theorem hop1r {aw aat ad ab aas atab : Addr} {ow : Obj} {p x : Int} {tp : Tok} {nt nas : Nat} {gv : Value} {rest : Led} {tvs : List Value} {tns : List Int} {avs : Array Value}
    (B : Below A₀ base outer h₀) (F : Fr h₀ L s.heap m) (X : (h0.heap_1 w.params).In h₀) (N : News h₀ L s.heap ((aas, W.listOf avs nas) :: rest)) (T : TopX mean mg mb h₀) (hdp : dp + 20 < recursionLimit) (hun : un + 200 < cLine)
    (v1 : m (Str.ofString "walk") = some (.ref aw)) (v2 : m (Str.ofString "place") = some (.int p tp)) (v3 : m (Str.ofString "table") = some (.ref atab)) (v4 : m (Str.ofString "book") = some (.ref ab))
    (hr : ∀ q ∈ rest, q.1 ≠ aas)
    (mwalk : (aw, ow) ∈ rest) (hw : ow.IsDictOf (strKind PG w) [(Str.ofString "at", .ref aat), (Str.ofString "dots", .ref ad), (Str.ofString "book", .ref ab), (Str.ofString "asked", .ref aas), (Str.ofString "good", gv)])
    (mt : (atab, W.listOf tvs.toArray nt) ∈ rest) (ht : IntsAre tvs tns) (hx : tns[p.toNat]? = some x) (hp0 : 0 ≤ p ∧ p < 6) (hlt : ¬ Int.fmod x 7 < 6) (hav : avs.size < 100)
    (exc : ∀ e C D es n vs sl na' G h' tk', RefIs ab p C es → Fr h₀ L G m → RaisedX base G (envH L :: outer) e ⟨.ref C, some D, .fields vs, sl⟩ ((D, dictOf es n) :: (aas, W.listOf (avs.push (.int p tp)) na') :: rest) h' → G.UpToSlots h' → E (.ref e) { s with heap := h', toks := tk' }) :
    wpAny (model PG w) (arH dp un gd L outer) (exec (hopB.getD 1 default) (envH L)) Q E s := by
  refine cut_exec (l' := Stmt.Assign [_] _ _) (env' := envOfC (Str.ofString "_law_hop") ⟨_, _, _, _, _⟩ L 233 (.ref 232)) rfl rfl ?_
  k_steps
  refine' gni_rh ?B ?F ?X ?N ?T ?hk ?hr ?hmt ?ht ?hp0 ?hx ?hlt ?hav ?hdp ?hun ?_
  case B => k_asm
  case F => k_asm
  case X => k_asm
  case N => k_asm
  case T => k_asm
  case hk => exact rfl
  case hr => assumption
  case hmt => k_mem
  case ht => assumption
  case hp0 => assumption
  case hx => assumption
  case hlt => assumption
  case hav => assumption
  case hdp => ktr_room
  case hun => ktr_units
  intro e C D es n vs sl na' G h' tk' hR hF hX hU
  exact exc _ _ _ _ _ _ _ _ _ _ _ hR hF hX hU

end
end
section -- W4
theorem kw_W4 : True := by
  k_with "o52" => skip
  trivial
section
variable {Q : Value → Shared → Prop} {cn : Str} {cs : Scope} {a : Addr} {ccd : Value} {cl : List (Str × Addr)}

theorem sub_skip1 {x : Addr × Obj} {l : Led} : ∀ p ∈ l, p ∈ x :: l := fun p hp => List.mem_cons_of_mem _ hp
set_option maxRecDepth 100000 in
theorem u60 : Up 60 := by
  refine u59.step rfl ?_
  k_extra "st"
  iterate 38 k_extra "g"
  intro n2 n1 nl ys xs ks vy vx vs tkc hsh a2 a1 al Dj aj
  k_extra "i1"
  intro B F X N T hk mj mD ml hks m1 hx m2 hy lx ly hdp hun ret
  refine wpAny_call ?_
  k_with "zon" => (fail_if_success k_extra "zf9")
  k_dflt k_enter
  k_with "zf9" => skip
  rename_i FG1 F1 N1 B1 X1 T1
  k_steps
  k_dflt (refine For_turns F1 ?_)
  k_steps
  k_dflt (refine list_J (lo := W.listOf vs.toArray nl) (its := vs.toArray) (by rfl) (by k_asm) (by k_asm) (by k_mem) (by rfl) (by rfl) (JC aj al a1 a2 news ks xs ys) ⟨rfl, rfl, rfl, rfl⟩ (fun I i v m₁ news₁ h₁ tk₁ oI hi hJ hc ho hax F₁ N₁ => ?_) (fun h' tk m' news' F' N' hJ => ?_))
  · obtain ⟨rfl, e1, e2, e3⟩ := hJ
    obtain ⟨ak, k, d, tk, td, nk, rfl, mk, hk3, hks'⟩ := hks.get i v (by simpa using hi)
    have hd : cmpK ks xs ys = if xs.getD k.toNat 0 < ys.getD k.toNat 0 then -d else if ys.getD k.toNat 0 < xs.getD k.toNat 0 then d else cmpK (ks.drop (i + 1)) xs ys := by
      have hl := (List.getElem?_eq_some_iff.mp hks').1
      rw [e3, List.drop_eq_getElem_cons hl, (List.getElem?_eq_some_iff.mp hks').2]; rfl
    k_steps
    · have hv : cmpK ks xs ys = -d := hd.trans (if_pos (by assumption))
      show qk (Flow.ret _) _
      k_steps
      rw [← hv]
      exact ret _ _ _ (by k_asm) (news_sub (by k_asm) sub_skip1)
    · have hv : cmpK ks xs ys = d := hd.trans ((if_neg (by assumption)).trans (if_pos (by assumption)))
      show qk (Flow.ret _) _
      k_steps
      rw [← hv]
      exact ret _ _ _ (by k_asm) (news_sub (by k_asm) sub_skip1)
    · refine ⟨_, _, _, _, rfl, by k_asm, by k_asm, ho, fun q hq => by rw [List.mem_singleton.mp hq]; exact hax, rfl, ?_, ?_, ?_⟩
      · exact e1
      · exact e2
      · exact hd.trans ((if_neg (by assumption)).trans (if_neg (by assumption)))
  · obtain ⟨rfl, e1, e2, e3⟩ := hJ
    have hv : cmpK ks xs ys = 0 := by
      rw [e3]
      have : ks.drop vs.toArray.size = [] := List.drop_eq_nil_of_le (by rw [← hks.len]; simp)
      rw [this]; rfl
    show wpAny _ _ (execs _ _) _ _ _
    k_steps
    rw [← hv]
    exact ret _ _ _ (by k_asm) (by k_asm)

theorem compare_ok : ∀ {w b c d e f g L outer h base h₀ m s E news Q cn i a ccd cl aj j k l n o p vs q r ks xs ys t u v}, @T60 w b c d e f g L outer h base h₀ m s E news Q cn i a ccd cl aj j k l n o p vs q r ks xs ys t u v := no_implicit_lambda% (u60.get rfl)
end
end
section -- W5
theorem cmpK_same {ks : List (Int × Int)} {xs : List Int} : cmpK ks xs xs = 0 := by
  induction ks with
  | nil => rfl
  | cons k r ih =>
    obtain ⟨i, d⟩ := k
    unfold cmpK
    rw [if_neg (Int.lt_irrefl _), if_neg (Int.lt_irrefl _)]
    exact ih
theorem cmpK_zero {ks : List (Int × Int)} {xs ys : List Int} (hd : ∀ k d, (k, d) ∈ ks → d ≠ 0) (h : cmpK ks xs ys = 0) : ∀ k d, (k, d) ∈ ks → xs.getD k.toNat 0 = ys.getD k.toNat 0 := by
  induction ks with
  | nil => intro k d hm; cases hm
  | cons x r ih =>
    obtain ⟨i, d⟩ := x
    have h0 := hd i d List.mem_cons_self
    unfold cmpK at h
    by_cases h1 : xs.getD i.toNat 0 < ys.getD i.toNat 0
    · rw [if_pos h1] at h; omega
    · rw [if_neg h1] at h
      by_cases h2 : ys.getD i.toNat 0 < xs.getD i.toNat 0
      · rw [if_pos h2] at h; omega
      · rw [if_neg h2] at h
        intro k d' hm
        rcases List.mem_cons.mp hm with e | hm
        · injection e with e1 e2
          subst e1 e2
          omega
        · exact ih (fun k d hm => hd k d (List.mem_cons_of_mem _ hm)) h k d' hm
theorem cmpK_rows {ks : List (Int × Int)} {wns : List Int} {p q : Int} (hd : ∀ k d, (k, d) ∈ ks → d ≠ 0) (h2 : ∃ d, (2, d) ∈ ks) : cmpK ks (rowOf wns p) (rowOf wns q) = 0 ↔ p = q := by
  constructor
  · intro h
    obtain ⟨d, hm⟩ := h2
    exact cmpK_zero hd h 2 d hm
  · rintro rfl
    exact cmpK_same
section
variable {prog : Program} {w : World} {A : Around} {E : Value → Shared → Prop} {s : Shared} {h₀ : Heap} {L : Addr} {news : Led}
theorem row_item {value slice : PySem.Expr} {l : Addr} {vs : List Value} {n : Nat} {k : Int} {u : Tok} {v : Value} {Q : Value → Shared → Prop} (N : News h₀ L s.heap news) (hm : (l, W.listOf vs.toArray n) ∈ news)
    (h0 : 0 ≤ k ∧ k < 6) (hx : vs[k.toNat]? = some v) (h : Q v s)
    (hs : subscripted slice false (.ref l) (.int k u) = operate [.ref l, .int k u] (getItem (.ref l) (.int k u)) := by with_unfolding_all rfl) (hg : ∀ r, letTemporaryGo value (.ref l) r = pure () := by intro _; with_unfolding_all rfl) : wpAny (model prog w) A (subscriptTail value slice (.ref l) (.int k u)) Q E s :=
  lit_item N hm h0.1 (by omega) (by simpa using hx) h hs hg
end
theorem goF0_eq : goF 0 = [(goF 0).getD 0 default, (goF 0).getD 1 default] := by rfl
theorem goF2_eq : goF 2 = [(goF 2).getD 0 default, (goF 2).getD 1 default, (goF 2).getD 2 default] := by rfl
theorem goF3_eq : goF 3 = [(goF 3).getD 0 default, (goF 3).getD 1 default] := by rfl
theorem goB_eq : goB = [goB.getD 0 default, goB.getD 1 default, goB.getD 2 default, goB.getD 3 default] := by rfl
end
section -- W6
theorem kw_W6 : True := by
  k_with "subscriptTail" => ((fail_if_success k_extra "o55"); ((k_here; (with_reducible show wpAny _ _ (subscriptTail _ _ (Value.ref _) (Value.int _ _)) _ _ _); k_dflt (refine' row_item ?Nq9 ?pq9 ?zq9 ?xq9 ?_; (case Nq9 => k_asm); (case pq9 => k_mem); (case zq9 | xq9 => with_reducible assumption); k_whole; (try dsimp only)))))
  k_with "call ref" => ((fail_if_success k_extra "o55"); ((k_here; (with_reducible show wpAny _ _ (call (Value.ref 89) _ _) _ _ _); k_dflt (refine' compare_ok ?Bqab ?Fqab ?Xqab ?Nqab ?Tqab ?hkqab ?mjqab ?mDqab ?mlqab ?hksqab ?m1qab ?hxqab ?m2qab ?hyqab ?lxqab ?lyqab ?hdpqab ?hunqab ?_; (case Bqab | Fqab => k_asm); (case Xqab | Nqab | Tqab => k_asm); (case hkqab => first | exact rfl | assumption); (case mjqab | mDqab | mlqab => k_mem); (case hksqab => assumption); (case m1qab => k_mem); (case hxqab => assumption); (case m2qab => k_mem); (case hyqab => assumption); (case lxqab | lyqab => rfl); (case hdpqab => ktr_room); (case hunqab => ktr_units); intro _ _ _ _ _; (try dsimp only)))))
  trivial
section

set_option maxRecDepth 100000 in
theorem u61 : Up 61 := by
  refine u60.step rfl ?_
  k_extra "st"
  iterate 30 k_extra "g"
  intro p1 p0 aj arow aws atab asked hs ts wns tns led keep D Q E s m h₀ base A₀ outer L gd un dp mb mg mean w B F X N T C Wk0 v1 v2 v3 hp0 hp1 hdp hun r1 r2
  obtain ⟨kp, ⟨ow, ad, nd, td0, td1, mw, hw, mdots, od⟩, ⟨na, ta0, ta1, mat⟩, _, _⟩ := Wk0
  obtain ⟨Dj, al, hsh, tkc, vs, nl, ks, mj, mDj, mal, hks, hd0, h2⟩ := C.judge
  obtain ⟨vr, nr, mr, hr⟩ := C.rows
  obtain ⟨a0, vt0, nt0, x0, m0, i0⟩ := hr p0 hp0
  obtain ⟨a1, vt1, nt1, x1, m1, i1⟩ := hr p1 hp1
  replace mj := kp _ mj
  replace mDj := kp _ mDj
  replace mal := kp _ mal
  replace mr := kp _ mr
  replace m0 := kp _ m0
  replace m1 := kp _ m1
  replace hks := hks.mono fun v _ a o _ h => kp _ h
  have key := cmpK_rows (wns := wns) (p := p0) (q := p1) hd0 h2
  clear hr hd0 h2 kp
  refine cut_exec (l' := Stmt.If _ _ _ _) (env' := envX (Str.ofString "_law_go") ⟨_, _, _, _, _⟩ L 240 (.ref 239) []) rfl rfl ?_
  k_steps
  · exact r1 (key.mp (by assumption)) _ _ (by k_asm) (by k_asm)
  · exact r2 (fun e => absurd (key.mpr e) (by assumption)) _ _ (by k_asm) (by k_asm)
theorem go_if1 : ∀ {w a b c d e f L outer g base h₀ m s E Q D keep h tns wns ts hs asked atab aws i aj p0 p1}, @T61 w a b c d e f L outer g base h₀ m s E Q D keep h tns wns ts hs asked atab aws i aj p0 p1 := no_implicit_lambda% (u61.get rfl)
set_option maxRecDepth 100000 in
theorem u62 : Up 62 := by
  refine u61.step rfl ?_
  k_extra "st"
  iterate 30 k_extra "g"
  intro p1 p0 aj arow aws atab asked hs ts wns tns led keep D Q E s m h₀ base A₀ outer L gd un dp mb mg mean w B F X N T C Wk0 v1 v2 v3 hp0 hp1 hdp hun r1 r2
  obtain ⟨kp, ⟨ow, ad, nd, td0, td1, mw, hw, mdots, od⟩, ⟨na, ta0, ta1, mat⟩, _, _⟩ := Wk0
  obtain ⟨Dj, al, hsh, tkc, vs, nl, ks, mj, mDj, mal, hks, hd0, h2⟩ := C.judge
  obtain ⟨vr, nr, mr, hr⟩ := C.rows
  obtain ⟨a0, vt0, nt0, x0, m0, i0⟩ := hr p0 hp0
  obtain ⟨a1, vt1, nt1, x1, m1, i1⟩ := hr p1 hp1
  replace mj := kp _ mj
  replace mDj := kp _ mDj
  replace mal := kp _ mal
  replace mr := kp _ mr
  replace m0 := kp _ m0
  replace m1 := kp _ m1
  replace hks := hks.mono fun v _ a o _ h => kp _ h
  have key := cmpK_rows (wns := wns) (p := p0) (q := p1) hd0 h2
  clear hr hd0 h2 kp
  refine cut_exec (l' := Stmt.If _ _ _ _) (env' := envX (Str.ofString "_law_go") ⟨_, _, _, _, _⟩ L 240 (.ref 239) []) rfl rfl ?_
  k_steps
  · exact r1 (key.mp (by assumption)) _ _ (by k_asm) (by k_asm)
  · exact r2 (fun e => absurd (key.mpr e) (by assumption)) _ _ (by k_asm) (by k_asm)
theorem go_if2 : ∀ {w a b c d e f L outer g base h₀ m s E Q D keep h tns wns ts hs asked atab aws i aj p0 p1}, @T62 w a b c d e f L outer g base h₀ m s E Q D keep h tns wns ts hs asked atab aws i aj p0 p1 := no_implicit_lambda% (u62.get rfl)
set_option maxRecDepth 100000 in
theorem u63 : Up 63 := by
  refine u62.step rfl ?_
  k_extra "st"
  iterate 30 k_extra "g"
  intro p1 p0 aj arow aws atab asked hs ts wns tns led keep D Q E s m h₀ base A₀ outer L gd un dp mb mg mean w B F X N T C Wk0 v1 v2 v3 hp0 hp1 hdp hun r1 r2
  obtain ⟨kp, ⟨ow, ad, nd, td0, td1, mw, hw, mdots, od⟩, ⟨na, ta0, ta1, mat⟩, _, _⟩ := Wk0
  obtain ⟨Dj, al, hsh, tkc, vs, nl, ks, mj, mDj, mal, hks, hd0, h2⟩ := C.judge
  obtain ⟨vr, nr, mr, hr⟩ := C.rows
  obtain ⟨a0, vt0, nt0, x0, m0, i0⟩ := hr p0 hp0
  obtain ⟨a1, vt1, nt1, x1, m1, i1⟩ := hr p1 hp1
  replace mj := kp _ mj
  replace mDj := kp _ mDj
  replace mal := kp _ mal
  replace mr := kp _ mr
  replace m0 := kp _ m0
  replace m1 := kp _ m1
  replace hks := hks.mono fun v _ a o _ h => kp _ h
  have key := cmpK_rows (wns := wns) (p := p0) (q := p1) hd0 h2
  clear hr hd0 h2 kp
  refine cut_exec (l' := Stmt.If _ _ _ _) (env' := envX (Str.ofString "_law_go") ⟨_, _, _, _, _⟩ L 240 (.ref 239) []) rfl rfl ?_
  k_steps
  · exact r1 (key.mp (by assumption)) _ _ (by k_asm) (by k_asm)
  · exact r2 (fun e => absurd (key.mpr e) (by assumption)) _ _ (by k_asm) (by k_asm)

theorem go_if3 : ∀ {w a b c d e f L outer g base h₀ m s E Q D keep h tns wns ts hs asked atab aws i aj p0 p1}, @T63 w a b c d e f L outer g base h₀ m s E Q D keep h tns wns ts hs asked atab aws i aj p0 p1 := no_implicit_lambda% (u63.get rfl)
end
end
section
theorem kw_l_sym56 : True := by
  k_with "o55" => skip
  k_with "call builtin:len" => ((fail_if_success k_extra "o56"); ((k_here; (with_reducible show wpAny _ _ (call (Value.builtin "len") [Value.ref _]) _ _ _); k_dflt (refine' len_ints ?Nqbb ?pqbb ?iqbb ?zqbb ?_; (case Nqbb => k_asm); (case pqbb => k_mem); (case iqbb => assumption); (case zqbb => omega); k_whole))))
  k_with "subscriptTail" => ((fail_if_success k_extra "o56"); ((k_here; (with_reducible show wpAny _ _ (subscriptTail _ _ (Value.ref _) (Value.int _ _)) _ _ _); k_dflt (refine' sym_item ?Nqcb ?pqcb ?iqcb ?zqcb ?xqcb ?_; (case Nqcb => k_asm); (case pqcb => k_mem); (case iqcb => assumption); (case zqcb => omega); (case xqcb => assumption); intro _))))
  k_with "compareOp In int ref" => ((fail_if_success k_extra "o56"); ((k_here; k_dflt (refine' sym_in ?Nqdb ?pqdb ?iqdb ?_; (case Nqdb => k_asm); (case pqdb => k_mem); (case iqdb => assumption); intro _ _; (try dsimp only)))))
  k_with "subscriptTail Name Slice ref ref" => ((fail_if_success k_extra "o56"); (((k_here; (with_reducible refine' kmk_slice_ints ?Fqeb ?Nqeb ?lqeb ?pqeb ?qqeb ?iqeb ?mqeb ?cqeb ?_ ?sqeb ?tqeb ?zqeb); k_dflt ((case Fqeb | Nqeb => k_asm); (case lqeb => kmk_list); (case iqeb => assumption); (case pqeb => kmk_part); (case qqeb => kmk_part); (case mqeb => first | exact kmk_from (by assumption) (by omega) | exact kmk_upto (by assumption) (by omega) | exact kmk_run (by assumption) (by omega) (by omega) | kmk_nums); (case cqeb => kmk_len); (case sqeb => with_unfolding_all rfl); (case tqeb => kmk_pure); (case zqeb => first | (rw [List.size_toArray, sizeLine_eq]; omega) | kmk_size)); intro _ _ _ _ _ l1 _ _ _; (try k_lt l1); (try k_sweep)); (try (revert l1; intro _)))))
  k_with "call builtin:list.index" => ((fail_if_success k_extra "o56"); ((k_here; (with_reducible show wpAny _ _ (call (Value.builtin _) [Value.ref _, Value.int _ _]) _ _ _); k_dflt (refine' sym_index ?Nqfb ?mqfb ?iqfb ?zqfb ?eqfb ?_; (case Nqfb => k_asm); (case mqfb => k_mem); (case iqfb | eqfb => assumption); (case zqfb => (simp only [List.length_drop]; omega))))))
  trivial
section -- X3
section
variable {Q : Value → Shared → Prop} {cn : Str} {cs : Scope} {a : Addr} {ccd : Value} {cl : List (Str × Addr)}

theorem three_of {h : Heap} {T ls lf ll : Addr} {ws wf wl : List Value} {x : Addr × Obj} {news : Led} (N : News h₀ L h ((T, Obj.mk (Value.type "tuple") none (Data.seq #[Value.ref ls, Value.ref lf, Value.ref ll]) #[]) :: (ll, W.listOf wl.toArray 0) :: (lf, W.listOf wf.toArray 0) :: (ls, W.listOf ws.toArray 0) :: x :: news)) :
    News h₀ L h (Three T ls lf ll ws wf wl news) := by
  intro p hp
  refine N p ?_
  simp only [Three, List.mem_cons] at hp ⊢
  rcases hp with h | h | h | h | h
  · exact .inl h
  · exact .inr (.inl h)
  · exact .inr (.inr (.inl h))
  · exact .inr (.inr (.inr (.inl h)))
  · exact .inr (.inr (.inr (.inr (.inr h))))
theorem fdiv2 {n : Nat} (h : 1 ≤ n) : Int.fdiv ((n : Int) - 1) 2 = (((n - 1) / 2 : Nat) : Int) := by
  rw [Int.fdiv_eq_ediv_of_nonneg _ (by omega)]
  omega
set_option maxRecDepth 100000 in
theorem u64 : Up 64 := by
  refine u63.step rfl ?_
  k_extra "st"
  iterate 26 k_extra "g"
  intro nr ns vs ar
  k_extra "i1"
  intro B F X N T hk mr hi hl h0 hdp hun ret
  by_cases h1 : 1 < ns.length
  · have e1 : Int.fdiv ((ns.length : Int) - 1) 2 + 1 = (((ns.length - 1) / 2 + 1 : Nat) : Int) := by rw [fdiv2 h0]; omega
    have e2 : (ns.length : Int) - 1 = ((ns.length - 1 : Nat) : Int) := by omega
    have q1 : waysS ns = ns.take (Int.fdiv ((ns.length : Int) - 1) 2 + 1).toNat := by rw [waysS, if_pos h1, e1, Int.toNat_natCast]
    have q2 : ns.take (ns.length - 1) = ns.take ((ns.length : Int) - 1).toNat := by rw [e2, Int.toNat_natCast]
    have q3 : waysA ns = ns.getD (Int.fdiv ((ns.length : Int) - 1) 2 + 1).toNat 0 := by rw [waysA, if_pos h1, e1, Int.toNat_natCast]
    have q4 : ns.getD (ns.length - 1) 0 = ns.getD ((ns.length : Int) - 1).toNat 0 := by rw [e2, Int.toNat_natCast]
    rw [q1, q2, q3, q4] at ret
    have e3 : 0 ≤ Int.fdiv ((ns.length : Int) - 1) 2 + 1 := by rw [e1]; exact Int.natCast_nonneg _
    clear q1 q2 q3 q4
    refine wpAny_call ?_
    have hlv := hi.length
    k_with "zon" => (fail_if_success k_extra "zf10")
    k_dflt k_enter
    k_with "zf10" => skip
    k_steps
    exact ret _ _ _ _ _ _ _ _ _ (by assumption) (by assumption) (.cons _ _ (.cons _ _ .nil)) (by assumption) (three_of (by assumption))
  · have hlen : ns.length = 1 := by omega
    have hlv := hi.length
    have q1 : waysS ns = [] := by rw [waysS, if_neg h1]
    have q3 : waysA ns = ns.getD 0 0 := by rw [waysA, if_neg h1]
    have e3 : (ns.length : Int) - 1 = ((ns.length - 1 : Nat) : Int) := by omega
    have q2 : ns.take (ns.length - 1) = ns.take ((ns.length : Int) - 1).toNat := by rw [e3, Int.toNat_natCast]
    have q4 : ns.getD (ns.length - 1) 0 = ns.getD ((ns.length : Int) - 1).toNat 0 := by rw [e3, Int.toNat_natCast]
    rw [q1, q3, q2, q4] at ret
    clear q1 q2 q3 q4 e3
    have e2 : (ns.length : Int) - 1 = 0 := by omega
    refine wpAny_call ?_
    k_with "zon" => (fail_if_success k_extra "zf11")
    k_dflt k_enter
    k_with "zf11" => skip
    k_steps
    exact ret _ _ _ _ _ _ [] _ _ .nil (by assumption) (.cons _ _ (.cons _ _ .nil)) (by assumption) (three_of (by assumption))

theorem ways_end : ∀ {w b c d e f g L outer h base h₀ m s E news Q cn i a ccd cl j vs ns k}, @T64 w b c d e f g L outer h base h₀ m s E news Q cn i a ccd cl j vs ns k := no_implicit_lambda% (u64.get rfl)
end
end
section
theorem kw_l_cj58 : True := by
  k_with "eval ListComp" => ((fail_if_success k_extra "o58"); ((k_here; k_dflt (refine ListComp_JF (by k_asm) (by with_unfolding_all rfl) (by decide) (by rfl) (by decide) ?_))))
  k_with "exec Assign cons ListComp" => ((fail_if_success k_extra "o58"); ((k_here; k_dflt (refine Assign_ListComp_JF (by k_asm) (by rfl) (by with_unfolding_all rfl) (by with_unfolding_all rfl) (by decide) (by rfl) (by decide) (by rfl) (by rfl) ?_))))
  k_with "pyIter ref" => ((fail_if_success k_extra "o58"); ((k_here; (with_reducible show wpAny _ _ _ (SrcJ _ _ _ _ _ _ _ _ _ _ _) _ _); refine Stop.at ?_)))
  k_with "FinE" => ((fail_if_success k_extra "o58"); ((unfold LCg.FinE); kp_flats))
  k_with "FinA" => ((fail_if_success k_extra "o58"); ((unfold LCg.FinA); kp_flats))
  k_with "eval Name" => ((fail_if_success k_extra "o58"); ((k_here; (with_reducible show wpAny _ _ (eval (Expr.Name _ _) (compEnvC _ _ _ _)) _ _ _); k_dflt (first | (refine LCgL.ld_own (by k_asm) (by k_mem) (by assumption) (by assumption) ?_) | (refine' lcf_cell ?Nqgb ?cqgb ?mqgb ?dqgb ?_ ?aqgb ?bqgb; (case aqgb | bqgb => rfl); (case Nqgb => k_asm); (case cqgb => rfl); (case mqgb => k_mem); (case dqgb => k_asm); k_whole)))))
  trivial
section -- X4
theorem kw_X4 : True := by
  k_with "binaryOp Add int int" => ((fail_if_success k_extra "o59"); ((k_here; k_dflt (refine' add_as ?hqhb ?_; (case hqhb => with_reducible assumption)))))
  k_with "binaryOp Sub int int" => ((fail_if_success k_extra "o59"); ((k_here; k_dflt (refine' sub_as ?hqib ?_; (case hqib => with_reducible assumption)))))
  k_with "binaryOp Mult int int" => ((fail_if_success k_extra "o59"); ((k_here; k_dflt (refine' mul_as ?hqjb ?mqjb ?_; (case hqjb | mqjb => with_reducible assumption)))))
  k_with "binaryOp FloorDiv int int" => ((fail_if_success k_extra "o59"); ((k_here; k_dflt (refine' fdiv_as ?hqkb ?zqkb ?bqkb ?_; (case hqkb | zqkb | bqkb => with_reducible assumption)))))
  k_with "subscriptTail Name Name ref int" => ((fail_if_success k_extra "o59"); ((k_here; k_dflt (refine' li_item ?Nqlb ?pqlb ?iqlb ?zqlb ?xqlb ?_; (case Nqlb => k_asm); (case pqlb => k_mem); (case iqlb | zqlb | xqlb => with_reducible assumption); intro _))))
  k_with "xkmk_sum" => ((fail_if_success k_extra "o59"); (first | exact far_sum (by assumption) | exact far_sum2 (by assumption)))
  trivial
section
variable {Q : Value → Shared → Prop} {cn : Str} {cs : Scope} {a : Addr} {ccd : Value} {cl : List (Str × Addr)}

theorem ringP_of {ns : List Int} {i : Nat} {x : Int} {b : Bool} (hx : ns[((i : Int)).toNat]? = some x) (h : (ns.drop ((i : Int) + 1).toNat).any (· == x) = b) : ringP ns i = b := by
  have e1 : ((i : Int)).toNat = i := Int.toNat_natCast i
  have e2 : ((i : Int) + 1).toNat = i + 1 := by omega
  rw [e1] at hx
  rw [e2] at h
  have e3 : ns.getD i 0 = x := by rw [List.getD_eq_getElem?_getD, hx]; rfl
  rw [ringP, e3, ← h]
  apply Bool.eq_iff_iff.mpr
  simp [List.any_eq_true]
theorem ringK_succ (ns : List Int) (i : Nat) : ringK ns (i + 1) = ringK ns i ++ (if ringP ns i = true then [(i : Int)] else []) := by
  unfold ringK
  rw [List.range_succ, List.filter_append, List.map_append]
  congr 1
  by_cases h : ringP ns i = true <;> simp [h]
theorem farR_len {ns : List Int} {t r : Nat} (hl : ns.length = 7) (h : t + r ≤ 6) : (farR ns t r).length = t + 20 * r := by
  have a : (ns.take t).length = t := by rw [List.length_take]; omega
  have b : ((ns.drop t).take r).length = r := by rw [List.length_take, List.length_drop]; omega
  rw [farR, List.length_append, a, List.length_flatten, List.map_replicate, b, List.sum_replicate_nat]
theorem metR_raw {t r : Nat} (hr : 1 ≤ r) : (if Int.fdiv ((t : Int) + ((r : Int) - 1 + 1) - 1) ((r : Int) - 1 + 1) > 1 then Int.fdiv ((t : Int) + ((r : Int) - 1 + 1) - 1) ((r : Int) - 1 + 1) else 1) * ((r : Int) - 1 + 1) = (metR t r : Int) := by
  have e1 : (r : Int) - 1 + 1 = (r : Int) := by omega
  have e2 : (t : Int) + (r : Int) - 1 = ((t + r - 1 : Nat) : Int) := by omega
  rw [e1, e2, Int.fdiv_eq_ediv_of_nonneg _ (by omega), ← Int.natCast_ediv, metR]
  by_cases h : (t + r - 1) / r > 1
  · rw [if_pos h, if_pos (by omega)]; simp
  · rw [if_neg h, if_neg (by omega)]; simp
theorem three_ring {h : Heap} {T ls lf ll : Addr} {ws wf wl : List Value} {x2 x3 x5 x6 x7 x8 x9 x10 x11 x12 x13 : Addr × Obj} {news : Led}
    (N : News h₀ L h ((T, Obj.mk (Value.type "tuple") none (Data.seq #[Value.ref ls, Value.ref lf, Value.ref ll]) #[]) :: (ll, W.listOf wl.toArray 0) :: (lf, W.listOf wf.toArray 0) :: x2 :: x3 :: (ls, W.listOf ws.toArray 0) :: x5 :: x6 :: x7 :: x8 :: x9 :: x10 :: x11 :: x12 :: x13 :: news)) :
    News h₀ L h (Three T ls lf ll ws wf wl news) := by
  intro p hp
  refine N p ?_
  simp only [Three, List.mem_cons] at hp ⊢
  rcases hp with h | h | h | h | h
  · exact .inl h
  · exact .inr (.inl h)
  · exact .inr (.inr (.inl h))
  · exact .inr (.inr (.inr (.inr (.inr (.inl h)))))
  · simp only [h, or_true]
theorem far_cap {ns : List Int} (hl : ns.length = 7) (a b c : Nat) : (List.take a ns ++ (List.replicate (Int.toNat 20) (List.take b (List.drop c ns))).flatten).length ≤ 147 := by
  have h1 : (List.take a ns).length ≤ 7 := by rw [List.length_take, hl]; exact Nat.min_le_right _ _
  have h2 : (List.take b (List.drop c ns)).length ≤ 7 := by rw [List.length_take, List.length_drop, hl]; exact Nat.le_trans (Nat.min_le_right _ _) (Nat.sub_le _ _)
  rw [List.length_append, List.length_flatten, List.map_replicate, List.sum_replicate_nat]
  exact Nat.add_le_add h1 (Nat.mul_le_mul_left 20 h2)
theorem far_sum {ns : List Int} (hl : ns.length = 7) {a b c n m : Nat} : (List.take n (List.take a ns ++ (List.replicate (Int.toNat 20) (List.take b (List.drop c ns))).flatten)).length + (List.take m (List.take a ns ++ (List.replicate (Int.toNat 20) (List.take b (List.drop c ns))).flatten)).length ≤ sizeLine := by
  have h := far_cap hl a b c
  rw [sizeLine_eq]
  exact Nat.le_trans (Nat.add_le_add (Nat.le_trans (List.length_take_le' _ _) h) (Nat.le_trans (List.length_take_le' _ _) h)) (show 147 + 147 ≤ 16777216 by decide)
theorem far_sum2 {ns : List Int} (hl : ns.length = 7) {a b c n m k : Nat} : (List.take n (List.take a ns ++ (List.replicate (Int.toNat 20) (List.take b (List.drop c ns))).flatten)).length + (List.take m (List.drop k (List.take a ns ++ (List.replicate (Int.toNat 20) (List.take b (List.drop c ns))).flatten))).length ≤ sizeLine := by
  have h := far_cap hl a b c
  have h' : (List.drop k (List.take a ns ++ (List.replicate (Int.toNat 20) (List.take b (List.drop c ns))).flatten)).length ≤ 147 := by rw [List.length_drop]; exact Nat.le_trans (Nat.sub_le _ _) h
  rw [sizeLine_eq]
  exact Nat.le_trans (Nat.add_le_add (Nat.le_trans (List.length_take_le' _ _) h) (Nat.le_trans (List.length_take_le' _ _) h')) (show 147 + 147 ≤ 16777216 by decide)
theorem e_tr {t r : Nat} : ((t : Int) + ((r : Int) - 1 + 1)).toNat = t + r := by omega
theorem e_2m {a t : Nat} : (2 * (a : Int) + (t : Int)).toNat = 2 * a + t := by omega
theorem e_nn {a t : Nat} : 0 ≤ 2 * (a : Int) + (t : Int) := by omega
theorem e_min {t r n : Nat} (hl : n = 7) (h : t + r ≤ 6) : min (t + r) n - t = r := by omega
theorem e_min2 {t r : Nat} (h : 1 ≤ r) : min (t + r) (t + 20 * r) - t = r := by omega
theorem e_t60 {t r : Nat} (h : t + r ≤ 6) (hr : 1 ≤ r) : 0 ≤ (t : Int) ∧ (t : Int) < 6 := by omega
theorem far_eq {ns : List Int} {t r : Nat} (hl : ns.length = 7) (h : t + r ≤ 6) : List.take ((t : Int)).toNat ns ++ (List.replicate (Int.toNat 20) (List.take (min (((t + r : Nat) : Int)).toNat ns.length - ((t : Int)).toNat) (List.drop ((t : Int)).toNat ns))).flatten = farR ns t r := by
  rw [Int.toNat_natCast, Int.toNat_natCast, e_min hl h]; rfl
theorem far_get {ns : List Int} {t r : Nat} (hl : ns.length = 7) (h : t + r ≤ 6) (hr : 1 ≤ r) : (List.take ((t : Int)).toNat ns ++ (List.replicate (Int.toNat 20) (List.take (min (((t + r : Nat) : Int)).toNat ns.length - ((t : Int)).toNat) (List.drop ((t : Int)).toNat ns))).flatten)[((t : Int)).toNat]? = some ((farR ns t r).getD t 0) := by
  have hlt : t < (farR ns t r).length := by rw [farR_len hl h]; omega
  rw [far_eq hl h, Int.toNat_natCast, List.getD_eq_getElem?_getD, List.getElem?_eq_getElem hlt]; rfl
theorem add_as {prog : Program} {w : World} {A : Around} {E : Value → Shared → Prop} {s : Shared} {a b c : Int} {t u : Tok} {Q : Value → Shared → Prop} (hc : a + b = c) (h : Q (.int c s.toks) { s with toks := s.toks + 1 }) : wpAny (model prog w) A (binaryOp .Add (.int a t) (.int b u)) Q E s := PyProof.Rows.add_int (hc ▸ h)
theorem sub_as {prog : Program} {w : World} {A : Around} {E : Value → Shared → Prop} {s : Shared} {a b c : Int} {t u : Tok} {Q : Value → Shared → Prop} (hc : a - b = c) (h : Q (.int c s.toks) { s with toks := s.toks + 1 }) : wpAny (model prog w) A (binaryOp .Sub (.int a t) (.int b u)) Q E s := PyProof.Rows.sub_int' (hc ▸ h)
theorem mul_as {prog : Program} {w : World} {A : Around} {E : Value → Shared → Prop} {s : Shared} {a b c : Int} {t u : Tok} {Q : Value → Shared → Prop} (hc : a * b = c) (hm : IntMulOk a b) (h : Q (.int c s.toks) { s with toks := s.toks + 1 }) : wpAny (model prog w) A (binaryOp .Mult (.int a t) (.int b u)) Q E s := PyProof.Rows.mul_int (hc ▸ h) hm
theorem fdiv_as {prog : Program} {w : World} {A : Around} {E : Value → Shared → Prop} {s : Shared} {a b c : Int} {t u : Tok} {Q : Value → Shared → Prop} (hc : Int.fdiv a b = c) (hb : b ≠ 0) (hs : b.natAbs < 1073741824) (h : Q (.int c s.toks) { s with toks := s.toks + 1 }) : wpAny (model prog w) A (binaryOp .FloorDiv (.int a t) (.int b u)) Q E s := PyProof.Rows.floordiv_int hb (hc ▸ h) (Or.inl (PyProof.noPylong_small hs))
theorem small_ok {a : Int} (h : -1000 < a ∧ a < 1000) : Builtin.Int.intBits a ≤ 64 := intBits_le_64 (Int.lt_trans (by decide) h.1) (Int.lt_trans h.2 (by decide))
theorem w_a1 {r : Nat} : (r : Int) - 1 + 1 = r := by omega
theorem w_a2 {t r : Nat} : (t : Int) + r = ((t + r : Nat) : Int) := by omega
theorem w_s1 {t r : Nat} (h : 1 ≤ r) : ((t + r : Nat) : Int) - 1 = ((t + r - 1 : Nat) : Int) := by omega
theorem w_d1 {t r : Nat} : Int.fdiv ((t + r - 1 : Nat) : Int) (r : Int) = (((t + r - 1) / r : Nat) : Int) := by
  rw [Int.fdiv_eq_ediv_of_nonneg _ (Int.natCast_nonneg _), ← Int.natCast_ediv]
theorem w_m1 {t r : Nat} : (if (((t + r - 1) / r : Nat) : Int) > 1 then (((t + r - 1) / r : Nat) : Int) else 1) * (r : Int) = (metR t r : Int) := by
  unfold metR
  by_cases h : (t + r - 1) / r > 1
  · rw [if_pos h, if_pos (by omega)]; simp
  · rw [if_neg h, if_neg (by omega)]; simp
theorem w_m2 {m : Nat} : 2 * (m : Int) = ((2 * m : Nat) : Int) := by omega
theorem w_r {t r : Nat} (h : t + r ≤ 6) : -1000 < (r : Int) ∧ (r : Int) < 1000 := by omega
theorem w_r2 {t r : Nat} (h : t + r ≤ 6) : ((r : Int)).natAbs < 1073741824 := by omega
theorem w_z {r : Nat} (h : 1 ≤ r) : (r : Int) ≠ 0 := by omega
set_option maxRecDepth 100000 in
theorem u65 : Up 65 := by
  refine u64.step rfl ?_
  k_extra "st"
  iterate 29 k_extra "g"
  intro x₀ r t nr ns vs ar
  k_extra "i1"
  intro B F X N T hk mr hi hl htr hr1 hP hx0 hj hdp hun ret
  refine wpAny_call ?_
  have hlv := hi.length
  k_with "zon" => (fail_if_success k_extra "zf12")
  k_dflt k_enter
  k_with "zf12" => skip
  k_steps
  refine Stop.go ?_
  rename_i hr hF hN hz
  refine src_range (by rfl) hF hN hr (by decide) (n := 6) (by decide) fun I St g S => ?_
  refine srcj_test1 (by rfl) (by rfl) (S _ _) (fun i v => ∃ t, v = .int (0 + (i : Int)) t) (fun i v _ h => h) (fun i ys nw => All3 (nw = _) (i ≤ 6) (IntsAre ys (ringK ns i))) ⟨rfl, by decide, .nil⟩ ?_ ?_ ?_
  · rintro i ys nw ⟨rfl, hi6, h⟩
    have e := h.length
    have e' : (ringK ns i).length ≤ i := by
      unfold ringK
      rw [List.length_map]
      exact Nat.le_trans (List.length_filter_le _ _) (Nat.le_of_eq List.length_range)
    rw [sizeLine_eq, e]
    omega
  · rintro i v C D h₁ tk₁ ys mC oC nw tl E' hi6 ⟨t', rfl⟩ ⟨rfl, _, hys⟩ hxk hC off hCD F₁ N₁ htl hlv
    rw [Int.zero_add] at hxk
    obtain ⟨x, hx⟩ : ∃ x, ns[((i : Int)).toNat]? = some x := ⟨_, List.getElem?_eq_getElem (by omega)⟩
    have mr' : (ar, W.listOf vs.toArray nr) ∈ news ++ tl := List.mem_append_left _ mr
    generalize e2 : news ++ tl = tl2 at mr'
    simp only [List.cons_append, e2] at N₁
    dsimp only
    k_steps
    refine TestQ.of (fun hb => ?_) fun hb => ?_
    · k_steps
      refine ⟨_, _, _, _, _, rfl, by k_asm, hC, ?_, off, rfl, hi6, ?_⟩
      · simp only [List.cons_append, e2]
        exact fun p hp => (‹News _ _ _ ((_, _) :: (C, _) :: _)› : News _ _ _ _) p (List.mem_cons_of_mem _ hp)
      · rw [ringK_succ, if_pos (ringP_of hx (Eq.trans (by assumption) hb))]
        exact IntsAre.append hys (.cons _ _ .nil)
    · refine ⟨_, _, _, _, _, rfl, by k_asm, hC, ?_, off, rfl, hi6, ?_⟩
      · simp only [List.cons_append, e2]
        exact fun p hp => (‹News _ _ _ ((_, _) :: (C, _) :: _)› : News _ _ _ _) p (List.mem_cons_of_mem _ hp)
      · rw [ringK_succ, if_neg (by rw [ringP_of hx (Eq.trans (by assumption) hb)]; decide), List.append_nil]
        exact hys
  · rintro ys nw ⟨rfl, _, hys⟩
    k_steps
    have hM : (t : Int) ∈ ringK ns 6 := by
      unfold ringK
      exact List.mem_map.mpr ⟨t, List.mem_filter.mpr ⟨List.mem_range.mpr (by omega), (hP t (by omega)).mpr ⟨Nat.le_refl _, htr⟩⟩, rfl⟩
    refine kso_min (by k_asm) (by k_asm) (News.isList (by k_asm) (by k_mem)) hys (List.length_pos_of_mem hM) (by rfl) fun h' M t' tk' F' N' hm hle => ?_
    obtain rfl : M = t := by
      have a1 := hle _ hM
      unfold ringK at hm
      obtain ⟨k, hk, rfl⟩ := List.mem_map.mp hm
      have b := List.mem_filter.mp hk
      have c := (hP k (List.mem_range.mp b.1)).mp b.2
      have d : (Int.ofNat k : Int) = (k : Int) := rfl
      omega
    rename_i y0 y1 y2 y3 y4 y5 y6 y7 y8 y9 y10 y11 y12 y13 y14 y15 y16 y17 y18 y19 y20 y21 y22 y23 y24 y25
    clear hr hF hN hz S hM hm hle y5 y12 y18 y22 y23
    revert y4 y6 y7 y8 y9 y11 hys y24 y25 F' N'
    revert y10
    revert y0 y1 ys y19 y20 y21 h' t' tk'
    k_extra "e9"
    intro tk' t' h' y21 y20 y19 ys y1 y0 y10 y4 y6 y7 y8 y9 y11 hys y24 y25 F' N'
    have hz0 := w_z hr1
    have hn1 := w_r2 htr
    have f1 : (r : Int) - 1 + 1 = r := w_a1
    have f2 : (t : Int) + r = ((t + r : Nat) : Int) := w_a2
    have f3 := w_s1 (t := t) hr1
    have f4 := w_d1 (t := t) (r := r)
    have f5 := w_m1 (t := t) (r := r)
    have f6 := w_m2 (m := metR t r)
    have f7 := w_a2 (t := 2 * metR t r) (r := t)
    have k5 : IntMulOk (if (((t + r - 1) / r : Nat) : Int) > 1 then (((t + r - 1) / r : Nat) : Int) else 1) (r : Int) := IntMulOk.of_right (small_ok (w_r htr))
    have k6 : IntMulOk 2 (metR t r : Int) := IntMulOk.of_left (small_ok (by decide))
    have hS0 : 0 ≤ (metR t r : Int) := Int.natCast_nonneg _
    have hS1 : 0 ≤ ((2 * metR t r + t : Nat) : Int) := Int.natCast_nonneg _
    have hfx := far_get hl htr hr1
    have ht60 := e_t60 htr hr1
    k_steps
    have N3 := three_ring (wl := [_, _]) ‹News h₀ L _ ((_, _) :: _)›
    have F3 := ‹Fr h₀ L _ m›
    refine ret _ _ _ _ _ _ _ _ _ ?_ ?_ ?_ F3 N3
    · refine cast (congrArg (IntsAre _) ?_) (by assumption)
      rw [far_eq hl htr, Int.toNat_natCast, Int.toNat_natCast]
    · refine cast (congrArg (IntsAre _) ?_) (by assumption)
      rw [far_eq hl htr, Int.toNat_natCast, Int.toNat_natCast, Int.toNat_natCast, farR_len hl htr, e_min2 hr1]
    · exact IntsAre.cons _ _ (.cons _ _ .nil)

theorem ways_ring : ∀ {w b c d e f g L outer h base h₀ m s E news Q cn i a ccd cl j vs ns k t r x₀}, @T65 w b c d e f g L outer h base h₀ m s E news Q cn i a ccd cl j vs ns k t r x₀ := no_implicit_lambda% (u65.get rfl)
end
end
end
end
section
theorem kw_l_lc60 : True := by
  k_with "o59" => skip
  k_with "o58" => skip
  k_with "o56" => skip
  k_with "eval ListComp" => ((fail_if_success k_extra "o60"); ((k_here; k_dflt (refine ListComp_G (by k_asm) (by with_unfolding_all rfl) (by decide) (by rfl) (by decide) (by rfl) ?_))))
  k_with "exec Assign cons ListComp" => ((fail_if_success k_extra "o60"); ((k_here; k_dflt (refine Assign_ListComp_G (by k_asm) (by rfl) (by with_unfolding_all rfl) (by with_unfolding_all rfl) (by decide) (by rfl) (by decide) (by rfl) (by rfl) (by rfl) ?_))))
  k_with "pyIter ref" => ((fail_if_success k_extra "o60"); ((k_here; (with_reducible show wpAny _ _ _ (ItG _ _ _ _ _ _ _ _ _ _ _ _) _ _); k_dflt (first | (refine itG_tuple (by rfl) (by k_asm) (by k_asm) (by k_mem) (by exact Nat.le_of_ble_eq_true rfl) ?_; intro _; lcg_lit) | (refine itG_list (by rfl) (by k_asm) (by k_asm) (by k_mem) (by exact Nat.le_of_ble_eq_true rfl) ?_; intro _; lcg_lit) | (refine itG_range (by rfl) (by k_asm) (by k_asm) (by assumption) (by first | decide | rfl) (by first | rfl | decide) (by exact Nat.le_of_ble_eq_true rfl) ?_; intro _; lcg_lit)))))
  k_with "xlcg_off" => ((fail_if_success k_extra "o60"); (first | exact True.intro | assumption | (refine And.intro ⟨by k_ne, by k_ne, by k_ne⟩ ?_; lcg_off)))
  k_with "xlcg_src" => ((fail_if_success k_extra "o60"); (first | exact True.intro | exact ⟨_, by k_mem, rfl, _, rfl⟩))
  k_with "xlcg_sub" => ((fail_if_success k_extra "o60"); (first | exact sub_refl | exact sub_in1 | exact sub_in2 | exact sub_in3 | (refine sub_skip ?_; lcg_sub)))
  k_with "CompEnd" => ((fail_if_success k_extra "o60"); ((k_here; k_dflt (refine LCg.CompEnd.intro (by k_asm) (by k_asm) _ (by lcg_sub) (by lcg_off) (by lcg_src) ?_))))
  k_with "CompRest" => ((fail_if_success k_extra "o60"); ((with_unfolding_all first | (refine LCg.CompRest.succ ?_; intro _ _ _ _ _ _ _ _ _ _ hv'z9 _ _ _ _ off'z9 _; (first | lcg_open hv'z9 | (obtain ⟨t9'z9, hv9'z9⟩ := hv'z9; subst hv9'z9)); (try simp only [LCg.Off3, and_true] at off'z9); (repeat (have hA9z9 := And.left off'z9; replace off'z9 := And.right off'z9))) | refine LCg.CompRest.zero ?_)))
  k_with "FinE" => ((fail_if_success k_extra "o60"); ((unfold LCg.FinE); kp_flats))
  k_with "FinA" => ((fail_if_success k_extra "o60"); ((unfold LCg.FinA); kp_flats))
  trivial
section -- B20
theorem kw_B20 : True := by
  k_with "slen" => ((fail_if_success k_extra "o61"); (with_reducible first | assumption | (apply SL_app <;> walk_at "slen") | (refine SL_dots ?_; assumption) | exact SL_item | exact SL_mail (by assumption) (by assumption) (by walk_at "slen") (by walk_at "slen") | exact SL_lit))
  k_with "binaryOp Add str str" => ((fail_if_success k_extra "o61"); ((k_here; k_dflt (refine add_str (by walk_at "slen") (by walk_at "slen") (by first | decide | decide +kernel) ?_); intro _ _)))
  k_with "binaryOp Mult str int" => ((fail_if_success k_extra "o61"); ((k_here; k_dflt (refine mul_dots (by with_reducible assumption) ?_); intro _ _)))
  k_with "subscriptTail" => ((fail_if_success k_extra "o61"); ((k_here; (with_reducible show wpAny _ _ (subscriptTail _ _ (Value.str (Str.ofString "TH") _) (Value.int _ _)) _ _ _); k_dflt ((refine KXi.item (n := 2) (by decide +kernel) (by first | decide | omega) (by first | decide | omega) (by decide) ?_); intro _))))
  k_with "subscriptTail" => ((fail_if_success k_extra "o61"); ((k_here; (with_reducible show wpAny _ _ (subscriptTail _ _ (Value.ref _) (Value.int (Int.fmod _ 3) _)) _ _ _); k_dflt (refine' pick3 ?Nqmb ?pqmb (mod3 _) ?_; (case Nqmb => k_asm); (case pqmb => k_mem); intro _ _ he'z9; (first | (have hE' := End3.of he'z9) | (have hE' := End3.of' he'z9)); (have hSL' := End3.sl hE'); (try clear he'z9)))))
  trivial
section
variable {Q : Value → Shared → Prop} {cn : Str} {cs : Scope} {a : Addr} {ccd : Value} {cl : List (Str × Addr)}

set_option maxRecDepth 100000 in
set_option maxHeartbeats 2000000 in
theorem u66 : Up 66 := by
  refine u65.step rfl ?_
  k_extra "st"
  iterate 36 k_extra "g"
  intro e1 e0 ne nd u1 u0 tw t1 t0 n1 n0 aen ad b
  k_extra "i1"
  intro B F X N T hk md me b0 b1 z0 z1 hdp hun ret
  cases b <;> (
    simp only [cond] at *
    refine wpAny_call ?_
    k_with "zon" => (fail_if_success k_extra "zf13")
    k_dflt k_enter
    k_steps
    exact ret _ _ _ (by k_asm) (news_sub (by k_asm) (by kcj_all)))

theorem mail_ok : ∀ {w c d e f g h L outer i base h₀ m s E news Q cn j a ccd cl b ad k l n o p q r t u v x y}, @T66 w c d e f g h L outer i base h₀ m s E news Q cn j a ccd cl b ad k l n o p q r t u v x y := no_implicit_lambda% (u66.get rfl)
theorem kw_z66 : True := by
  k_with "zf13" => skip
  trivial
end
end
section -- B6
theorem kw_B6 : True := by
  k_with "o61" => skip
  k_with "slen" => ((fail_if_success k_extra "o62"); (with_reducible first | assumption | (apply SL_app <;> walk_at "slen") | (refine SL_dots ?_; assumption) | exact SL_item | exact SL_mail (by assumption) (by assumption) (by walk_at "slen") (by walk_at "slen") | exact SL_lit))
  k_with "binaryOp Add str str" => ((fail_if_success k_extra "o62"); ((k_here; k_dflt (refine add_str (by walk_at "slen") (by walk_at "slen") (by first | decide | decide +kernel) ?_); intro _ _)))
  k_with "binaryOp Mult str int" => ((fail_if_success k_extra "o62"); ((k_here; k_dflt (refine mul_dots (by with_reducible assumption) ?_); intro _ _)))
  k_with "subscriptTail" => ((fail_if_success k_extra "o62"); ((k_here; (with_reducible show wpAny _ _ (subscriptTail _ _ (Value.str (Str.ofString "TH") _) (Value.int _ _)) _ _ _); k_dflt ((refine KXi.item (n := 2) (by decide +kernel) (by first | decide | omega) (by first | decide | omega) (by decide) ?_); intro _))))
  k_with "subscriptTail" => ((fail_if_success k_extra "o62"); ((k_here; (with_reducible show wpAny _ _ (subscriptTail _ _ (Value.ref _) (Value.int (Int.fmod _ 3) _)) _ _ _); k_dflt (refine' pick3 ?Nqmb ?pqmb (mod3 _) ?_; (case Nqmb => k_asm); (case pqmb => k_mem); intro _ _ he'z9; (first | (have hE' := End3.of he'z9) | (have hE' := End3.of' he'z9)); (have hSL' := End3.sl hE'); (try clear he'z9)))))
  k_with "call ref" => ((fail_if_success k_extra "o62"); ((k_here; (with_reducible show wpAny _ _ (call (Value.ref 216) _ _) _ _ _); k_dflt (refine' qd_ok ?Bqnb ?Fqnb ?Xqnb ?Nqnb ?Tqnb ?hkqnb ?hxqnb ?hdpqnb ?hunqnb ?_; (case Bqnb | Fqnb => k_asm); (case Xqnb | Nqnb | Tqnb => k_asm); (case hkqnb => first | exact rfl | assumption); (case hxqnb => exact SL_size (by walk_at "slen") (by first | decide | decide +kernel)); (case hdpqnb => ktr_room); (case hunqnb => ktr_units); intro _ _ _ _ _; (try k_sweep)))))
  k_with "call ref" => ((fail_if_success k_extra "o62"); ((k_here; (with_reducible show wpAny _ _ (call (Value.ref 228) _ _) _ _ _); k_dflt ((first | refine' mail_ok ?Bqob ?Fqob ?Xqob ?Nqob ?Tqob ?hkqob ?mdqob ?meqob ?b0qob ?b1qob ?z0qob ?z1qob ?hdpqob ?hunqob ?_ | refine' mail_ok (b := false) ?Bqob ?Fqob ?Xqob ?Nqob ?Tqob ?hkqob ?mdqob ?meqob ?b0qob ?b1qob ?z0qob ?z1qob ?hdpqob ?hunqob ?_ | refine' mail_ok (b := true) ?Bqob ?Fqob ?Xqob ?Nqob ?Tqob ?hkqob ?mdqob ?meqob ?b0qob ?b1qob ?z0qob ?z1qob ?hdpqob ?hunqob ?_); (case Bqob | Fqob => k_asm); (case Xqob | Nqob | Tqob => k_asm); (case hkqob => first | exact rfl | assumption); (case mdqob | meqob => k_mem); (case b0qob => first | assumption | omega); (case b1qob => first | assumption | omega); (case z0qob => walk_at "slen"); (case z1qob => walk_at "slen"); (case hdpqob => ktr_room); (case hunqob => ktr_units); intro _ _ _ _ _; (try k_sweep)))))
  trivial
section

set_option maxRecDepth 100000 in
set_option maxHeartbeats 2000000 in
theorem u67 : Up 67 := by
  refine u66.step rfl ?_
  k_extra "st"
  iterate 29 k_extra "g"
  intro nd t0 tt td1 td0 turn d1 d0 ocd ocw ad b
  k_extra "i0"
  intro B F X N T hdp hun v1 mw hcw mc hcd md b0 b1 g0 g1 ret
  refine cut_exec (l' := Stmt.Assign [_] _ _) (env' := envOfC (Str.ofString "_law_hop") ⟨_, _, _, _, _⟩ L 233 (.ref 232)) rfl rfl ?_
  k_steps
  have key : ∀ {e0 e1 : Str} {t : Tok} {h' : Heap}, Fr h₀ L h' (fun y => if y = Str.ofString "sent" then some (.str ⟨(qd (mailT b d0 d1 e0 e1 ++ Str.ofString "\r.\r").cps.toList).toArray⟩ t) else m y) → End3 e0 → End3 e1 →
      Fr h₀ L h' (fun y => if y = Str.ofString "sent" then some (.str (dueT b d0 d1) t) else m y) := fun hf h0 h1 => by rw [sent_due h0 h1 g0 g1] at hf; exact hf
  exact ret _ _ _ (key (by k_asm) (by assumption) (by assumption)) (news_sub (by k_asm) (by kcj_all))

theorem hop6 : ∀ {w a c d e f g L outer h base h₀ m s E news Q b ad i j k l n o p q r t}, @T67 w a c d e f g L outer h base h₀ m s E news Q b ad i j k l n o p q r t := no_implicit_lambda% (u67.get rfl)
end
end
section -- B7
theorem kw_B7 : True := by
  k_with "o62" => skip
  k_with "slen" => ((fail_if_success k_extra "o63"); (with_reducible first | assumption | (apply SL_app <;> walk_at "slen") | (refine SL_dots ?_; assumption) | exact SL_item | exact SL_mail (by assumption) (by assumption) (by walk_at "slen") (by walk_at "slen") | exact SL_lit))
  k_with "binaryOp Add str str" => ((fail_if_success k_extra "o63"); ((k_here; k_dflt (refine add_str (by walk_at "slen") (by walk_at "slen") (by first | decide | decide +kernel) ?_); intro _ _)))
  k_with "binaryOp Mult str int" => ((fail_if_success k_extra "o63"); ((k_here; k_dflt (refine mul_dots (by with_reducible assumption) ?_); intro _ _)))
  k_with "subscriptTail" => ((fail_if_success k_extra "o63"); ((k_here; (with_reducible show wpAny _ _ (subscriptTail _ _ (Value.str (Str.ofString "TH") _) (Value.int _ _)) _ _ _); k_dflt ((refine KXi.item (n := 2) (by decide +kernel) (by first | decide | omega) (by first | decide | omega) (by decide) ?_); intro _))))
  k_with "subscriptTail" => ((fail_if_success k_extra "o63"); ((k_here; (with_reducible show wpAny _ _ (subscriptTail _ _ (Value.ref _) (Value.int (Int.fmod _ 3) _)) _ _ _); k_dflt (refine' pick3 ?Nqmb ?pqmb (mod3 _) ?_; (case Nqmb => k_asm); (case pqmb => k_mem); intro _ _ he'z9; (first | (have hE' := End3.of he'z9) | (have hE' := End3.of' he'z9)); (have hSL' := End3.sl hE'); (try clear he'z9)))))
  k_with "call ref" => ((fail_if_success k_extra "o63"); ((k_here; (with_reducible show wpAny _ _ (call (Value.ref 216) _ _) _ _ _); k_dflt (refine' qd_ok ?Bqnb ?Fqnb ?Xqnb ?Nqnb ?Tqnb ?hkqnb ?hxqnb ?hdpqnb ?hunqnb ?_; (case Bqnb | Fqnb => k_asm); (case Xqnb | Nqnb | Tqnb => k_asm); (case hkqnb => first | exact rfl | assumption); (case hxqnb => exact SL_size (by walk_at "slen") (by first | decide | decide +kernel)); (case hdpqnb => ktr_room); (case hunqnb => ktr_units); intro _ _ _ _ _; (try k_sweep)))))
  k_with "call ref" => ((fail_if_success k_extra "o63"); ((k_here; (with_reducible show wpAny _ _ (call (Value.ref 228) _ _) _ _ _); k_dflt ((first | refine' mail_ok ?Bqob ?Fqob ?Xqob ?Nqob ?Tqob ?hkqob ?mdqob ?meqob ?b0qob ?b1qob ?z0qob ?z1qob ?hdpqob ?hunqob ?_ | refine' mail_ok (b := false) ?Bqob ?Fqob ?Xqob ?Nqob ?Tqob ?hkqob ?mdqob ?meqob ?b0qob ?b1qob ?z0qob ?z1qob ?hdpqob ?hunqob ?_ | refine' mail_ok (b := true) ?Bqob ?Fqob ?Xqob ?Nqob ?Tqob ?hkqob ?mdqob ?meqob ?b0qob ?b1qob ?z0qob ?z1qob ?hdpqob ?hunqob ?_); (case Bqob | Fqob => k_asm); (case Xqob | Nqob | Tqob => k_asm); (case hkqob => first | exact rfl | assumption); (case mdqob | meqob => k_mem); (case b0qob => first | assumption | omega); (case b1qob => first | assumption | omega); (case z0qob => walk_at "slen"); (case z1qob => walk_at "slen"); (case hdpqob => ktr_room); (case hunqob => ktr_units); intro _ _ _ _ _; (try k_sweep)))))
  k_with "binaryOp Mult ref int" => ((fail_if_success k_extra "o63"); (((k_here; (with_reducible show wpAny _ _ (binaryOp Operator.Mult (Value.ref _) (Value.int 2 _)) _ _ _); k_dflt (refine' list_two ?Fqpb ?Nqpb ?pqpb ?_; (case Fqpb | Nqpb => k_asm); (case pqpb => k_mem)); intro _ _ _ _ l1; (try k_lt l1)); (try (revert l1; intro _)))))
  k_with "binaryOp Add int int" => ((fail_if_success k_extra "o63"); ((k_here; (with_reducible show wpAny _ _ (binaryOp Operator.Add (Value.int _ _) (Value.int (ite _ _ _) _)) _ _ _); first | rw [if_pos (by decide)] | rw [if_neg (by decide)])))
  trivial
section

set_option maxRecDepth 100000 in
set_option maxHeartbeats 2000000 in
theorem u68 : Up 68 := by
  refine u67.step rfl ?_
  k_extra "st"
  iterate 27 k_extra "g"
  intro nd t0 td1 td0 d1 d0 ocd ocw ad b
  k_extra "i0"
  intro B F X N T hdp hun mw hcw mc hcd md b0 b1 ret
  refine cut_exec (l' := Stmt.Assign [_] _ _) (env' := envOfC (Str.ofString "_law_hop") ⟨_, _, _, _, _⟩ L 233 (.ref 232)) rfl rfl ?_
  have b0' : 0 ≤ d0 + 1 ∧ d0 + 1 < 100 := by omega
  have b1' : 0 ≤ d1 + 1 ∧ d1 + 1 < 100 := by omega
  have c0' : 0 ≤ d0 + 0 ∧ d0 + 0 < 100 := by omega
  have c1' : 0 ≤ d1 + 0 ∧ d1 + 0 < 100 := by omega
  have zc : SL (Str.ofString "\r\n") 2 := SL_lit
  cases b <;> (
    simp only [cond] at *
    k_steps
    first
      | exact ret _ _ _ (by k_asm) (news_sub (by k_asm) (by kcj_all))
      | fail)

theorem hop7 : ∀ {w a c d e f g L outer h base h₀ m s E news Q b ad i j k l n o p q}, @T68 w a c d e f g L outer h base h₀ m s E news Q b ad i j k l n o p q := no_implicit_lambda% (u68.get rfl)
end
end
section -- B9
theorem kw_B9 : True := by
  k_with "o63" => skip
  k_with "slen" => ((fail_if_success k_extra "o64"); (with_reducible first | assumption | (apply SL_app <;> walk_at "slen") | (refine SL_dots ?_; assumption) | exact SL_item | exact SL_mail (by assumption) (by assumption) (by walk_at "slen") (by walk_at "slen") | exact SL_lit))
  k_with "binaryOp Add str str" => ((fail_if_success k_extra "o64"); ((k_here; k_dflt (refine add_str (by walk_at "slen") (by walk_at "slen") (by first | decide | decide +kernel) ?_); intro _ _)))
  k_with "binaryOp Mult str int" => ((fail_if_success k_extra "o64"); ((k_here; k_dflt (refine mul_dots (by with_reducible assumption) ?_); intro _ _)))
  k_with "subscriptTail" => ((fail_if_success k_extra "o64"); ((k_here; (with_reducible show wpAny _ _ (subscriptTail _ _ (Value.str (Str.ofString "TH") _) (Value.int _ _)) _ _ _); k_dflt ((refine KXi.item (n := 2) (by decide +kernel) (by first | decide | omega) (by first | decide | omega) (by decide) ?_); intro _))))
  k_with "subscriptTail" => ((fail_if_success k_extra "o64"); ((k_here; (with_reducible show wpAny _ _ (subscriptTail _ _ (Value.ref _) (Value.int (Int.fmod _ 3) _)) _ _ _); k_dflt (refine' pick3 ?Nqmb ?pqmb (mod3 _) ?_; (case Nqmb => k_asm); (case pqmb => k_mem); intro _ _ he'z9; (first | (have hE' := End3.of he'z9) | (have hE' := End3.of' he'z9)); (have hSL' := End3.sl hE'); (try clear he'z9)))))
  k_with "call builtin:str.split" => ((fail_if_success k_extra "o64"); (((k_here; (with_reducible show wpAny _ _ (call (Value.builtin "str.split") [Value.str (dueT _ _ _) _, _]) _ _ _); k_dflt (refine' split_due ?Fqqb ?Nqqb ?h0qqb ?h1qqb ?_; (case Fqqb | Nqqb => k_asm); (case h0qqb | h1qqb => assumption)); intro _ _ _ _ _ _ _ _ _ _ _ _ _ _ _ _ _ l1; (try k_lt l1)); (try (revert l1; intro _)))))
  k_with "call builtin:len" => ((fail_if_success k_extra "o64"); ((k_here; (with_reducible show wpAny _ _ (call (Value.builtin "len") [Value.str _ _]) _ _ _); k_dflt (refine' len_txt ?xqrb ?kqrb ?_; (case xqrb | kqrb => assumption)); intro _ _)))
  trivial
section

set_option maxRecDepth 100000 in
set_option maxHeartbeats 2000000 in
theorem u69 : Up 69 := by
  refine u68.step rfl ?_
  k_extra "st"
  iterate 28 k_extra "g"
  intro rest gv t d1 d0 ow aas ab ad aat aw b Q E s m h₀ base A₀ outer L gd un dp mb mg mean w B F X N T hdp hun v1 v2 hr hw b0 b1 ret
  refine cut_exec (l' := Stmt.Assign [_] _ _) (env' := envOfC (Str.ofString "_law_hop") ⟨_, _, _, _, _⟩ L 233 (.ref 232)) rfl rfl ?_
  have q0 : d0 + cond b 0 1 < 1000 := by cases b <;> simp only [cond] <;> omega
  have q1 : d1 + cond b 1 0 < 1000 := by cases b <;> simp only [cond] <;> omega
  k_steps
  simp only [Int.add_sub_cancel] at *
  first
    | exact ret _ _ _ _ _ _ 2 (by k_asm) (news_sub (by k_asm) (by kcj_all)) (by assumption) (by assumption) (by assumption)
    | fail

theorem hop9 : ∀ {w a c d e f g L outer h base h₀ m s E Q b aw aat ad ab aas ow i j t k rest}, @T69 w a c d e f g L outer h base h₀ m s E Q b aw aat ad ab aas ow i j t k rest := no_implicit_lambda% (u69.get rfl)
end
end
section -- W1
section

theorem hr_e0 {b : Bool} {ts : List Int} {p0 : Int} : (1 : Int) + (cond b ts (ts ++ [p0])).length = 1 + (ts.length : Int) + cond b 0 1 := by cases b <;> simp <;> omega
theorem hr_e1 {b : Bool} {hs : List Int} {p1 : Int} : (1 : Int) + (cond b (hs ++ [p1]) hs).length = 1 + (hs.length : Int) + cond b 1 0 := by cases b <;> simp <;> omega
theorem hr_z1 {b : Bool} {ts hs : List Int} {p0 p1 : Int} : (((cond b ts (ts ++ [p0])).count (cond b p1 p0) : Nat) : Int) + ((cond b (hs ++ [p1]) hs).count (cond b p1 p0) : Nat) = 1 + ((ts.count (cond b p1 p0) : Int) + hs.count (cond b p1 p0)) := by
  cases b <;> simp [List.count_append] <;> omega
theorem hr_z2 {c w wt : Int} (h : w = wt) : (1 + c) * w = wt + c * w := by rw [Int.add_mul, Int.one_mul, h]
theorem hr_z3 {c w wt : Int} (h : w = wt) : -(1 + c) * w = -wt + -c * w := by rw [Int.neg_mul, hr_z2 h, Int.neg_add, Int.neg_mul]
theorem hr_cc {b : Bool} {ts hs : List Int} {p0 p1 : Int} {cc : List (Str × Int)} (hCC : CC cc (ts.count (cond b p1 p0)) (hs.count (cond b p1 p0))) : CC (bump cc (letter b)) ((cond b ts (ts ++ [p0])).count (cond b p1 p0)) ((cond b (hs ++ [p1]) hs).count (cond b p1 p0)) := by
  have := hCC.bump b
  cases b <;> simpa [List.count_append] using this
theorem hr_c1 {b : Bool} {ts : List Int} {p0 p1 k : Int} (h : ¬ k = cond b p1 p0) : (cond b ts (ts ++ [p0])).count k = ts.count k := by
  cases b
  · have : p0 ≠ k := Ne.symm h
    simp [List.count_append, this]
  · rfl
theorem hr_c2 {b : Bool} {hs : List Int} {p0 p1 k : Int} (h : ¬ k = cond b p1 p0) : (cond b (hs ++ [p1]) hs).count k = hs.count k := by
  cases b
  · rfl
  · have : p1 ≠ k := Ne.symm h
    simp [List.count_append, this]
theorem hr_t {b : Bool} {D : Adr} {p0 p1 y : Int} {t0 t1 td : Tok} {na : Nat} {led : Led} (h : (D.aat, W.listOf (cond b #[.int p0 t0, .int y td] #[.int y td, .int p1 t1]) na) ∈ led) : WkT D (cond b p0 y) (cond b y p1) led := by
  cases b <;> exact ⟨_, _, _, h⟩
theorem u70 : Up 70 := by
  refine u69.step rfl ?_
  k_extra "st"
  iterate 40 k_extra "g"
  intro v0 ocw ocd led tm t0 asked hs ts marks x p1 p0 nw nt aws atab wvs tvs wns tns keep D b Q E s m h₀ base A₀ outer L gd un dp mb mg mean w B F X T N lt hcd hcw v1 v2 v3 v4 ok Wk0 mt ht mwt hwt ot owt hp hx hwx hlt hts hhs has hkp hdp hun ret
  obtain ⟨kp, ⟨ow, ad, nd, td0, td1, mw, hw, mdots, od⟩, ⟨na, ta0, ta1, mat⟩, ⟨ob, bkv, mbk, hb, zb, hbk⟩, ⟨avs, nas, mas, za, ia⟩⟩ := Wk0
  obtain ⟨ae, ac, oc, ne, tc1, tc2, tc3, tc4, ckv, cc, hval, mae, mac, hoc, hcc, hCC, lac, oae, oac⟩ := (hbk _ hp.1 hp.2).ex
  have lt1 : ∀ q ∈ led, q.1 ≠ L + 1 := fun q hq => Nat.ne_of_lt (Nat.lt_succ_of_lt (lt q hq))
  have lt2 : ∀ q ∈ led, q.1 ≠ L + 1 + 1 := fun q hq => Nat.ne_of_lt (Nat.lt_succ_of_lt (Nat.lt_succ_of_lt (lt q hq)))
  rw [hopB_eq]
  refine wpAny_execs_cons (hop0 (b := b) (v0 := v0) (rest := (L + 1, ocw) :: led) F X N T v1 ?_ hcd List.mem_cons_self hcw (List.mem_cons_of_mem _ mw) hw (List.mem_cons_of_mem _ mat) fun h1 tk1 ocd1 F1 N1 hcd1 => ?_)
  · intro q hq
    rcases List.mem_cons.mp hq with rfl | hq
    · exact Nat.ne_of_lt (Nat.lt_succ_self _)
    · exact lt2 q hq
  -- told
  have mas1 : (D.aas, W.listOf avs nas) ∈ (L + 1 + 1, ocd1) :: (L + 1, ocw) :: led := List.mem_cons_of_mem _ (List.mem_cons_of_mem _ mas)
  have c2 : L + 1 + 1 ≠ D.aas := Ne.symm (lt2 _ mas)
  have c1 : L + 1 ≠ D.aas := Ne.symm (lt1 _ mas)
  let r1 : Led := wo D.aas ((L + 1 + 1, ocd1) :: (L + 1, ocw) :: led)
  have up1 : ∀ q ∈ led, q.1 ≠ D.aas → q ∈ r1 := fun q hq hn => wo_in (List.mem_cons_of_mem _ (List.mem_cons_of_mem _ hq)) hn
  refine wpAny_execs_cons (hop1 (aas := D.aas) (avs := avs) (rest := r1) (p := cond b p1 p0) (x := x) (atab := atab) (tvs := tvs) (tns := tns) B F1 X (news_sub N1 (wo_sub mas1)) T (by omega) (by omega)
    ((if_neg (by decide)).trans ((if_neg (by decide)).trans v1)) ((if_neg (by decide)).trans (if_pos rfl)) ((if_neg (by decide)).trans ((if_neg (by decide)).trans v2)) (if_pos rfl)
    (wo_off _ _) ot.s (up1 _ mw ok.ws) hw (up1 _ (kp _ mt) ot.s) ht hx hp hlt (by rw [za]; omega) fun h2 tk2 d td na2 F2 N2 ld1 ld2 => ?_)
  have ld2' := allLt_mem ld2
  -- old, calls
  have up2 : ∀ q ∈ led, q.1 ≠ D.aas → q ∈ (d, ({ cls := .type "tuple", data := .seq #[.int (Int.fmod x 7) td, .int (Int.fmod x 7) td] } : Obj)) :: (D.aas, W.listOf (avs.push (.int (cond b p1 p0) (cond b ta1 ta0))) na2) :: r1 := fun q hq hn => List.mem_cons_of_mem _ (List.mem_cons_of_mem _ (up1 q hq hn))
  have w1r : (L + 1, ocw) ∈ r1 := wo_in (List.mem_cons_of_mem _ List.mem_cons_self) c1
  have w2r : (L + 1 + 1, ocd1) ∈ r1 := wo_in List.mem_cons_self c2
  refine wpAny_execs_cons (hop2 (b := b) (ab := D.ab) (ae := ae) (p := cond b p1 p0) (bkv := bkv) F2 X N2 T ((if_neg (by decide)).trans (if_pos rfl)) ((if_neg (by decide)).trans ((if_neg (by decide)).trans (if_pos rfl)))
    (up2 _ mbk ok.bs) hb hval (List.mem_cons_of_mem _ (List.mem_cons_of_mem _ w1r)) hcw fun h3 tk3 acl ocl tcl F3 N3 hcl lcl l3 => ?_)
  have l3' := allLt_mem l3
  generalize hl2 : (d, ({ cls := .type "tuple", data := .seq #[.int (Int.fmod x 7) td, .int (Int.fmod x 7) td] } : Obj)) :: (D.aas, W.listOf (avs.push (.int (cond b p1 p0) (cond b ta1 ta0))) na2) :: r1 = l2 at *
  -- kept
  refine wpAny_execs_cons (hop3 (ae := ae) (ac := ac) (acl := acl) B F3 X N3 T (by omega) (by omega) ((if_pos rfl)) ((if_neg (by decide)).trans (if_pos rfl))
    (List.mem_cons_of_mem _ (up2 _ mae oae.s)) (List.mem_cons_of_mem _ (up2 _ mac oac.s)) hoc lac (by have := hCC.len; have := callers_len hcc; omega) List.mem_cons_self hcl lcl (by simp) fun h4 tk4 ak k1 k2 o1 o2 F4 N4 ho1 ho2 lk1 lk2 al1 al2 al3 => ?_)
  have al1' := allLt_mem al1
  have nk1 : D.ab < k1 := al1' _ (List.mem_cons_of_mem _ (up2 _ mbk ok.bs))
  have nacl : D.ab < acl := l3' _ (up2 _ mbk ok.bs)
  have ndd : D.ab < d := ld2' _ (up1 _ mbk ok.bs)
  let l4 : Led := (ak, W.listOf #[.ref k1, .ref k2] 0) :: (k2, o2) :: (k1, o1) :: (acl, ocl) :: l2
  have in4 : ∀ q ∈ l2, q ∈ l4 := fun q hq => List.mem_cons_of_mem _ (List.mem_cons_of_mem _ (List.mem_cons_of_mem _ (List.mem_cons_of_mem _ hq)))
  have mb4 : (D.ab, ob) ∈ l4 := in4 _ (up2 _ mbk ok.bs)
  let r4 : Led := wo D.ab l4
  have up4 : ∀ q ∈ led, q.1 ≠ D.aas → q.1 ≠ D.ab → q ∈ r4 := fun q hq h1 h2 => wo_in (in4 _ (up2 _ hq h1)) h2
  obtain ⟨wt, hwt0⟩ : ∃ wt, wns[(cond b p1 p0).toNat]? = some wt := ⟨_, List.getElem?_eq_getElem (by omega)⟩
  have hwt' : wns.getD (cond b p1 p0).toNat 0 = wt := by rw [List.getD_eq_getElem?_getD, hwt0]; rfl
  -- the book's new entry
  refine wpAny_execs_cons (hop4 (b := b) (ab := D.ab) (ae := ae) (ac := ac) (acl := acl) (aws := aws) (p := cond b p1 p0) (wt := wt) (bkv := bkv) (rest := r4) (wvs := wvs) (wns := wns) (ckv := ckv) (cc := cc) B F4 X (news_sub N4 (wo_sub mb4)) T (by omega) (by omega)
    (by ktr_rel) (by ktr_rel) (by ktr_rel) (by ktr_rel) (by ktr_rel) (wo_off _ _) hb zb (up4 _ mae oae.s oae.b) (up4 _ mac oac.s oac.b) hoc lac hcc hCC.len hCC.nodup
    (wo_in (List.mem_cons_of_mem _ (List.mem_cons_of_mem _ (List.mem_cons_of_mem _ List.mem_cons_self))) (Nat.ne_of_gt nacl)) hcl lcl (up4 _ (kp _ mwt) owt.s owt.b) hwt hwt0 hp fun h5 tk5 ob5 dE dn on te1 te2 te3 te4 nkv F5 N5 hon hcan ldn lb5 al5 lE hob5 => ?_)
  have al5' := allLt_mem al5
  have w1l2 : (L + 1, ocw) ∈ l2 := hl2 ▸ List.mem_cons_of_mem _ (List.mem_cons_of_mem _ w1r)
  have w2l2 : (L + 1 + 1, ocd1) ∈ l2 := hl2 ▸ List.mem_cons_of_mem _ (List.mem_cons_of_mem _ w2r)
  have dl2 : (d, ({ cls := .type "tuple", data := .seq #[.int (Int.fmod x 7) td, .int (Int.fmod x 7) td] } : Obj)) ∈ l2 := hl2 ▸ List.mem_cons_self
  have asl2 : (D.aas, W.listOf (avs.push (.int (cond b p1 p0) (cond b ta1 ta0))) na2) ∈ l2 := hl2 ▸ List.mem_cons_of_mem _ List.mem_cons_self
  let l5 : Led := (dE, { cls := .type "tuple", data := .seq #[.int (1 + ((ts.count (cond b p1 p0) : Int) + hs.count (cond b p1 p0))) te1, .int (1 + ((ts.count (cond b p1 p0) : Int) + hs.count (cond b p1 p0))) te2, .int (wt + (((ts.count (cond b p1 p0) : Int) + hs.count (cond b p1 p0)) * wns.getD (cond b p1 p0).toNat 0)) te3, .int (-wt + (-((ts.count (cond b p1 p0) : Int) + hs.count (cond b p1 p0)) * wns.getD (cond b p1 p0).toNat 0)) te4, .ref dn] }) :: (dn, on) :: (D.ab, ob5) :: r4
  replace N5 : News h₀ L h5 l5 := N5
  have i5 : ∀ q ∈ l2, q.1 ≠ D.ab → q ∈ l5 := fun q hq hn => List.mem_cons_of_mem _ (List.mem_cons_of_mem _ (List.mem_cons_of_mem _ (wo_in (in4 _ hq) hn)))
  have up5 : ∀ q ∈ led, q.1 ≠ D.aas → q.1 ≠ D.ab → q ∈ l5 := fun q hq h1 h2 => i5 _ (up2 _ hq h1) h2
  have c1b : L + 1 ≠ D.ab := Ne.symm (lt1 _ mbk)
  have c2b : L + 1 + 1 ≠ D.ab := Ne.symm (lt2 _ mbk)
  have lens : 0 ≤ (ts.length : Int) ∧ 0 ≤ (hs.length : Int) ∧ (ts.length : Int) ≤ 60 ∧ (hs.length : Int) ≤ 60 := by omega
  refine wpAny_execs_cons (hop5 (ad := ad) F5 X N5 T (by ktr_rel) (i5 _ w2l2 c2b) hcd1 (up5 _ mdots od.s od.b) (by omega) (by omega) fun h6 tk6 tt F6 N6 => ?_)
  refine wpAny_execs_cons (hop6 (b := b) (ad := ad) B F6 X N6 T (by omega) (by omega) (by ktr_rel) (i5 _ w1l2 c1b) hcw (i5 _ w2l2 c2b) hcd1 (up5 _ mdots od.s od.b) (by omega) (by omega) (by omega) (by omega) fun h7 tk7 ts7 F7 N7 => ?_)
  refine wpAny_execs_cons (hop7 (b := b) (ad := ad) B F7 X N7 T (by omega) (by omega) (i5 _ w1l2 c1b) hcw (i5 _ w2l2 c2b) hcd1 (up5 _ mdots od.s od.b) (by omega) (by omega) fun h8 tk8 td8 F8 N8 => ?_)
  have k1k : k1 ≠ D.ab := Nat.ne_of_gt nk1
  have k2k : k2 ≠ D.ab := Nat.ne_of_gt (Nat.lt_trans nk1 al2)
  have akk : ak ≠ D.ab := Nat.ne_of_gt (Nat.lt_trans (Nat.lt_trans nk1 al2) al3)
  have i5k : ∀ q ∈ l4, q.1 ≠ D.ab → q ∈ l5 := fun q hq hn => List.mem_cons_of_mem _ (List.mem_cons_of_mem _ (List.mem_cons_of_mem _ (wo_in hq hn)))
  have mcl5 : (acl, ocl) ∈ l5 := i5k _ (List.mem_cons_of_mem _ (List.mem_cons_of_mem _ (List.mem_cons_of_mem _ List.mem_cons_self))) (Nat.ne_of_gt nacl)
  refine wpAny_execs_cons (hop8 (b := b) (ae := ae) (ac := ac) (acl := acl) (ak := ak) (k1 := k1) (k2 := k2) (atd := d) (cc := cc) (lc := [(letter b, 1)]) B F8 X N8 T (by omega) (by omega) (by ktr_rel) (by ktr_rel) (by ktr_rel) (by ktr_rel) (by ktr_rel) (by ktr_rel)
    (i5 _ dl2 (Nat.ne_of_gt ndd)) (up5 _ mae oae.s oae.b) (up5 _ mac oac.s oac.b) hoc hcc mcl5 hcl (.cons _ _ _ .nil)
    (i5k _ List.mem_cons_self akk) (i5k _ (List.mem_cons_of_mem _ (List.mem_cons_of_mem _ List.mem_cons_self)) k1k) ho1 (i5k _ (List.mem_cons_of_mem _ List.mem_cons_self) k2k) ho2
    hCC.nodup (by simp) (Nat.ne_of_lt (al1' _ (List.mem_cons_of_mem _ (up2 _ mac oac.s)))) (Nat.ne_of_lt (Nat.lt_trans (al1' _ List.mem_cons_self) al2)) lac lcl lk1 lk2 fun h9 tk9 F9 N9 => ?_)
  -- dots
  have mw5 : (D.aw, ow) ∈ l5 := up5 _ mw ok.ws ok.wb
  let r9 : Led := wo D.aw l5
  refine wpAny_execs_cons (hop9 (b := b) (aw := D.aw) (aat := D.aat) (ab := D.ab) (aas := D.aas) (ad := ad) (rest := r9) B F9 X (news_sub N9 (wo_sub mw5)) T (by omega) (by omega) (by ktr_rel) (by ktr_rel) (wo_off _ _) hw (by omega) (by omega) fun h10 tk10 ad' o10 t10 t11 n10 F10 N10 of10 ne10 ho10 => ?_)
  let l9 : Led := (ad', W.listOf #[.int (1 + (ts.length : Int) + cond b 0 1) t10, .int (1 + (hs.length : Int) + cond b 1 0) t11] n10) :: (D.aw, o10) :: r9
  have i9 : ∀ q ∈ l5, q.1 ≠ D.aw → q ∈ l9 := fun q hq hn => List.mem_cons_of_mem _ (List.mem_cons_of_mem _ (wo_in hq hn))
  have off10 := off1_mem of10
  have mat9 : (D.aat, W.listOf #[.int p0 ta0, .int p1 ta1] na) ∈ l9 := i9 _ (up5 _ mat ok.ts ok.tb) (Ne.symm ok.wt)
  let r10 : Led := wo D.aat l9
  have up10 : ∀ q ∈ l5, q.1 ≠ D.aw → q.1 ≠ D.aat → q ∈ r10 := fun q hq h1 h2 => wo_in (i9 _ hq h1) h2
  have dw : d ≠ D.aw := Nat.ne_of_gt (ld2' _ (up1 _ mw ok.ws))
  have dt' : d ≠ D.aat := Nat.ne_of_gt (ld2' _ (up1 _ mat ok.ts))
  refine wpAny_execs_cons (hop10 (b := b) (aw := D.aw) (aat := D.aat) (ab := D.ab) (aas := D.aas) (ad := ad') (atd := d) (ow := o10) (rest := r10) F10 X (news_sub N10 (wo_sub mat9)) T (by ktr_rel) (by ktr_rel) (wo_off _ _)
    (up10 _ (i5 _ w1l2 c1b) (Ne.symm (lt1 _ mw)) (Ne.symm (lt1 _ mat))) hcw (wo_in (List.mem_cons_of_mem _ List.mem_cons_self) ok.wt) ho10 (up10 _ (i5 _ dl2 (Nat.ne_of_gt ndd)) dw dt') fun h11 tk11 na11 F11 N11 => ?_)
  refine wpAny_execs_nil (ret _ _ _ _ F11 N11 ?_)
  have b5 : (D.ab, ob5) ∈ l5 := List.mem_cons_of_mem _ (List.mem_cons_of_mem _ List.mem_cons_self)
  have as5 := i5 _ asl2 (Ne.symm ok.bs)
  have fin5 : ∀ q ∈ l5, q.1 ≠ D.aw → q.1 ≠ D.aat → q ∈ (D.aat, W.listOf (cond b #[.int p0 ta0, .int (Int.fmod x 7) td] #[.int (Int.fmod x 7) td, .int p1 ta1]) na11) :: r10 := fun q hq h1 h2 => List.mem_cons_of_mem _ (up10 _ hq h1 h2)
  have fin : ∀ q ∈ led, Off4 D q.1 → q ∈ (D.aat, W.listOf (cond b #[.int p0 ta0, .int (Int.fmod x 7) td] #[.int (Int.fmod x 7) td, .int p1 ta1]) na11) :: r10 := fun q hq o => fin5 _ (up5 _ hq o.s o.b) o.w o.t
  have od' : Off4 D ad' := ⟨Ne.symm ne10, Ne.symm (off10 _ (wo_in (up5 _ mat ok.ts ok.tb) (Ne.symm ok.wt))), Ne.symm (off10 _ (wo_in b5 (Ne.symm ok.wb))), Ne.symm (off10 _ (wo_in as5 (Ne.symm ok.ws)))⟩
  have odn : Off4 D dn := ⟨Nat.ne_of_gt (al5' _ (up4 _ mw ok.ws ok.wb)), Nat.ne_of_gt (al5' _ (up4 _ mat ok.ts ok.tb)), Nat.ne_of_gt lb5, Nat.ne_of_gt (al5' _ (wo_in (in4 _ asl2) (Ne.symm ok.bs)))⟩
  have odE : Off4 D dE := ⟨Nat.ne_of_gt (Nat.lt_trans (al5' _ (up4 _ mw ok.ws ok.wb)) lE), Nat.ne_of_gt (Nat.lt_trans (al5' _ (up4 _ mat ok.ts ok.tb)) lE), Nat.ne_of_gt (Nat.lt_trans lb5 lE), Nat.ne_of_gt (Nat.lt_trans (al5' _ (wo_in (in4 _ asl2) (Ne.symm ok.bs))) lE)⟩
  refine ⟨fun q hq => fin _ (kp q hq) (hkp q hq), ⟨o10, ad', n10, t10, t11, List.mem_cons_of_mem _ (wo_in (List.mem_cons_of_mem _ List.mem_cons_self) ok.wt), ho10, ?_, od'⟩, ?_, ⟨ob5, stored bkv (cond b p1 p0) (.ref dE), fin5 _ b5 (Ne.symm ok.wb) (Ne.symm ok.tb), hob5, ?_, fun k hk0 hk6 => ?_⟩, ⟨_, _, fin5 _ as5 (Ne.symm ok.ws) (Ne.symm ok.ts), ?_, ?_⟩⟩
  · rw [hr_e0, hr_e1]
    exact List.mem_cons_of_mem _ (wo_in List.mem_cons_self od'.t)
  · exact hr_t List.mem_cons_self
  · rw [stored_len _ _ _ (by rw [hval]; rfl)]; exact zb
  · by_cases hkp' : k = cond b p1 p0
    · subst hkp'
      refine ⟨dE, dn, on, 0, te1, te2, te3, te4, nkv, bump cc (letter b), valueAt_stored_self _ _ _, ?_, fin5 _ (List.mem_cons_of_mem _ List.mem_cons_self) odn.w odn.t, hon, hcan, ?_, ldn, odE, odn⟩
      · have q := fin5 _ (List.mem_cons_self : (dE, _) ∈ l5) odE.w odE.t
        rw [hr_z1, hr_z2 hwt', hr_z3 hwt']
        exact q
      · exact hr_cc hCC
    · rw [hr_c1 hkp', hr_c2 hkp']
      exact (hbk k hk0 hk6).move (valueAt_stored_ne _ _ _ _ hkp') fin
  · simp [za]
  · rw [Array.toList_push]
    exact ia.append (.cons _ _ .nil)

theorem hop_run : ∀ {w a c d e f g L outer h base h₀ m s E Q b D keep tns wns tvs wvs atab aws i nw p0 p1 x marks ts hs asked j tm k l n v0}, @T70 w a c d e f g L outer h base h₀ m s E Q b D keep tns wns tvs wvs atab aws i nw p0 p1 x marks ts hs asked j tm k l n v0 := no_implicit_lambda% (u70.get rfl)
end
section
variable {Q : Value → Shared → Prop} {cn : Str} {cs : Scope} {a : Addr} {ccd : Value} {cl : List (Str × Addr)}

set_option maxRecDepth 100000 in
theorem hop_ok {b : Bool} {D : Adr} {keep : Led} {tns wns : List Int} {tvs wvs : List Value} {atab aws : Addr} {nt nw : Nat} {p0 p1 x marks : Int} {ts hs asked : List Int} {t0 tm : Tok}
    (B : Below A₀ base outer h₀) (F : Fr h₀ L s.heap m) (X : (h0.heap_1 w.params).In h₀) (N : News h₀ L s.heap news) (T : TopX mean mg mb h₀) (hk : cs.kind = .function)
    (ok : D.Ok) (Wk0 : Wk w D keep wns p0 p1 ts hs asked news)
    (mt : (atab, W.listOf tvs.toArray nt) ∈ keep) (ht : IntsAre tvs tns) (mw : (aws, W.listOf wvs.toArray nw) ∈ keep) (hw : IntsAre wvs wns) (ot : Off4 D atab) (ow : Off4 D aws)
    (hp : 0 ≤ cond b p1 p0 ∧ cond b p1 p0 < 6) (hx : tns[(cond b p1 p0).toNat]? = some x) (hwx : wns.length = 6) (hlt : Int.fmod x 7 < 6) (hts : ts.length ≤ 60) (hhs : hs.length ≤ 60) (has : asked.length ≤ 60) (hkp : ∀ q ∈ keep, Off4 D q.1)
    (hdp : dp + 40 < recursionLimit) (hun : un + 400 < cLine)
    (ret : ∀ led' h' tk', Fr h₀ L h' m → News h₀ L h' led' → Wk w D keep wns (cond b p0 (Int.fmod x 7)) (cond b (Int.fmod x 7) p1) (cond b ts (ts ++ [p0])) (cond b (hs ++ [p1]) hs) (asked ++ [cond b p1 p0]) led' → Q .none { s with heap := h', toks := tk' }) :
    wpAny (model PG w) (ktrTop dp un gd cn cs L a ccd cl outer) (call (.ref 233) [.ref D.aw, .int (cond b 1 0) t0, .ref atab, .ref aws, .int marks tm]) Q E s := by
  refine wpAny_call ?_
  k_dflt k_enter
  rename_i FG1 F1 B1 X1 T1 l1 o1 o2 d1 d2 N1
  refine' cut_execs (l' := hopB) (env' := envH _) rfl rfl ?_
  show wpAny _ (arH (dp + 1) (un + 3) gd _ (envX cn cs L a ccd cl :: outer)) _ _ _ _
  refine hop_run (b := b) (D := D) (keep := keep) (tns := tns) (wns := wns) (p0 := p0) (p1 := p1) (x := x) (ts := ts) (hs := hs) (asked := asked) B1 F1 X1 T1 N1 (allLt_mem l1) d1 d2 rfl rfl rfl rfl ok Wk0 mt ht mw hw ot ow hp hx hwx hlt hts hhs has hkp (by omega) (by omega) fun led' h' tk' m' F' N' W' => ?_
  refine leaveK_ F' N' fun kF kN => ?_
  exact ret _ _ _ kF kN W'

end
end
section -- W2
section

theorem hop_runr {b : Bool} {D : Adr} {keep : Led} {tns wns : List Int} {tvs : List Value} {atab : Addr} {nt : Nat} {p0 p1 x : Int} {ts hs asked : List Int} {t0 : Tok} {led : Led} {ocd ocw : Obj} {v0 : Option Value}
    (B : Below A₀ base outer h₀) (F : Fr h₀ L s.heap m) (X : (h0.heap_1 w.params).In h₀) (T : TopX mean mg mb h₀) (N : News h₀ L s.heap ((L + 1 + 1, ocd) :: (L + 1, ocw) :: led)) (lt : ∀ q ∈ led, q.1 < L)
    (hcd : ocd.data = .cell v0) (hcw : ocw.data = .cell (some (.int (cond b 1 0) t0)))
    (v1 : m (Str.ofString "walk") = some (.ref D.aw)) (v2 : m (Str.ofString "table") = some (.ref atab))
    (ok : D.Ok) (Wk0 : Wk w D keep wns p0 p1 ts hs asked led)
    (mt : (atab, W.listOf tvs.toArray nt) ∈ keep) (ht : IntsAre tvs tns) (ot : Off4 D atab)
    (hp : 0 ≤ cond b p1 p0 ∧ cond b p1 p0 < 6) (hx : tns[(cond b p1 p0).toNat]? = some x) (hlt : ¬ Int.fmod x 7 < 6) (has : asked.length ≤ 60) (hkp : ∀ q ∈ keep, Off4 D q.1)
    (hdp : dp + 35 < recursionLimit) (hun : un + 350 < cLine)
    (exc : ∀ e C D' es n vs sl G led' h' tk' m', RefIs D.ab (cond b p1 p0) C es → Fr h₀ L G m' → RaisedX base G (envH L :: outer) e ⟨.ref C, some D', .fields vs, sl⟩ ((D', dictOf es n) :: led') h' → G.UpToSlots h' → Wk w D keep wns p0 p1 ts hs (asked ++ [cond b p1 p0]) led' → E (.ref e) { s with heap := h', toks := tk' }) :
    wpAny (model PG w) (arH dp un gd L outer) (execs hopB (envH L)) Q E s := by
  obtain ⟨kp, ⟨ow, ad, nd, td0, td1, mw, hw, mdots, od⟩, ⟨na, ta0, ta1, mat⟩, ⟨ob, bkv, mbk, hb, zb, hbk⟩, ⟨avs, nas, mas, za, ia⟩⟩ := Wk0
  have lt1 : ∀ q ∈ led, q.1 ≠ L + 1 := fun q hq => Nat.ne_of_lt (Nat.lt_succ_of_lt (lt q hq))
  have lt2 : ∀ q ∈ led, q.1 ≠ L + 1 + 1 := fun q hq => Nat.ne_of_lt (Nat.lt_succ_of_lt (Nat.lt_succ_of_lt (lt q hq)))
  rw [hopB_eq]
  refine wpAny_execs_cons (hop0 (b := b) (v0 := v0) (rest := (L + 1, ocw) :: led) F X N T v1 ?_ hcd List.mem_cons_self hcw (List.mem_cons_of_mem _ mw) hw (List.mem_cons_of_mem _ mat) fun h1 tk1 ocd1 F1 N1 hcd1 => ?_)
  · intro q hq
    rcases List.mem_cons.mp hq with rfl | hq
    · exact Nat.ne_of_lt (Nat.lt_succ_self _)
    · exact lt2 q hq
  have mas1 : (D.aas, W.listOf avs nas) ∈ (L + 1 + 1, ocd1) :: (L + 1, ocw) :: led := List.mem_cons_of_mem _ (List.mem_cons_of_mem _ mas)
  let r1 : Led := wo D.aas ((L + 1 + 1, ocd1) :: (L + 1, ocw) :: led)
  have up1 : ∀ q ∈ led, q.1 ≠ D.aas → q ∈ r1 := fun q hq hn => wo_in (List.mem_cons_of_mem _ (List.mem_cons_of_mem _ hq)) hn
  refine wpAny_execs_cons (hop1r (aas := D.aas) (avs := avs) (rest := r1) (p := cond b p1 p0) (x := x) (atab := atab) (tvs := tvs) (tns := tns) B F1 X (news_sub N1 (wo_sub mas1)) T (by omega) (by omega)
    ((if_neg (by decide)).trans ((if_neg (by decide)).trans v1)) ((if_neg (by decide)).trans (if_pos rfl)) ((if_neg (by decide)).trans ((if_neg (by decide)).trans v2)) (if_pos rfl)
    (wo_off _ _) (up1 _ mw ok.ws) hw (up1 _ (kp _ mt) ot.s) ht hx hp hlt (by rw [za]; omega) fun e C D' es n vs sl na' G h' tk' hR hF hX hU => ?_)
  have fin : ∀ q ∈ led, q.1 ≠ D.aas → q ∈ (D.aas, W.listOf (avs.push (.int (cond b p1 p0) (cond b ta1 ta0))) na') :: r1 := fun q hq hn => List.mem_cons_of_mem _ (up1 q hq hn)
  refine exc _ _ _ _ _ _ _ _ _ _ _ _ hR hF hX hU ⟨fun q hq => fin _ (kp q hq) (hkp q hq).s, ⟨ow, ad, nd, td0, td1, fin _ mw ok.ws, hw, fin _ mdots od.s, od⟩, ⟨na, ta0, ta1, fin _ mat ok.ts⟩, ⟨ob, bkv, fin _ mbk ok.bs, hb, zb, fun k k0 k6 => (hbk k k0 k6).move rfl fun q hq o => fin _ hq o.s⟩, ⟨_, _, List.mem_cons_self, ?_, ?_⟩⟩
  · simp [za]
  · rw [Array.toList_push]
    exact ia.append (.cons _ _ .nil)

end
section
variable {Q : Value → Shared → Prop} {cn : Str} {cs : Scope} {a : Addr} {ccd : Value} {cl : List (Str × Addr)}

set_option maxRecDepth 100000 in
theorem u71 : Up 71 := by
  refine u70.step rfl ?_
  k_extra "st"
  iterate 40 k_extra "g"
  intro tm t0 asked hs ts marks x p1 p0 nt aws atab tvs wns tns keep D b
  k_extra "i1"
  intro B F X N T hk ok Wk0 mt ht ot hp hx hlt has hkp hdp hun exc
  refine wpAny_call ?_
  k_with "zon" => (fail_if_success k_extra "zf14")
  k_dflt k_enter
  k_with "zf14" => skip
  rename_i FG1 F1 B1 X1 T1 l1 o1 o2 d1 d2 N1
  refine' cut_execs (l' := hopB) (env' := envH _) rfl rfl ?_
  show wpAny _ (arH (dp + 1) (un + 3) gd _ (envX cn cs L a ccd cl :: outer)) _ _ _ _
  refine hop_runr (b := b) (D := D) (keep := keep) (tns := tns) (wns := wns) (p0 := p0) (p1 := p1) (x := x) (ts := ts) (hs := hs) (asked := asked) B1 F1 X1 T1 N1 (allLt_mem l1) d1 d2 rfl rfl ok Wk0 mt ht ot hp hx hlt has hkp (by omega) (by omega) fun e C D' es n vs sl G led' h' tk' m' hR hF hX hU hW => ?_
  exact leave_onE rfl B1 hF hX hU fun h'' R'' U'' => exc _ _ _ _ _ _ _ _ _ _ _ hR FG1 R'' U'' hW

theorem hop_ref : ∀ {w c d e f g h L outer i base h₀ m s E news Q cn j a ccd cl b D keep tns wns tvs atab aws k p0 p1 x marks ts hs asked l tm}, @T71 w c d e f g h L outer i base h₀ m s E news Q cn j a ccd cl b D keep tns wns tvs atab aws k p0 p1 x marks ts hs asked l tm := no_implicit_lambda% (u71.get rfl)
end
end
section -- W7
theorem Wk.mono {w : World} {D : Adr} {keep : Led} {wns : List Int} {p0 p1 : Int} {ts hs asked : List Int} {led led' : Led} (W : Wk w D keep wns p0 p1 ts hs asked led) (h : ∀ q ∈ led, q ∈ led') : Wk w D keep wns p0 p1 ts hs asked led' := by
  obtain ⟨kp, ⟨ow, ad, nd, td0, td1, mw, hw, mdots, od⟩, ⟨na, ta0, ta1, mat⟩, ⟨ob, bkv, mbk, hb, zb, hbk⟩, ⟨avs, nas, mas, za, ia⟩⟩ := W
  exact ⟨fun q hq => h _ (kp q hq), ⟨ow, ad, nd, td0, td1, h _ mw, hw, h _ mdots, od⟩, ⟨na, ta0, ta1, h _ mat⟩, ⟨ob, bkv, h _ mbk, hb, zb, fun k k0 k6 => (hbk k k0 k6).move rfl fun q hq _ => h q hq⟩, ⟨avs, nas, h _ mas, za, ia⟩⟩
theorem Wk.rekeep {w : World} {D : Adr} {keep keep' : Led} {wns : List Int} {p0 p1 : Int} {ts hs asked : List Int} {led : Led} (W : Wk w D keep wns p0 p1 ts hs asked led) (h : ∀ q ∈ keep', q ∈ led) : Wk w D keep' wns p0 p1 ts hs asked led := by
  obtain ⟨kp, a, b, c, d⟩ := W
  exact ⟨h, a, b, c, d⟩
theorem IsDictOf_cls {K : Type} [DecidableEq K] {prog : Program} {w : World} {knd : KeyKind prog w K} {o : Obj} {kvs : List (K × Value)} (h : o.IsDictOf knd kvs) : o.cls = .type "dict" := by
  obtain ⟨es, ep, hx, _⟩ := h
  exact hx.1
theorem Wk.drop {w : World} {D : Adr} {keep : Led} {wns : List Int} {p0 p1 : Int} {ts hs asked : List Int} {led : Led} {h₀ h : Heap} {L I : Addr} {oI : Obj} (W : Wk w D keep wns p0 p1 ts hs asked led) (N : News h₀ L h led) (hI : (I, oI) ∈ led)
    (hc : oI.cls ≠ .type "list" ∧ oI.cls ≠ .type "dict" ∧ oI.cls ≠ .type "tuple") (hk : ∀ q ∈ keep, q.1 ≠ I) : Wk w D keep wns p0 p1 ts hs asked (wo I led) := by
  have ne : ∀ a o, (a, o) ∈ led → o.cls ≠ oI.cls → (a, o) ∈ wo I led := fun a o hm hn => wo_in hm fun e => by
    have h1 := (N _ hm).1
    have h2 := (N _ hI).1
    have e' : a = I := e
    rw [e', h2] at h1
    exact hn (congrArg Obj.cls (Option.some.inj h1)).symm
  obtain ⟨kp, ⟨ow, ad, nd, td0, td1, mw, hw, mdots, od⟩, ⟨na, ta0, ta1, mat⟩, ⟨ob, bkv, mbk, hb, zb, hbk⟩, ⟨avs, nas, mas, za, ia⟩⟩ := W
  refine ⟨fun q hq => wo_in (kp q hq) (hk q hq), ⟨ow, ad, nd, td0, td1, ne _ _ mw (by rw [IsDictOf_cls hw]; exact Ne.symm hc.2.1), hw, ne _ _ mdots (Ne.symm hc.1), od⟩, ⟨na, ta0, ta1, ne _ _ mat (Ne.symm hc.1)⟩, ⟨ob, bkv, ne _ _ mbk (by rw [IsDictOf_cls hb]; exact Ne.symm hc.2.1), hb, zb, fun k k0 k6 => ?_⟩, ⟨avs, nas, ne _ _ mas (Ne.symm hc.1), za, ia⟩⟩
  obtain ⟨ae, ac, oc, nn, tc1, tc2, tc3, tc4, ckv, cc, hval, mae, mac, hoc, hcc, hCC, lac, oae, oac⟩ := (hbk k k0 k6).ex
  exact ⟨ae, ac, oc, nn, tc1, tc2, tc3, tc4, ckv, cc, hval, ne _ _ mae (Ne.symm hc.2.2), ne _ _ mac (by rw [IsDictOf_cls hoc]; exact Ne.symm hc.2.1), hoc, hcc, hCC, lac, oae, oac⟩
theorem Sg.mono {w : World} {D : Adr} {keep : Led} {tns wns pre : List Int} {s0 : Int} {a b : Nat} {led led' : Led} (W : Sg w D keep tns wns s0 pre a b led) (h : ∀ q ∈ led, q ∈ led') : Sg w D keep tns wns s0 pre a b led' :=
  let ⟨as, W, e⟩ := W; ⟨as, W.mono h, e⟩
theorem Sg.drop {w : World} {D : Adr} {keep : Led} {tns wns pre : List Int} {s0 : Int} {a b : Nat} {led : Led} {h₀ h : Heap} {L I : Addr} {oI : Obj} (W : Sg w D keep tns wns s0 pre a b led) (N : News h₀ L h led) (hI : (I, oI) ∈ led)
    (hc : oI.cls ≠ .type "list" ∧ oI.cls ≠ .type "dict" ∧ oI.cls ≠ .type "tuple") (hk : ∀ q ∈ keep, q.1 ≠ I) : Sg w D keep tns wns s0 pre a b (wo I led) :=
  let ⟨as, W, e⟩ := W; ⟨as, W.drop N hI hc hk, e⟩
theorem Wk.offs {w : World} {D : Adr} {keep : Led} {wns : List Int} {p0 p1 : Int} {ts hs asked : List Int} {led : Led} {I : Addr} (W : Wk w D keep wns p0 p1 ts hs asked led) (h : ∀ q ∈ led, q.1 ≠ I) : Off4 D I := by
  obtain ⟨kp, ⟨ow, ad, nd, td0, td1, mw, hw, mdots, od⟩, ⟨na, ta0, ta1, mat⟩, ⟨ob, bkv, mbk, hb, zb, hbk⟩, ⟨avs, nas, mas, za, ia⟩⟩ := W
  exact ⟨Ne.symm (h _ mw), Ne.symm (h _ mat), Ne.symm (h _ mbk), Ne.symm (h _ mas)⟩
theorem Sg.offs {w : World} {D : Adr} {keep : Led} {tns wns pre : List Int} {s0 : Int} {a b : Nat} {led : Led} {I : Addr} (W : Sg w D keep tns wns s0 pre a b led) (h : ∀ q ∈ led, q.1 ≠ I) : Off4 D I :=
  let ⟨_, W, _⟩ := W; W.offs h
theorem Sg.keeps {w : World} {D : Adr} {keep : Led} {tns wns pre : List Int} {s0 : Int} {a b : Nat} {led : Led} (W : Sg w D keep tns wns s0 pre a b led) : ∀ q ∈ keep, q ∈ led :=
  let ⟨_, W, _⟩ := W; W.keep
theorem Asked.step {ts hs asked : List Int} (h : Asked ts hs asked) (c : Bool) (p0 p1 : Int) : Asked (cond c ts (ts ++ [p0])) (cond c (hs ++ [p1]) hs) (asked ++ [cond c p1 p0]) := by
  obtain ⟨h1, h2⟩ := h
  cases c
  · refine ⟨by simp [h1]; omega, fun k => ?_⟩
    have := h2 k
    simp only [cond, List.count_append]
    omega
  · refine ⟨by simp [h1]; omega, fun k => ?_⟩
    have := h2 k
    simp only [cond, List.count_append]
    omega
theorem Asked.more {ts hs asked : List Int} (h : Asked ts hs asked) (p : Int) : ∀ k, (asked ++ [p]).count k = ts.count k + hs.count k + (if k = p then 1 else 0) := fun k => by
  rw [List.count_append, h.2 k]
  by_cases e : k = p
  · subst e; simp
  · rw [if_neg e]
    simp [Ne.symm e]
theorem FV.set {D : Adr} {atab aws arow aj : Addr} {start marks : Int} {tm tst : Tok} {m : Str → Option Value} (h : FV D atab aws arow aj start marks tm tst m) {x : Str} {v : Value} (hx : x = Str.ofString "who" ∨ x = Str.ofString "_") : FV D atab aws arow aj start marks tm tst (fun y => if y = x then some v else m y) := by
  rcases hx with rfl | rfl <;>
  exact ⟨(if_neg (by decide)).trans h.walk, (if_neg (by decide)).trans h.start, (if_neg (by decide)).trans h.table, (if_neg (by decide)).trans h.weights, (if_neg (by decide)).trans h.marks, (if_neg (by decide)).trans h.rows, (if_neg (by decide)).trans h.judge⟩
section
variable {prog : Program} {w : World} {A : Around} {E : Value → Shared → Prop} {s : Shared} {env : Env} {h₀ : Heap} {m : Str → Option Value} {news : Led}
theorem assign_local {x : Str} {px : Pos} {v : Value} {Q : Unit → Shared → Prop} (F : Fr h₀ env.locals s.heap m) (N : News h₀ env.locals s.heap news) (hx : env.kindOf x = some .local) (hp : (env.scope.kind == .class || (env.scope.kind == .module && env.locals != env.globals)) = false)
    (h : ∀ h' tk, Fr h₀ env.locals h' (fun y => if y = x then some v else m y) → News h₀ env.locals h' news → Q () { s with heap := h', toks := tk }) : wpAny (model prog w) A (assign (.Name x px) env v) Q E s := by
  refine wpAny_assign_Name (wpAny_storeName_local hx F.ns (fun h₂ hn₂ hs₂ => ?_) hp)
  have hL₀ : h₀.get? env.locals = none := Heap.get?_none_of_le F.above
  exact h h₂ _ ⟨hn₂, fun b o e => hs₂.extBut b o (fun q => by rw [q, hL₀] at e; cases e) (F.keep b o e), F.above⟩ fun p hp => ⟨hs₂.extBut _ _ (N p hp).2.1 (N p hp).1, (N p hp).2⟩
end
end
section -- M1
theorem orb_take (tns : List Int) (s0 : Int) {n N : Nat} (h : n ≤ N) : (orb tns s0 N).take n = orb tns s0 n := by
  unfold orb
  rw [← List.map_take, List.take_range, Nat.min_eq_left h]
theorem orb_get (tns : List Int) (s0 : Int) {n N : Nat} (h : n < N) : (orb tns s0 N)[n]? = some (orbF tns s0 n) := by
  unfold orb
  rw [List.getElem?_map, List.getElem?_range h]
  rfl
theorem orb_getD (tns : List Int) (s0 : Int) {n N : Nat} (h : n < N) : (orb tns s0 N).getD n 0 = orbF tns s0 n := by
  rw [List.getD_eq_getElem?_getD, orb_get tns s0 h]; rfl
theorem orb_drop_get (tns : List Int) (s0 : Int) {n N a : Nat} (h : a + n < N) : ((orb tns s0 N).drop a)[n]? = some (orbF tns s0 (a + n)) := by
  rw [List.getElem?_drop, orb_get tns s0 h]
theorem orb_drop_take (tns : List Int) (s0 : Int) {a r N : Nat} (h : a + r ≤ N) : ((orb tns s0 N).drop a).take r = (List.range r).map fun i => orbF tns s0 (a + i) := by
  apply List.ext_getElem?
  intro n
  by_cases hn : n < r
  · rw [List.getElem?_take_of_lt hn, orb_drop_get tns s0 (by omega), List.getElem?_map, List.getElem?_range hn]; rfl
  · rw [List.getElem?_eq_none (by rw [List.length_take, List.length_drop, orb_len]; omega), List.getElem?_eq_none (by simp; omega)]
theorem orb_add (tns : List Int) (s0 : Int) (a b : Nat) : orb tns s0 (a + b) = orb tns s0 a ++ (List.range b).map fun i => orbF tns s0 (a + i) := by
  induction b with
  | zero => simp
  | succ b ih => rw [← Nat.add_assoc, orb_succ, ih, List.range_succ, List.map_append, List.append_assoc]; rfl
section
variable {tns : List Int} {s0 : Int} {t r : Nat}
theorem Ring.far (h : Ring tns s0 t r) (k : Nat) : orb tns s0 (t + k * r) = orb tns s0 t ++ (List.replicate k ((List.range r).map fun i => orbF tns s0 (t + i))).flatten := by
  induction k with
  | zero => simp
  | succ k ih =>
    rw [Nat.succ_mul, ← Nat.add_assoc, orb_add, ih, List.replicate_succ', List.flatten_append, List.append_assoc]
    congr 2
    simp only [List.flatten_cons, List.flatten_nil, List.append_nil]
    apply List.map_congr_left
    intro i _
    have := h.pers (n := t + i) (by omega) k
    rw [show t + k * r + i = t + i + k * r by omega]
    exact this
theorem Ring.farR (h : Ring tns s0 t r) : Mine.farR (orb tns s0 7) t r = orb tns s0 (t + 20 * r) := by
  have := h.tr
  rw [Mine.farR, orb_take tns s0 (by omega), orb_drop_take tns s0 (by omega), h.far 20]
theorem Ring.ringP (h : Ring tns s0 t r) {k : Nat} (hk : k < 6) : Mine.ringP (orb tns s0 7) k = true ↔ t ≤ k ∧ k + r ≤ 6 := by
  have tr := h.tr
  have r1 := h.r1
  rw [Mine.ringP, decide_eq_true_iff, orb_getD tns s0 (by omega), List.mem_iff_getElem?]
  constructor
  · rintro ⟨n, hn⟩
    have hl : k + 1 + n < 7 := by
      have := (List.getElem?_eq_some_iff.mp hn).1
      rw [List.length_drop, orb_len] at this
      omega
    rw [orb_drop_get tns s0 hl] at hn
    have e := (h.eq_iff (k + 1 + n) k).mp (Option.some.inj hn)
    unfold Mine.idx at e
    have d := Nat.div_add_mod (k + 1 + n - t) r
    have d2 := Nat.div_add_mod (k - t) r
    have m1 := Nat.mod_lt (k + 1 + n - t) r1
    have m2 := Nat.mod_lt (k - t) r1
    by_cases c : k < t
    · rw [if_pos c] at e
      split at e <;> omega
    · rw [if_neg c, if_neg (by omega)] at e
      refine ⟨by omega, ?_⟩
      have q : (k + 1 + n - t) % r = (k - t) % r := by omega
      have q2 : (k - t) / r < (k + 1 + n - t) / r := by
        rcases Nat.lt_or_ge ((k - t) / r) ((k + 1 + n - t) / r) with c2 | c2
        · exact c2
        · have := Nat.mul_le_mul_left r c2
          omega
      have q3 := Nat.mul_le_mul_left r (Nat.succ_le_of_lt q2)
      rw [Nat.mul_succ] at q3
      omega
  · rintro ⟨a, b⟩
    refine ⟨r - 1, ?_⟩
    rw [orb_drop_get tns s0 (by omega), show k + 1 + (r - 1) = k + r by omega, h.per a]
theorem Ring.idxOf (h : Ring tns s0 t r) : orbF tns s0 t ∈ (orb tns s0 7).drop (t + 1) ∧ (((orb tns s0 7).drop (t + 1)).idxOf (orbF tns s0 t) : Int) = (r : Int) - 1 := by
  have tr := h.tr
  have r1 := h.r1
  have g : ((orb tns s0 7).drop (t + 1))[r - 1]? = some (orbF tns s0 t) := by
    rw [orb_drop_get tns s0 (by omega), show t + 1 + (r - 1) = t + r by omega, h.back]
  have hm := List.mem_of_getElem? g
  refine ⟨hm, ?_⟩
  have hlt := List.idxOf_lt_length_of_mem hm
  have hget := List.getElem_idxOf hlt
  have hle : ((orb tns s0 7).drop (t + 1)).idxOf (orbF tns s0 t) = r - 1 := by
    rcases Nat.lt_trichotomy (((orb tns s0 7).drop (t + 1)).idxOf (orbF tns s0 t)) (r - 1) with q | q | q
    · exfalso
      have e := List.getElem?_eq_getElem hlt
      rw [hget, orb_drop_get tns s0 (by omega)] at e
      exact h.inj t (t + 1 + ((orb tns s0 7).drop (t + 1)).idxOf (orbF tns s0 t)) (by omega) (by omega) (Option.some.inj e).symm
    · exact q
    · exfalso
      obtain ⟨h1, h2⟩ := List.getElem?_eq_some_iff.mp g
      have := List.not_of_lt_findIdx (p := (· == orbF tns s0 t)) (xs := (orb tns s0 7).drop (t + 1)) (i := r - 1) q
      rw [h2] at this
      simp at this
  omega
set_option synthInstance.maxSize 100000 in
set_option synthInstance.maxHeartbeats 400000 in
theorem met_min : ∀ t < 6, ∀ r < 7, 1 ≤ r → t + r ≤ 6 → ∀ k < 8, 1 ≤ k → Mine.idx t r k = Mine.idx t r (2 * k) → (∀ i < 8, 1 ≤ i → i < k → Mine.idx t r i ≠ Mine.idx t r (2 * i)) → k = Mine.metR t r := by decide +kernel
set_option synthInstance.maxSize 100000 in
set_option synthInstance.maxHeartbeats 400000 in
theorem tail_min : ∀ t < 6, ∀ r < 7, 1 ≤ r → t + r ≤ 6 → ∀ j < 6, Mine.idx t r j = Mine.idx t r (2 * Mine.metR t r + j) → (∀ i < 6, i < j → Mine.idx t r i ≠ Mine.idx t r (2 * Mine.metR t r + i)) → j = t := by decide +kernel
set_option synthInstance.maxSize 100000 in
set_option synthInstance.maxHeartbeats 400000 in
theorem ring_min : ∀ t < 6, ∀ r < 7, 1 ≤ r → t + r ≤ 6 → ∀ x < 7, 1 ≤ x → Mine.idx t r t = Mine.idx t r (2 * Mine.metR t r + t + x) → (∀ i < 7, 1 ≤ i → i < x → Mine.idx t r t ≠ Mine.idx t r (2 * Mine.metR t r + t + i)) → x = r := by decide +kernel
set_option synthInstance.maxSize 100000 in
set_option synthInstance.maxHeartbeats 400000 in
theorem met_bound : ∀ t < 6, ∀ r < 7, 1 ≤ r → t + r ≤ 6 → Mine.metR t r ≤ 6 ∧ 2 * Mine.metR t r + t + r ≤ t + 20 * r ∧ Mine.metR t r ≤ t + 20 * r ∧ Mine.metR t r * 2 % r = 0 := by decide +kernel
theorem u72 : Up 72 := by
  refine u71.step rfl ?_
  k_extra "st"
  iterate 7 k_extra "g"
  intro x j k r t s0 tns h k1 k7 ke kl j5 je jl x1 x6 xe xl
  have tr := h.tr
  have r1 := h.r1
  have e1 : k = metR t r := met_min t (by omega) r (by omega) r1 tr k (by omega) k1 ((h.eq_iff _ _).mp ke) fun i _ i1 ik q => kl i i1 ik ((h.eq_iff _ _).mpr q)
  subst e1
  have e2 : j = t := tail_min t (by omega) r (by omega) r1 tr j (by omega) ((h.eq_iff _ _).mp je) fun i _ ik q => jl i ik ((h.eq_iff _ _).mpr q)
  subst e2
  have e3 : x = r := ring_min j (by omega) r (by omega) r1 tr x (by omega) x1 ((h.eq_iff _ _).mp xe) fun i _ i1 ik q => xl i i1 ik ((h.eq_iff _ _).mpr q)
  subst e3
  obtain ⟨b0, b1, b2, b3⟩ := met_bound j (by omega) x (by omega) r1 tr
  have e4 : orbF tns s0 j = orbF tns s0 (2 * metR j x + j + x) := xe
  rw [h.farR]
  refine ⟨?_, ?_, ?_, ?_⟩
  · rw [orb_take tns s0 b2, orb_take tns s0 (by omega)]
  · rw [orb_take tns s0 (by omega), orb_drop_take tns s0 (by omega), orb_add tns s0 (2 * metR j x + j) x]
    congr 1
    apply List.map_congr_left
    intro i _
    have d := Nat.div_add_mod (metR j x * 2) x
    have c := Nat.mul_comm x (metR j x * 2 / x)
    have := h.pers (n := j + i) (by omega) (metR j x * 2 / x)
    rw [show 2 * metR j x + j + i = j + i + metR j x * 2 / x * x by omega]
    exact this.symm
  · rw [orb_getD tns s0 (by omega)]
  · rw [orb_getD tns s0 (by omega), e4]
theorem Ring.ways : ∀ {tns s0 t r k j x}, @T72 tns s0 t r k j x := no_implicit_lambda% (u72.get rfl)
theorem end_ways (tns : List Int) (s0 : Int) (l : Nat) : waysS (orb tns s0 (l + 1)) = orb tns s0 (aOf l) ∧ (orb tns s0 (l + 1)).take ((orb tns s0 (l + 1)).length - 1) = orb tns s0 l ∧
    waysA (orb tns s0 (l + 1)) = orbF tns s0 (aOf l) ∧ (orb tns s0 (l + 1)).getD ((orb tns s0 (l + 1)).length - 1) 0 = orbF tns s0 l := by
  unfold waysS waysA
  rw [orb_len, Nat.add_sub_cancel]
  refine ⟨?_, orb_take tns s0 (by omega), ?_, orb_getD tns s0 (by omega)⟩
  · by_cases h : l = 0
    · subst h; rfl
    · rw [if_pos (by omega), aOf, if_neg h, orb_take tns s0 (by omega)]
  · by_cases h : l = 0
    · subst h; rfl
    · rw [if_pos (by omega), aOf, if_neg h, orb_getD tns s0 (by omega)]
theorem end_short {tns : List Int} {s0 : Int} {l : Nat} (A : Alv tns s0 l) (h : ¬ orbF tns s0 (l + 1) < 6) : l < 6 := by
  by_cases c : l < 6
  · exact c
  · exfalso
    obtain ⟨t, r, hr⟩ := ring_of (A.mono (by omega : 6 ≤ l))
    have := hr.all (A.mono (by omega : 6 ≤ l)) (l + 1) (l + 1) (Nat.le_refl _)
    omega
end
end
end
section -- W8
theorem kw_W8 : True := by
  k_with "o64" => skip
  k_with "o60" => skip
  k_with "call ref" => ((fail_if_success k_extra "o69"); ((k_here; (with_reducible show wpAny _ _ (call (Value.ref 233) _ _) _ _ _); refine Stop.at ?_)))
  trivial
section

set_option maxRecDepth 100000 in
theorem u73 : Up 73 := by
  refine u72.step rfl ?_
  k_extra "st"
  iterate 34 k_extra "g"
  intro tm tw aj arow aws atab b a marks s0 pre wns tns led its keep D c Q E s m h₀ base A₀ outer L gd un dp mb mg mean w B F X N T C Wk0 hits oits v1 v2 v3 v4 v5 hp za zb hdp hun ret exc
  obtain ⟨tvs, nt, mt, ht⟩ := C.tab
  obtain ⟨wvs, nw, mw, hw⟩ := C.wts
  obtain ⟨asked, W, has⟩ := Wk0
  have kp := W.keep
  have W' : Wk w D (its ++ keep) wns (orbF tns s0 a) (orbF tns s0 b) (pre ++ orb tns s0 a) (orb tns s0 b) asked led := W.rekeep fun q hq => (List.mem_append.mp hq).elim (hits q) (kp q)
  have hkp : ∀ q ∈ its ++ keep, Off4 D q.1 := fun q hq => (List.mem_append.mp hq).elim (oits q) (C.off q)
  have lenT : (pre ++ orb tns s0 a).length ≤ 60 := by rw [List.length_append, orb_len]; omega
  have lenH : (orb tns s0 b).length ≤ 60 := by rw [orb_len]; omega
  have lenA : asked.length ≤ 60 := by rw [has.1, List.length_append, orb_len, orb_len]; omega
  have ok := C.ok
  have hpc : 0 ≤ cond c (orbF tns s0 b) (orbF tns s0 a) ∧ cond c (orbF tns s0 b) (orbF tns s0 a) < 6 := by cases c <;> exact hp
  have hpe : cond c (orbF tns s0 b) (orbF tns s0 a) = orbF tns s0 (cond c b a) := by cases c <;> rfl
  obtain ⟨x, hx⟩ : ∃ x, tns[(cond c (orbF tns s0 b) (orbF tns s0 a)).toNat]? = some x := ⟨_, List.getElem?_eq_getElem (by have := C.lt; omega)⟩
  have hxe : orbF tns s0 (cond c b a + 1) = Int.fmod x 7 := by
    show Int.fmod (tns.getD (orbF tns s0 (cond c b a)).toNat 0) 7 = _
    rw [← hpe, List.getD_eq_getElem?_getD, hx]; rfl
  refine cut_exec (l' := Stmt.Expr _ _) (env' := envX (Str.ofString "_law_go") ⟨_, _, _, _, _⟩ L 240 (.ref 239) []) rfl rfl ?_
  k_steps
  refine Stop.go ?_
  by_cases hlt : Int.fmod x 7 < 6
  · refine hop_ok (b := c) (D := D) (keep := its ++ keep) (tns := tns) (wns := wns) (x := x) (asked := asked) B (by k_asm) X (by k_asm) T (by rfl) ok W' (List.mem_append_right _ mt) ht (List.mem_append_right _ mw) hw (C.off _ mt) (C.off _ mw) hpc hx C.lw hlt lenT lenH lenA hkp (by ktr_room) (by ktr_units) fun led' h' tk' F' N' W2 => ?_
    k_steps
    refine ret (by rw [hxe]; exact hlt) led' _ _ F' N' ⟨asked ++ [cond c (orbF tns s0 b) (orbF tns s0 a)], ?_, ?_⟩ fun q hq => W2.keep q (List.mem_append_left _ hq)
    · have W3 := W2.rekeep (keep' := keep) fun q hq => W2.keep q (List.mem_append_right _ hq)
      rw [← hxe] at W3
      cases c
      all_goals (simp only [cond, orb_succ, List.append_assoc] at *; exact W3)
    · have z := has.step c (orbF tns s0 a) (orbF tns s0 b)
      cases c
      all_goals (simp only [cond, orb_succ, List.append_assoc] at *; exact z)
  · refine hop_ref (b := c) (D := D) (keep := its ++ keep) (tns := tns) (wns := wns) (x := x) (asked := asked) B (by k_asm) X (by k_asm) T (by rfl) ok W' (List.mem_append_right _ mt) ht (C.off _ mt) hpc hx hlt lenA hkp (by ktr_room) (by ktr_units) fun e C' D' es n vs sl G led' h' tk' hR hF hX hU W2 => ?_
    refine exc (by rw [hxe]; exact hlt) e C' D' es n vs sl G led' h' tk' (hpe ▸ hR) hF hX hU ⟨_, W2.rekeep fun q hq => W2.keep q (List.mem_append_right _ hq), ?_⟩
    rw [← hpe]
    exact has.more _
theorem go_hopA : ∀ {w d e f g h i L outer j base h₀ m s E Q c D keep its k tns wns pre s0 marks a b atab aws l aj n tm}, @T73 w d e f g h i L outer j base h₀ m s E Q c D keep its k tns wns pre s0 marks a b atab aws l aj n tm := no_implicit_lambda% (u73.get rfl)
set_option maxRecDepth 100000 in
theorem go_hopB {D : Adr} {keep its led : Led} {tns wns pre : List Int} {s0 marks : Int} {a b : Nat} {atab aws arow aj : Addr} {tm : Tok}
    (B : Below A₀ base outer h₀) (F : Fr h₀ L s.heap m) (X : (h0.heap_1 w.params).In h₀) (N : News h₀ L s.heap led) (T : TopX mean mg mb h₀) (C : Cx D keep tns wns atab aws arow aj) (Wk0 : Sg w D keep tns wns s0 pre a b led) (hits : ∀ q ∈ its, q ∈ led) (oits : ∀ q ∈ its, Off4 D q.1)
    (v1 : m (Str.ofString "walk") = some (.ref D.aw)) (v2 : m (Str.ofString "table") = some (.ref atab)) (v3 : m (Str.ofString "weights") = some (.ref aws)) (v4 : m (Str.ofString "marks") = some (.int marks tm))
    (hp : 0 ≤ orbF tns s0 (cond false b a) ∧ orbF tns s0 (cond false b a) < 6) (za : pre.length + a ≤ 30) (zb : b ≤ 30)
    (hdp : dp + 60 < recursionLimit) (hun : un + 600 < cLine)
    (ret : orbF tns s0 (cond false b a + 1) < 6 → ∀ led' h' tk', Fr h₀ L h' m → News h₀ L h' led' → Sg w D keep tns wns s0 pre (cond false a (a + 1)) (cond false (b + 1) b) led' → (∀ q ∈ its, q ∈ led') → Q .next { s with heap := h', toks := tk' })
    (exc : ¬ orbF tns s0 (cond false b a + 1) < 6 → ∀ e C D' es n vs sl G led' h' tk', RefIs D.ab (orbF tns s0 (cond false b a)) C es → Fr h₀ L G m → RaisedX base G (envG L :: outer) e ⟨.ref C, some D', .fields vs, sl⟩ ((D', dictOf es n) :: led') h' → G.UpToSlots h' → Sr w D keep tns wns s0 pre a b (orbF tns s0 (cond false b a)) led' → E (.ref e) { s with heap := h', toks := tk' }) :
    wpAny (model PG w) (arG dp un gd L outer) (exec ((goF 2).getD 1 default) (envG L)) Q E s := by
  obtain ⟨tvs, nt, mt, ht⟩ := C.tab
  obtain ⟨wvs, nw, mw, hw⟩ := C.wts
  obtain ⟨asked, W, has⟩ := Wk0
  have kp := W.keep
  have W' : Wk w D (its ++ keep) wns (orbF tns s0 a) (orbF tns s0 b) (pre ++ orb tns s0 a) (orb tns s0 b) asked led := W.rekeep fun q hq => (List.mem_append.mp hq).elim (hits q) (kp q)
  have hkp : ∀ q ∈ its ++ keep, Off4 D q.1 := fun q hq => (List.mem_append.mp hq).elim (oits q) (C.off q)
  have lenT : (pre ++ orb tns s0 a).length ≤ 60 := by rw [List.length_append, orb_len]; omega
  have lenH : (orb tns s0 b).length ≤ 60 := by rw [orb_len]; omega
  have lenA : asked.length ≤ 60 := by rw [has.1, List.length_append, orb_len, orb_len]; omega
  have ok := C.ok
  have hpc : 0 ≤ cond false (orbF tns s0 b) (orbF tns s0 a) ∧ cond false (orbF tns s0 b) (orbF tns s0 a) < 6 := by exact hp
  have hpe : cond false (orbF tns s0 b) (orbF tns s0 a) = orbF tns s0 (cond false b a) := by rfl
  obtain ⟨x, hx⟩ : ∃ x, tns[(cond false (orbF tns s0 b) (orbF tns s0 a)).toNat]? = some x := ⟨_, List.getElem?_eq_getElem (by have := C.lt; omega)⟩
  have hxe : orbF tns s0 (cond false b a + 1) = Int.fmod x 7 := by
    show Int.fmod (tns.getD (orbF tns s0 (cond false b a)).toNat 0) 7 = _
    rw [← hpe, List.getD_eq_getElem?_getD, hx]; rfl
  refine cut_exec (l' := Stmt.Expr _ _) (env' := envX (Str.ofString "_law_go") ⟨_, _, _, _, _⟩ L 240 (.ref 239) []) rfl rfl ?_
  k_steps
  refine Stop.go ?_
  by_cases hlt : Int.fmod x 7 < 6
  · refine hop_ok (b := false) (D := D) (keep := its ++ keep) (tns := tns) (wns := wns) (x := x) (asked := asked) B (by k_asm) X (by k_asm) T (by rfl) ok W' (List.mem_append_right _ mt) ht (List.mem_append_right _ mw) hw (C.off _ mt) (C.off _ mw) hpc hx C.lw hlt lenT lenH lenA hkp (by ktr_room) (by ktr_units) fun led' h' tk' F' N' W2 => ?_
    k_steps
    refine ret (by rw [hxe]; exact hlt) led' _ _ F' N' ⟨asked ++ [cond false (orbF tns s0 b) (orbF tns s0 a)], ?_, ?_⟩ fun q hq => W2.keep q (List.mem_append_left _ hq)
    · have W3 := W2.rekeep (keep' := keep) fun q hq => W2.keep q (List.mem_append_right _ hq)
      rw [← hxe] at W3
      skip
      all_goals (simp only [cond, orb_succ, List.append_assoc] at *; exact W3)
    · have z := has.step false (orbF tns s0 a) (orbF tns s0 b)
      skip
      all_goals (simp only [cond, orb_succ, List.append_assoc] at *; exact z)
  · refine hop_ref (b := false) (D := D) (keep := its ++ keep) (tns := tns) (wns := wns) (x := x) (asked := asked) B (by k_asm) X (by k_asm) T (by rfl) ok W' (List.mem_append_right _ mt) ht (C.off _ mt) hpc hx hlt lenA hkp (by ktr_room) (by ktr_units) fun e C' D' es n vs sl G led' h' tk' hR hF hX hU W2 => ?_
    refine exc (by rw [hxe]; exact hlt) e C' D' es n vs sl G led' h' tk' (hpe ▸ hR) hF hX hU ⟨_, W2.rekeep fun q hq => W2.keep q (List.mem_append_right _ hq), ?_⟩
    rw [← hpe]
    exact has.more _
set_option maxRecDepth 100000 in
theorem go_hopC {D : Adr} {keep its led : Led} {tns wns pre : List Int} {s0 marks : Int} {a b : Nat} {atab aws arow aj : Addr} {tm : Tok}
    (B : Below A₀ base outer h₀) (F : Fr h₀ L s.heap m) (X : (h0.heap_1 w.params).In h₀) (N : News h₀ L s.heap led) (T : TopX mean mg mb h₀) (C : Cx D keep tns wns atab aws arow aj) (Wk0 : Sg w D keep tns wns s0 pre a b led) (hits : ∀ q ∈ its, q ∈ led) (oits : ∀ q ∈ its, Off4 D q.1)
    (v1 : m (Str.ofString "walk") = some (.ref D.aw)) (v2 : m (Str.ofString "table") = some (.ref atab)) (v3 : m (Str.ofString "weights") = some (.ref aws)) (v4 : m (Str.ofString "marks") = some (.int marks tm))
    (hp : 0 ≤ orbF tns s0 (cond true b a) ∧ orbF tns s0 (cond true b a) < 6) (za : pre.length + a ≤ 30) (zb : b ≤ 30)
    (hdp : dp + 60 < recursionLimit) (hun : un + 600 < cLine)
    (ret : orbF tns s0 (cond true b a + 1) < 6 → ∀ led' h' tk', Fr h₀ L h' m → News h₀ L h' led' → Sg w D keep tns wns s0 pre (cond true a (a + 1)) (cond true (b + 1) b) led' → (∀ q ∈ its, q ∈ led') → Q .next { s with heap := h', toks := tk' })
    (exc : ¬ orbF tns s0 (cond true b a + 1) < 6 → ∀ e C D' es n vs sl G led' h' tk', RefIs D.ab (orbF tns s0 (cond true b a)) C es → Fr h₀ L G m → RaisedX base G (envG L :: outer) e ⟨.ref C, some D', .fields vs, sl⟩ ((D', dictOf es n) :: led') h' → G.UpToSlots h' → Sr w D keep tns wns s0 pre a b (orbF tns s0 (cond true b a)) led' → E (.ref e) { s with heap := h', toks := tk' }) :
    wpAny (model PG w) (arG dp un gd L outer) (exec ((goF 2).getD 2 default) (envG L)) Q E s := by
  obtain ⟨tvs, nt, mt, ht⟩ := C.tab
  obtain ⟨wvs, nw, mw, hw⟩ := C.wts
  obtain ⟨asked, W, has⟩ := Wk0
  have kp := W.keep
  have W' : Wk w D (its ++ keep) wns (orbF tns s0 a) (orbF tns s0 b) (pre ++ orb tns s0 a) (orb tns s0 b) asked led := W.rekeep fun q hq => (List.mem_append.mp hq).elim (hits q) (kp q)
  have hkp : ∀ q ∈ its ++ keep, Off4 D q.1 := fun q hq => (List.mem_append.mp hq).elim (oits q) (C.off q)
  have lenT : (pre ++ orb tns s0 a).length ≤ 60 := by rw [List.length_append, orb_len]; omega
  have lenH : (orb tns s0 b).length ≤ 60 := by rw [orb_len]; omega
  have lenA : asked.length ≤ 60 := by rw [has.1, List.length_append, orb_len, orb_len]; omega
  have ok := C.ok
  have hpc : 0 ≤ cond true (orbF tns s0 b) (orbF tns s0 a) ∧ cond true (orbF tns s0 b) (orbF tns s0 a) < 6 := by exact hp
  have hpe : cond true (orbF tns s0 b) (orbF tns s0 a) = orbF tns s0 (cond true b a) := by rfl
  obtain ⟨x, hx⟩ : ∃ x, tns[(cond true (orbF tns s0 b) (orbF tns s0 a)).toNat]? = some x := ⟨_, List.getElem?_eq_getElem (by have := C.lt; omega)⟩
  have hxe : orbF tns s0 (cond true b a + 1) = Int.fmod x 7 := by
    show Int.fmod (tns.getD (orbF tns s0 (cond true b a)).toNat 0) 7 = _
    rw [← hpe, List.getD_eq_getElem?_getD, hx]; rfl
  refine cut_exec (l' := Stmt.Expr _ _) (env' := envX (Str.ofString "_law_go") ⟨_, _, _, _, _⟩ L 240 (.ref 239) []) rfl rfl ?_
  k_steps
  refine Stop.go ?_
  by_cases hlt : Int.fmod x 7 < 6
  · refine hop_ok (b := true) (D := D) (keep := its ++ keep) (tns := tns) (wns := wns) (x := x) (asked := asked) B (by k_asm) X (by k_asm) T (by rfl) ok W' (List.mem_append_right _ mt) ht (List.mem_append_right _ mw) hw (C.off _ mt) (C.off _ mw) hpc hx C.lw hlt lenT lenH lenA hkp (by ktr_room) (by ktr_units) fun led' h' tk' F' N' W2 => ?_
    k_steps
    refine ret (by rw [hxe]; exact hlt) led' _ _ F' N' ⟨asked ++ [cond true (orbF tns s0 b) (orbF tns s0 a)], ?_, ?_⟩ fun q hq => W2.keep q (List.mem_append_left _ hq)
    · have W3 := W2.rekeep (keep' := keep) fun q hq => W2.keep q (List.mem_append_right _ hq)
      rw [← hxe] at W3
      skip
      all_goals (simp only [cond, orb_succ, List.append_assoc] at *; exact W3)
    · have z := has.step true (orbF tns s0 a) (orbF tns s0 b)
      skip
      all_goals (simp only [cond, orb_succ, List.append_assoc] at *; exact z)
  · refine hop_ref (b := true) (D := D) (keep := its ++ keep) (tns := tns) (wns := wns) (x := x) (asked := asked) B (by k_asm) X (by k_asm) T (by rfl) ok W' (List.mem_append_right _ mt) ht (C.off _ mt) hpc hx hlt lenA hkp (by ktr_room) (by ktr_units) fun e C' D' es n vs sl G led' h' tk' hR hF hX hU W2 => ?_
    refine exc (by rw [hxe]; exact hlt) e C' D' es n vs sl G led' h' tk' (hpe ▸ hR) hF hX hU ⟨_, W2.rekeep fun q hq => W2.keep q (List.mem_append_right _ hq), ?_⟩
    rw [← hpe]
    exact has.more _
set_option maxRecDepth 100000 in
theorem go_hopD {D : Adr} {keep its led : Led} {tns wns pre : List Int} {s0 marks : Int} {a b : Nat} {atab aws arow aj : Addr} {tm : Tok}
    (B : Below A₀ base outer h₀) (F : Fr h₀ L s.heap m) (X : (h0.heap_1 w.params).In h₀) (N : News h₀ L s.heap led) (T : TopX mean mg mb h₀) (C : Cx D keep tns wns atab aws arow aj) (Wk0 : Sg w D keep tns wns s0 pre a b led) (hits : ∀ q ∈ its, q ∈ led) (oits : ∀ q ∈ its, Off4 D q.1)
    (v1 : m (Str.ofString "walk") = some (.ref D.aw)) (v2 : m (Str.ofString "table") = some (.ref atab)) (v3 : m (Str.ofString "weights") = some (.ref aws)) (v4 : m (Str.ofString "marks") = some (.int marks tm))
    (hp : 0 ≤ orbF tns s0 (cond true b a) ∧ orbF tns s0 (cond true b a) < 6) (za : pre.length + a ≤ 30) (zb : b ≤ 30)
    (hdp : dp + 60 < recursionLimit) (hun : un + 600 < cLine)
    (ret : orbF tns s0 (cond true b a + 1) < 6 → ∀ led' h' tk', Fr h₀ L h' m → News h₀ L h' led' → Sg w D keep tns wns s0 pre (cond true a (a + 1)) (cond true (b + 1) b) led' → (∀ q ∈ its, q ∈ led') → Q .next { s with heap := h', toks := tk' })
    (exc : ¬ orbF tns s0 (cond true b a + 1) < 6 → ∀ e C D' es n vs sl G led' h' tk', RefIs D.ab (orbF tns s0 (cond true b a)) C es → Fr h₀ L G m → RaisedX base G (envG L :: outer) e ⟨.ref C, some D', .fields vs, sl⟩ ((D', dictOf es n) :: led') h' → G.UpToSlots h' → Sr w D keep tns wns s0 pre a b (orbF tns s0 (cond true b a)) led' → E (.ref e) { s with heap := h', toks := tk' }) :
    wpAny (model PG w) (arG dp un gd L outer) (exec ((goF 3).getD 0 default) (envG L)) Q E s := by
  obtain ⟨tvs, nt, mt, ht⟩ := C.tab
  obtain ⟨wvs, nw, mw, hw⟩ := C.wts
  obtain ⟨asked, W, has⟩ := Wk0
  have kp := W.keep
  have W' : Wk w D (its ++ keep) wns (orbF tns s0 a) (orbF tns s0 b) (pre ++ orb tns s0 a) (orb tns s0 b) asked led := W.rekeep fun q hq => (List.mem_append.mp hq).elim (hits q) (kp q)
  have hkp : ∀ q ∈ its ++ keep, Off4 D q.1 := fun q hq => (List.mem_append.mp hq).elim (oits q) (C.off q)
  have lenT : (pre ++ orb tns s0 a).length ≤ 60 := by rw [List.length_append, orb_len]; omega
  have lenH : (orb tns s0 b).length ≤ 60 := by rw [orb_len]; omega
  have lenA : asked.length ≤ 60 := by rw [has.1, List.length_append, orb_len, orb_len]; omega
  have ok := C.ok
  have hpc : 0 ≤ cond true (orbF tns s0 b) (orbF tns s0 a) ∧ cond true (orbF tns s0 b) (orbF tns s0 a) < 6 := by exact hp
  have hpe : cond true (orbF tns s0 b) (orbF tns s0 a) = orbF tns s0 (cond true b a) := by rfl
  obtain ⟨x, hx⟩ : ∃ x, tns[(cond true (orbF tns s0 b) (orbF tns s0 a)).toNat]? = some x := ⟨_, List.getElem?_eq_getElem (by have := C.lt; omega)⟩
  have hxe : orbF tns s0 (cond true b a + 1) = Int.fmod x 7 := by
    show Int.fmod (tns.getD (orbF tns s0 (cond true b a)).toNat 0) 7 = _
    rw [← hpe, List.getD_eq_getElem?_getD, hx]; rfl
  refine cut_exec (l' := Stmt.Expr _ _) (env' := envX (Str.ofString "_law_go") ⟨_, _, _, _, _⟩ L 240 (.ref 239) []) rfl rfl ?_
  k_steps
  refine Stop.go ?_
  by_cases hlt : Int.fmod x 7 < 6
  · refine hop_ok (b := true) (D := D) (keep := its ++ keep) (tns := tns) (wns := wns) (x := x) (asked := asked) B (by k_asm) X (by k_asm) T (by rfl) ok W' (List.mem_append_right _ mt) ht (List.mem_append_right _ mw) hw (C.off _ mt) (C.off _ mw) hpc hx C.lw hlt lenT lenH lenA hkp (by ktr_room) (by ktr_units) fun led' h' tk' F' N' W2 => ?_
    k_steps
    refine ret (by rw [hxe]; exact hlt) led' _ _ F' N' ⟨asked ++ [cond true (orbF tns s0 b) (orbF tns s0 a)], ?_, ?_⟩ fun q hq => W2.keep q (List.mem_append_left _ hq)
    · have W3 := W2.rekeep (keep' := keep) fun q hq => W2.keep q (List.mem_append_right _ hq)
      rw [← hxe] at W3
      skip
      all_goals (simp only [cond, orb_succ, List.append_assoc] at *; exact W3)
    · have z := has.step true (orbF tns s0 a) (orbF tns s0 b)
      skip
      all_goals (simp only [cond, orb_succ, List.append_assoc] at *; exact z)
  · refine hop_ref (b := true) (D := D) (keep := its ++ keep) (tns := tns) (wns := wns) (x := x) (asked := asked) B (by k_asm) X (by k_asm) T (by rfl) ok W' (List.mem_append_right _ mt) ht (C.off _ mt) hpc hx hlt lenA hkp (by ktr_room) (by ktr_units) fun e C' D' es n vs sl G led' h' tk' hR hF hX hU W2 => ?_
    refine exc (by rw [hxe]; exact hlt) e C' D' es n vs sl G led' h' tk' (hpe ▸ hR) hF hX hU ⟨_, W2.rekeep fun q hq => W2.keep q (List.mem_append_right _ hq), ?_⟩
    rw [← hpe]
    exact has.more _

end
end
section -- W9
theorem kw_W9 : True := by
  k_with "o69" => skip
  k_with "call ref" => ((fail_if_success k_extra "o70"); ((k_here; (with_reducible show wpAny _ _ (call (Value.ref 233) _ _) _ _ _); refine Stop.at ?_)))
  trivial
section

theorem who_get {t0 t1 t2 : Tok} {i : Nat} {v : Value} (h : (#[Value.int 0 t0, Value.int 1 t1, Value.int 1 t2] : Array Value)[i]? = some v) : i < 3 ∧ ∃ t, v = .int (cond (decide (1 ≤ i)) 1 0) t := by
  rcases i with _ | _ | _ | i
  · exact ⟨by decide, t0, by simpa using h.symm⟩
  · exact ⟨by decide, t1, by simpa using h.symm⟩
  · exact ⟨by decide, t2, by simpa using h.symm⟩
  · simp at h
theorem gi_len {i k : Nat} (hi : i ≤ 8) (hk : k < 3) : a1 i k ≤ 30 ∧ b1 i k ≤ 30 := by unfold a1 b1; omega
theorem gi_0 {i : Nat} : max (a1 i 0) (b1 i 0) ≤ 2 * i := by simp [a1, b1]; omega
theorem gi_e1 {i k : Nat} : cond (decide (1 ≤ k)) (a1 i k) (a1 i k + 1) = a1 i (k + 1) := by
  by_cases h : 1 ≤ k
  · rw [decide_eq_true h]; simp only [cond, a1]; omega
  · rw [decide_eq_false h]; simp only [cond, a1]; omega
theorem gi_e2 {i k : Nat} : cond (decide (1 ≤ k)) (b1 i k + 1) (b1 i k) = b1 i (k + 1) := by
  by_cases h : 1 ≤ k
  · rw [decide_eq_true h]; simp only [cond, b1]; omega
  · rw [decide_eq_false h]; simp only [cond, b1]; omega
theorem gi_m1 {i k : Nat} (h0 : i = 0 ∧ k = 1) : max (a1 i (k + 1)) (b1 i (k + 1)) ≤ max (a1 i k) (b1 i k) := by unfold a1 b1; omega
theorem gi_m2 {i k : Nat} (h : 1 ≤ k) (h0 : ¬ (i = 0 ∧ k = 1)) : max (a1 i (k + 1)) (b1 i (k + 1)) = b1 i k + 1 := by unfold a1 b1; omega
theorem gi_m3 {i k : Nat} (h : ¬ 1 ≤ k) (h0 : i = 0) : max (a1 i (k + 1)) (b1 i (k + 1)) = a1 i k + 1 := by unfold a1 b1; omega
theorem gi_m4 {i k : Nat} (h : ¬ 1 ≤ k) (h0 : ¬ i = 0) : max (a1 i (k + 1)) (b1 i (k + 1)) ≤ max (a1 i k) (b1 i k) := by unfold a1 b1; omega
theorem gi_x1 {i k : Nat} (h0 : i = 0 ∧ k = 1) : b1 i k + 1 ≤ max (a1 i k) (b1 i k) := by unfold a1 b1; omega
theorem gi_x2 {i k : Nat} (h : 1 ≤ k) (h3 : k < 3) (h0 : ¬ (i = 0 ∧ k = 1)) : aOf (b1 i k) = a1 i k := by unfold aOf a1 b1; split <;> omega
theorem gi_x3 {i k : Nat} (h : ¬ 1 ≤ k) (q : 0 < i) : a1 i k + 1 ≤ max (a1 i k) (b1 i k) := by unfold a1 b1; omega
theorem gi_3 {i : Nat} : 2 * i + 2 ≤ max (a1 i 3) (b1 i 3) := by unfold a1 b1; omega
set_option maxRecDepth 100000 in
theorem u74 : Up 74 := by
  refine u73.step rfl ?_
  k_extra "st"
  iterate 32 k_extra "g"
  intro tst tm aj arow aws atab i marks start s0 wns tns led its keep D Q E s m h₀ base A₀ outer L gd un dp mb mg mean w B F X N T C Wk0 hits oits hv al hi hE hdp hun ret exc
  refine cut_exec (l' := Stmt.For _ _ _ _ _) (env' := envX (Str.ofString "_law_go") ⟨_, _, _, _, _⟩ L 240 (.ref 239) []) rfl rfl ?_
  refine For_turns F ?_ (by intro _; rfl) hE
  k_steps
  rename_i ax h1 F1 N1 l1
  have lax := allLt_mem l1
  have oax : Off4 D ax := Wk0.offs fun q hq => Nat.ne_of_lt (lax q hq)
  refine tuple_J (its := #[Value.int 0 s.toks, Value.int 1 (s.toks + 1), Value.int 1 (s.toks + 1 + 1)]) (by rfl) F1 N1 List.mem_cons_self rfl rfl (JI w D keep its tns wns s0 (FV D atab aws arow aj start marks tm tst) i) ⟨Wk0.mono sub_skip1, hv, al.mono gi_0, fun q hq => List.mem_cons_of_mem _ (hits q hq)⟩ (fun I k v m₁ news₁ h₁ tk₁ oI hk hJ hc ho hax F₁ N₁ => ?_) (fun h' tk m' news' F' N' hJ => ?_)
  · obtain ⟨S1, V1, A1, I1⟩ := hJ
    obtain ⟨hk3, tw, rfl⟩ := who_get hk
    have oI' : Off4 D I := S1.offs ho
    refine assign_local F₁ N₁ (by rfl) (by rfl) fun h₂ tk₂ F₂ N₂ => ?_
    refine cut_execs (l' := [(forB ((goF 0).getD 0 default)).getD 0 default]) (env' := envG L) rfl rfl ?_
    have V2 := V1.set (x := Str.ofString "who") (v := .int (cond (decide (1 ≤ k)) 1 0) tw) (.inl rfl)
    have hlen := gi_len hi hk3
    refine wpAny_execs_cons (go_hopA (c := decide (1 ≤ k)) (its := (I, oI) :: (ax, { cls := .type "tuple", data := .seq #[Value.int 0 s.toks, Value.int 1 (s.toks + 1), Value.int 1 (s.toks + 1 + 1)] }) :: its) B F₂ X N₂ T C (S1.mono sub_skip1) ?_ ?_ V2.walk V2.table V2.weights V2.marks (if_pos rfl) ?_ ?_ hlen.2 hdp hun (fun hlt led' h' tk' F' N' S' I' => ?_) (fun hlt => ?_))
    · intro q hq
      rcases List.mem_cons.mp hq with rfl | hq
      · exact List.mem_cons_self
      · rcases List.mem_cons.mp hq with rfl | hq
        · exact List.mem_cons_of_mem _ hax
        · exact List.mem_cons_of_mem _ (I1 q hq)
    · intro q hq
      rcases List.mem_cons.mp hq with rfl | hq
      · exact oI'
      · rcases List.mem_cons.mp hq with rfl | hq
        · exact oax
        · exact oits q hq
    · refine A1 _ ?_
      cases decide (1 ≤ k) <;> simp only [cond] <;> omega
    · simp only [List.length_nil, Nat.zero_add]; exact hlen.1
    · refine wpAny_execs_nil ⟨h', tk', _, wo I led', rfl, F', news_sub N' (wo_sub (I' _ List.mem_cons_self)), wo_off _ _, ?_, ?_, V2, ?_, ?_⟩
      · intro q hq
        rw [List.mem_singleton.mp hq]
        exact wo_in (I' _ (List.mem_cons_of_mem _ List.mem_cons_self)) (ho _ hax)
      · have S2 := S'.drop N' (I' _ List.mem_cons_self) (by rw [hc]; exact ⟨by decide, by decide, by decide⟩) fun q hq => ho q (S1.keeps q hq)
        rw [gi_e1, gi_e2] at S2
        exact S2
      · by_cases h : 1 ≤ k
        · rw [decide_eq_true h] at hlt
          simp only [cond] at hlt
          by_cases h0 : i = 0 ∧ k = 1
          · exact A1.mono (gi_m1 h0)
          · rw [gi_m2 h h0]
            exact (A1.mono (Nat.le_max_right _ _)).succ hlt
        · rw [decide_eq_false h] at hlt
          simp only [cond] at hlt
          by_cases h0 : i = 0
          · rw [gi_m3 h h0]
            exact (A1.mono (Nat.le_max_left _ _)).succ hlt
          · exact A1.mono (gi_m4 h h0)
      · intro q hq
        exact wo_in (I' _ (List.mem_cons_of_mem _ (List.mem_cons_of_mem _ hq))) (ho _ (I1 q hq))
    · intro e C' D' es n vs sl G led' h' tk' hR hF hX hU hS
      by_cases h : 1 ≤ k
      · rw [decide_eq_true h] at hlt hR hS
        simp only [cond] at hlt hR hS
        have hne : ¬ (i = 0 ∧ k = 1) := fun h0 => hlt (A1 (b1 i k + 1) (gi_x1 h0)).2
        have e1 := gi_x2 h hk3 hne
        exact exc (b1 i k) e C' D' es n vs sl G led' h' tk' _ (A1.mono (Nat.le_max_right _ _)) hlt hR hF hX hU (e1.symm ▸ hS)
      · rw [decide_eq_false h] at hlt hR hS
        simp only [cond] at hlt hR hS
        have k0 : k = 0 := by omega
        have i0 : i = 0 := by
          rcases Nat.eq_zero_or_pos i with q | q
          · exact q
          · exact absurd (A1 (a1 i k + 1) (gi_x3 h q)).2 hlt
        subst k0 i0
        exact exc 0 e C' D' es n vs sl G led' h' tk' _ (A1.mono (by omega)) hlt hR hF hX hU hS
  · obtain ⟨S1, V1, A1, I1⟩ := hJ
    exact ret news' h' tk m' F' N' S1 V1 (A1.mono gi_3) I1

theorem go_inner : ∀ {w a b c d e f L outer g base h₀ m s E Q D keep its h tns wns s0 start marks i atab aws j aj tm tst}, @T74 w a b c d e f L outer g base h₀ m s E Q D keep its h tns wns s0 start marks i atab aws j aj tm tst := no_implicit_lambda% (u74.get rfl)
end
end
section -- W10
theorem kw_W10 : True := by
  k_with "o70" => skip
  k_with "call ref" => ((fail_if_success k_extra "o71"); ((k_here; (with_reducible show wpAny _ _ (call (Value.ref 233) _ _) _ _ _); refine Stop.at ?_)))
  trivial
section

set_option maxRecDepth 100000 in
theorem u75 : Up 75 := by
  refine u74.step rfl ?_
  k_extra "st"
  iterate 30 k_extra "g"
  intro tst tm aj arow aws atab marks start s0 wns tns led keep D Q E s m h₀ base A₀ outer L gd un dp mb mg mean w B F X N T C Wk0 hv al hE hdp hun ret exc
  refine cut_exec (l' := Stmt.For _ _ _ _ _) (env' := envX (Str.ofString "_law_go") ⟨_, _, _, _, _⟩ L 240 (.ref 239) []) rfl rfl ?_
  refine For_turns F ?_ (by intro _; rfl) hE
  k_steps
  refine range_J (n := 7) (by rfl) (by k_asm) (by k_asm) (by assumption) (by first | decide | rfl) (by first | rfl | decide) (JO w D keep tns wns s0 (FV D atab aws arow aj start marks tm tst)) ⟨Wk0, hv, al, fun k h1 h2 => by omega⟩ (fun I i t m₁ news₁ h₁ tk₁ oI hi hJ hc ho F₁ N₁ => ?_) (fun h' tk m' news' F' N' hJ => ?_)
  · obtain ⟨S1, V1, A1, M1⟩ := hJ
    have oI' : Off4 D I := S1.offs ho
    refine assign_local F₁ N₁ (by rfl) (by rfl) fun h₂ tk₂ F₂ N₂ => ?_
    refine cut_execs (l' := [(goF 0).getD 0 default, (goF 0).getD 1 default]) (env' := envG L) rfl rfl ?_
    have V2 := V1.set (x := Str.ofString "_") (v := .int (0 + (i : Int)) t) (.inr rfl)
    refine wpAny_execs_cons (go_inner (its := [(I, oI)]) B F₂ X N₂ T C (S1.mono sub_skip1) (fun q hq => by rw [List.mem_singleton.mp hq]; exact List.mem_cons_self) (fun q hq => by rw [List.mem_singleton.mp hq]; exact oI') V2 A1 (by omega) hE hdp hun (fun led' h' tk' m' F' N' S' V' A' I' => ?_) (fun l e C' D' es n vs sl G led' h' tk' m' a b c d e' f g => exc l e C' D' es n vs sl G led' h' tk' m' a b c d e' f g))
    have hI := I' _ (List.mem_singleton.mpr rfl)
    have e2 : 2 * i + 2 = 2 * (i + 1) := by omega
    rw [e2] at S' A'
    obtain ⟨as, W', has⟩ := S'
    have S' : Sg w D keep tns wns s0 [] (i + 1) (2 * (i + 1)) led' := ⟨as, W', has⟩
    refine wpAny_execs_cons (go_if1 B F' X N' T C W' V'.walk V'.rows V'.judge (A' (i + 1) (by omega)) (A' (2 * (i + 1)) (Nat.le_refl _)) (by omega) (by omega) (fun e h'' tk'' F'' N'' => ?_) (fun e h'' tk'' F'' N'' => ?_))
    · exact ret (i + 1) led' h'' tk'' m' (by omega) (by omega) e (fun j j1 j2 => M1 j j1 (by omega)) A' F'' N'' S' V'
    · refine wpAny_execs_nil ?_
      refine ⟨h'', tk'', m', wo I led', rfl, F'', news_sub N'' (wo_sub hI), wo_off _ _, (fun q hq => absurd hq List.not_mem_nil), ?_⟩
      refine ⟨?_, ?_, ?_, ?_⟩
      · exact S'.drop N'' hI (by rw [hc]; exact ⟨by decide, by decide, by decide⟩) fun q hq => ho q (S1.keeps q hq)
      · exact V'
      · exact A'
      · intro k h1 h2
        by_cases hk : k = i + 1
        · rw [hk]; exact e
        · exact M1 k h1 (by omega)
  · obtain ⟨S1, V1, A1, M1⟩ := hJ
    obtain ⟨i, h1, h2, e⟩ := orb_meet A1
    exact absurd e (M1 i h1 (by omega))

theorem go_loop1 : ∀ {w a b c d e f L outer g base h₀ m s E Q D keep h tns wns s0 start marks atab aws i aj tm tst}, @T75 w a b c d e f L outer g base h₀ m s E Q D keep h tns wns s0 start marks atab aws i aj tm tst := no_implicit_lambda% (u75.get rfl)
end
end
section -- W11
theorem kw_W11 : True := by
  k_with "o71" => skip
  k_with "call ref" => ((fail_if_success k_extra "o72"); ((k_here; (with_reducible show wpAny _ _ (call (Value.ref 233) _ _) _ _ _); refine Stop.at ?_)))
  trivial
section

set_option maxRecDepth 100000 in
theorem u76 : Up 76 := by
  refine u75.step rfl ?_
  k_extra "st"
  iterate 31 k_extra "g"
  intro tst tm aj arow aws atab b a marks s0 wns tns led keep D Q E s m h₀ base A₀ outer L gd un dp mb mg mean w B F X N T C Wk0 hv ret
  obtain ⟨asked, ⟨kp, ⟨ow, ad, nd, td0, td1, mw, hw, mdots, od⟩, ⟨na, ta0, ta1, mat⟩, ⟨ob, bkv, mbk, hb, zb, hbk⟩, ⟨avs, nas, mas, za, ia⟩⟩, has⟩ := Wk0
  have ok := C.ok
  have v1 := hv.walk
  have v2 := hv.start
  generalize hr : wo D.aat led = rest
  have hoff : ∀ q ∈ rest, q.1 ≠ D.aat := by subst hr; exact wo_off _ _
  have N1 : News h₀ L s.heap ((D.aat, W.listOf #[.int (orbF tns s0 a) ta0, .int (orbF tns s0 b) ta1] na) :: rest) := by subst hr; exact news_sub N (wo_sub mat)
  have mw1 : (D.aw, ow) ∈ rest := by subst hr; exact wo_in mw ok.wt
  have fin : ∀ q ∈ led, q.1 ≠ D.aat → q ∈ rest := fun q hq hn => by subst hr; exact wo_in hq hn
  clear N hr
  refine cut_exec (l' := Stmt.Assign [_] _ _) (env' := envX (Str.ofString "_law_go") ⟨_, _, _, _, _⟩ L 240 (.ref 239) []) rfl rfl ?_
  k_steps
  have fin' : ∀ x : Addr × Obj, ∀ q ∈ led, q.1 ≠ D.aat → q ∈ x :: rest := fun x q hq hn => List.mem_cons_of_mem _ (fin q hq hn)
  refine ret _ _ _ (by k_asm) (by k_asm) ⟨asked, ⟨fun q hq => fin' _ q (kp q hq) (C.off _ hq).t, ⟨ow, ad, nd, td0, td1, fin' _ _ mw ok.wt, hw, ?_, od⟩, ⟨_, _, _, List.mem_cons_self⟩, ⟨ob, bkv, fin' _ _ mbk (Ne.symm ok.tb), hb, zb, fun k k0 k6 => ?_⟩, ⟨avs, nas, fin' _ _ mas (Ne.symm ok.ts), za, ia⟩⟩, ?_⟩
  · have e : (orb tns s0 a ++ orb tns s0 0).length = ([] ++ orb tns s0 a).length := by simp [orb]
    rw [e]
    exact fin' _ _ mdots od.t
  · have e : (orb tns s0 a ++ orb tns s0 0) = ([] ++ orb tns s0 a) := by simp [orb]
    rw [e]
    exact (hbk k k0 k6).move rfl fun q hq o => fin' _ q hq o.t
  · have e : (orb tns s0 a ++ orb tns s0 0) = ([] ++ orb tns s0 a) := by simp [orb]
    rw [e]
    exact has

theorem go_back : ∀ {w c d e f g h L outer i base h₀ m s E Q D keep j tns wns s0 marks a b atab aws k aj tm tst}, @T76 w c d e f g h L outer i base h₀ m s E Q D keep j tns wns s0 marks a b atab aws k aj tm tst := no_implicit_lambda% (u76.get rfl)
end
end
section -- W12
theorem kw_W12 : True := by
  k_with "o72" => skip
  k_with "call ref" => ((fail_if_success k_extra "o73"); ((k_here; (with_reducible show wpAny _ _ (call (Value.ref 233) _ _) _ _ _); refine Stop.at ?_)))
  trivial
section

set_option maxRecDepth 100000 in
theorem u77 : Up 77 := by
  refine u76.step rfl ?_
  k_extra "st"
  iterate 31 k_extra "g"
  intro tst tm aj arow aws atab k marks start s0 wns tns led keep D Q E s m h₀ base A₀ outer L gd un dp mb mg mean w B F X N T C Wk0 hv al hk1 hk7 hke hE hdp hun ret
  refine cut_exec (l' := Stmt.For _ _ _ _ _) (env' := envX (Str.ofString "_law_go") ⟨_, _, _, _, _⟩ L 240 (.ref 239) []) rfl rfl ?_
  refine For_turns F ?_ (by intro _; rfl) hE
  k_steps
  refine range_J (n := 6) (by rfl) (by k_asm) (by k_asm) (by assumption) (by first | decide | rfl) (by first | rfl | decide) (J2O w D keep tns wns s0 (FV D atab aws arow aj start marks tm tst) k) ⟨Wk0, hv, fun j h => absurd h (Nat.not_lt_zero _)⟩ (fun I i t m₁ news₁ h₁ tk₁ oI hi hJ hc ho F₁ N₁ => ?_) (fun h' tk m' news' F' N' hJ => ?_)
  · obtain ⟨S1, V1, M1⟩ := hJ
    have oI' : Off4 D I := S1.offs ho
    refine assign_local F₁ N₁ (by rfl) (by rfl) fun h₂ tk₂ F₂ N₂ => ?_
    refine cut_execs (l' := [(goF 2).getD 0 default, (goF 2).getD 1 default, (goF 2).getD 2 default]) (env' := envG L) rfl rfl ?_
    have V2 := V1.set (x := Str.ofString "_") (v := .int (0 + (i : Int)) t) (.inr rfl)
    have S2 := S1.mono (led' := (I, oI) :: news₁) sub_skip1
    obtain ⟨as, W2, has⟩ := S2
    have lenk : (orb tns s0 k).length = k := orb_len _ _ _
    refine wpAny_execs_cons (go_if2 B F₂ X N₂ T C W2 V2.walk V2.rows V2.judge (al i i (Nat.le_refl _)) (al (2 * k + i) (2 * k + i) (Nat.le_refl _)) (by omega) (by omega) (fun e h'' tk'' F'' N'' => ?_) (fun e h'' tk'' F'' N'' => ?_))
    · have i5 : i ≤ 5 := by omega
      exact ret i _ h'' tk'' _ i5 e M1 F'' N'' ⟨as, W2, has⟩ V2
    · refine wpAny_execs_cons (go_hopB (its := [(I, oI)]) B F'' X N'' T C ⟨as, W2, has⟩ (fun q hq => by rw [List.mem_singleton.mp hq]; exact List.mem_cons_self) (fun q hq => by rw [List.mem_singleton.mp hq]; exact oI') V2.walk V2.table V2.weights V2.marks (al i i (Nat.le_refl _)) (by omega) (by omega) (by omega) (by omega) (fun hlt led3 h3 tk3 F3 N3 S3 I3 => ?_) (fun hlt => absurd (al (i + 1) (i + 1) (Nat.le_refl _)).2 hlt))
      have S3' : Sg w D keep tns wns s0 (orb tns s0 k) (i + 1) (2 * k + i) led3 := S3
      refine wpAny_execs_cons (go_hopC (its := [(I, oI)]) B F3 X N3 T C S3' I3 (fun q hq => by rw [List.mem_singleton.mp hq]; exact oI') V2.walk V2.table V2.weights V2.marks (al (2 * k + i) (2 * k + i) (Nat.le_refl _)) (by omega) (by omega) (by omega) (by omega) (fun hlt led4 h4 tk4 F4 N4 S4 I4 => ?_) (fun hlt => absurd (al (2 * k + i + 1) (2 * k + i + 1) (Nat.le_refl _)).2 hlt))
      have S4' : Sg w D keep tns wns s0 (orb tns s0 k) (i + 1) (2 * k + (i + 1)) led4 := S4
      have hI := I4 _ (List.mem_singleton.mpr rfl)
      refine wpAny_execs_nil ?_
      refine ⟨h4, tk4, _, wo I led4, rfl, F4, news_sub N4 (wo_sub hI), wo_off _ _, (fun q hq => absurd hq List.not_mem_nil), ?_⟩
      refine ⟨?_, ?_, ?_⟩
      · exact S4'.drop N4 hI (by rw [hc]; exact ⟨by decide, by decide, by decide⟩) fun q hq => ho q (S1.keeps q hq)
      · exact V2
      · intro j hj
        by_cases hji : j = i
        · rw [hji]; exact e
        · exact M1 j (by omega)
  · obtain ⟨S1, V1, M1⟩ := hJ
    obtain ⟨j, h1, e⟩ := orb_meet2 al hk1 hk7 hke
    exact absurd e (M1 j (by omega))
theorem go_loop2 : ∀ {w a b c d e f L outer g base h₀ m s E Q D keep h tns wns s0 start marks k atab aws i aj tm tst}, @T77 w a b c d e f L outer g base h₀ m s E Q D keep h tns wns s0 start marks k atab aws i aj tm tst := no_implicit_lambda% (u77.get rfl)
set_option maxRecDepth 100000 in
theorem u78 : Up 78 := by
  refine u77.step rfl ?_
  k_extra "st"
  iterate 32 k_extra "g"
  intro tst tm aj arow aws atab j k marks start s0 wns tns led keep D Q E s m h₀ base A₀ outer L gd un dp mb mg mean w B F X N T C Wk0 hv al hk1 hk7 hke hj5 hje hE hdp hun ret
  refine cut_exec (l' := Stmt.For _ _ _ _ _) (env' := envX (Str.ofString "_law_go") ⟨_, _, _, _, _⟩ L 240 (.ref 239) []) rfl rfl ?_
  refine For_turns F ?_ (by intro _; rfl) hE
  k_steps
  refine range_J (n := 6) (by rfl) (by k_asm) (by k_asm) (by assumption) (by first | decide | rfl) (by first | rfl | decide) (J3O w D keep tns wns s0 (FV D atab aws arow aj start marks tm tst) k j) ⟨Wk0, hv, fun x h h' => by omega⟩ (fun I i t m₁ news₁ h₁ tk₁ oI hi hJ hc ho F₁ N₁ => ?_) (fun h' tk m' news' F' N' hJ => ?_)
  · obtain ⟨S1, V1, M1⟩ := hJ
    have oI' : Off4 D I := S1.offs ho
    refine assign_local F₁ N₁ (by rfl) (by rfl) fun h₂ tk₂ F₂ N₂ => ?_
    refine cut_execs (l' := [(goF 3).getD 0 default, (goF 3).getD 1 default]) (env' := envG L) rfl rfl ?_
    have V2 := V1.set (x := Str.ofString "_") (v := .int (0 + (i : Int)) t) (.inr rfl)
    have S2 := S1.mono (led' := (I, oI) :: news₁) sub_skip1
    have lenk : (orb tns s0 k).length = k := orb_len _ _ _
    refine wpAny_execs_cons (go_hopD (its := [(I, oI)]) B F₂ X N₂ T C S2 (fun q hq => by rw [List.mem_singleton.mp hq]; exact List.mem_cons_self) (fun q hq => by rw [List.mem_singleton.mp hq]; exact oI') V2.walk V2.table V2.weights V2.marks (al (2 * k + j + i) (2 * k + j + i) (Nat.le_refl _)) (by omega) (by omega) (by omega) (by omega) (fun hlt led4 h4 tk4 F4 N4 S4 I4 => ?_) (fun hlt => absurd (al (2 * k + j + i + 1) (2 * k + j + i + 1) (Nat.le_refl _)).2 hlt))
    have S4' : Sg w D keep tns wns s0 (orb tns s0 k) j (2 * k + j + (i + 1)) led4 := S4
    have hI := I4 _ (List.mem_singleton.mpr rfl)
    obtain ⟨as, W4, has⟩ := S4'
    refine wpAny_execs_cons (go_if3 B F4 X N4 T C W4 V2.walk V2.rows V2.judge (al j j (Nat.le_refl _)) (al (2 * k + j + (i + 1)) (2 * k + j + (i + 1)) (Nat.le_refl _)) (by omega) (by omega) (fun e h'' tk'' F'' N'' => ?_) (fun e h'' tk'' F'' N'' => ?_))
    · exact ret (i + 1) _ h'' tk'' _ (by omega) (by omega) e (fun x h1 h2 => M1 x h1 (by omega)) F'' N'' ⟨as, W4, has⟩
    · have S5 : Sg w D keep tns wns s0 (orb tns s0 k) j (2 * k + j + (i + 1)) led4 := ⟨as, W4, has⟩
      refine wpAny_execs_nil ?_
      refine ⟨h'', tk'', _, wo I led4, rfl, F'', news_sub N'' (wo_sub hI), wo_off _ _, (fun q hq => absurd hq List.not_mem_nil), ?_⟩
      refine ⟨?_, ?_, ?_⟩
      · exact S5.drop N'' hI (by rw [hc]; exact ⟨by decide, by decide, by decide⟩) fun q hq => ho q (S1.keeps q hq)
      · exact V2
      · intro x h1 h2
        by_cases hx : x = i + 1
        · rw [hx]; exact e
        · exact M1 x h1 (by omega)
  · obtain ⟨S1, V1, M1⟩ := hJ
    obtain ⟨x, h1, h2, e⟩ := orb_meet3 al hk1 hk7 hj5 hke hje
    exact absurd e (M1 x h1 (by omega))

theorem go_loop3 : ∀ {w a b c d e f L outer g base h₀ m s E Q D keep h tns wns s0 start marks k j atab aws i aj tm tst}, @T78 w a b c d e f L outer g base h₀ m s E Q D keep h tns wns s0 start marks k j atab aws i aj tm tst := no_implicit_lambda% (u78.get rfl)
end
end
section -- W13
theorem kw_W13 : True := by
  k_with "o73" => skip
  k_with "call ref" => ((k_here; (with_reducible show wpAny _ _ (call (Value.ref 233) _ _) _ _ _); refine Stop.at ?_))
  trivial
section
variable {Q : Value → Shared → Prop} {cn : Str} {cs : Scope} {a : Addr} {ccd : Value} {cl : List (Str × Addr)}

set_option maxRecDepth 100000 in
theorem go_ok {D : Adr} {keep : Led} {tns wns : List Int} {s0 marks : Int} {atab aws arow aj : Addr} {tm tst : Tok}
    (B : Below A₀ base outer h₀) (F : Fr h₀ L s.heap m) (X : (h0.heap_1 w.params).In h₀) (N : News h₀ L s.heap news) (T : TopX mean mg mb h₀) (hk : cs.kind = .function) (C : Cx D keep tns wns atab aws arow aj)
    (Wk0 : Sg w D keep tns wns s0 [] 0 0 news) (hs : 0 ≤ s0 ∧ s0 < 6)
    (hdp : dp + 70 < recursionLimit) (hun : un + 700 < cLine)
    (ret : ∀ k j x led' h' tk', 1 ≤ k → k ≤ 7 → orbF tns s0 k = orbF tns s0 (2 * k) → (∀ i, 1 ≤ i → i < k → orbF tns s0 i ≠ orbF tns s0 (2 * i)) → (∀ n, Alv tns s0 n) →
      j ≤ 5 → orbF tns s0 j = orbF tns s0 (2 * k + j) → (∀ i, i < j → orbF tns s0 i ≠ orbF tns s0 (2 * k + i)) → 1 ≤ x → x ≤ 6 → orbF tns s0 j = orbF tns s0 (2 * k + j + x) → (∀ i, 1 ≤ i → i < x → orbF tns s0 j ≠ orbF tns s0 (2 * k + j + i)) →
      Fr h₀ L h' m → News h₀ L h' led' → Sg w D keep tns wns s0 (orb tns s0 k) j (2 * k + j + x) led' → Q .none { s with heap := h', toks := tk' })
    (exc : ∀ l e C D' es n vs sl G led' h' tk', Alv tns s0 l → ¬ orbF tns s0 (l + 1) < 6 → RefIs D.ab (orbF tns s0 l) C es → Fr h₀ L G m → RaisedX base G (envX cn cs L a ccd cl :: outer) e ⟨.ref C, some D', .fields vs, sl⟩ ((D', dictOf es n) :: led') h' → G.UpToSlots h' →
      Sr w D keep tns wns s0 [] (aOf l) l (orbF tns s0 l) led' → E (.ref e) { s with heap := h', toks := tk' }) :
    wpAny (model PG w) (ktrTop dp un gd cn cs L a ccd cl outer) (call (.ref 240) [.ref D.aw, .int s0 tst, .ref atab, .ref aws, .int marks tm, .ref arow, .ref aj]) Q E s := by
  refine wpAny_call ?_
  k_dflt k_enter
  rename_i FG1 F1 N1 B1 X1 T1
  refine' cut_execs (l' := [goB.getD 0 default, goB.getD 1 default, goB.getD 2 default, goB.getD 3 default]) (env' := envG _) rfl rfl ?_
  show wpAny _ (arG (dp + 1) (un + 3) gd _ (envX cn cs L a ccd cl :: outer)) _ _ _ _
  refine wpAny_execs_cons (go_loop1 (D := D) (keep := keep) (tns := tns) (wns := wns) (s0 := s0) (start := s0) (marks := marks) (tm := tm) (tst := tst) B1 F1 X1 N1 T1 C Wk0 ⟨rfl, rfl, rfl, rfl, rfl, rfl, rfl⟩ (fun j hj => by rw [Nat.le_zero.mp hj]; exact hs) (by passes_own) (by omega) (by omega) (fun k led2 h2 tk2 m2 k1 k7 ke kl A2 F2 N2 S2 V2 => ?_) (fun l e C' D' es n vs sl G led' h' tk' m' hA hl hR hF hX hU hS => ?_))
  · have al := alv_all k1 ke A2
    refine wpAny_execs_cons (go_back (s := { s with heap := h2, toks := tk2 }) B1 F2 X1 N2 T1 C S2 V2 fun led3 h3 tk3 F3 N3 S3 => ?_)
    refine wpAny_execs_cons (go_loop2 (s := { s with heap := h3, toks := tk3 }) B1 F3 X1 N3 T1 C S3 V2 al k1 k7 ke (by passes_own) (by omega) (by omega) fun j led4 h4 tk4 m4 j5 je jl F4 N4 S4 V4 => ?_)
    refine wpAny_execs_cons (go_loop3 (s := { s with heap := h4, toks := tk4 }) B1 F4 X1 N4 T1 C S4 V4 al k1 k7 ke j5 je (by passes_own) (by omega) (by omega) fun x led5 h5 tk5 m5 x1 x6 xe xl F5 N5 S5 => ?_)
    refine wpAny_execs_nil (leaveK_ F5 N5 fun kF kN => ?_)
    exact ret k j x led5 h5 tk5 k1 k7 ke kl al j5 je jl x1 x6 xe xl kF kN S5
  · exact leave_onE rfl B1 hF hX hU fun h'' R'' U'' => exc l e C' D' es n vs sl _ led' _ _ hA hl hR FG1 R'' U'' hS

end
end
section -- V0
theorem OctsAre.mono {led led' : Led} {vs : List Value} {xs : List Int} (h : OctsAre led vs xs) (hs : ∀ q ∈ led, q ∈ led') : OctsAre led' vs xs := by
  induction h with
  | nil => exact .nil
  | cons hm hi hr ih => exact .cons (hs _ hm) hi ih
theorem OctsAre.len {led : Led} {vs : List Value} {xs : List Int} (h : OctsAre led vs xs) : vs.length = xs.length := by
  induction h with
  | nil => rfl
  | cons hm hi hr ih => simp [ih]
theorem OctsAre.app {led : Led} {vs : List Value} {xs : List Int} {a : Addr} {x : Int} {n : Nat} {vo : List Value} (h : OctsAre led vs xs) (hm : (a, W.listOf vo.toArray n) ∈ led) (hi : IntsAre vo (octs x)) : OctsAre led (vs ++ [.ref a]) (xs ++ [x]) := by
  induction h with
  | nil => exact .cons hm hi .nil
  | cons hm' hi' hr ih => exact .cons hm' hi' ih
theorem OctsAre.get {led : Led} {vs : List Value} {xs : List Int} (h : OctsAre led vs xs) : ∀ (i : Nat) (v : Value), vs[i]? = some v → ∃ a x n vo, v = .ref a ∧ (a, W.listOf (List.toArray vo) n) ∈ led ∧ IntsAre vo (octs x) ∧ xs[i]? = some x := by
  induction h with
  | nil => intro i v h; simp at h
  | @cons a x n vo vs xs hm hi hr ih =>
    intro i v h
    cases i with
    | zero =>
      obtain rfl : Value.ref a = v := by simpa using h
      exact ⟨a, x, n, vo, rfl, hm, hi, rfl⟩
    | succ i => simpa using ih i v (by simpa using h)
theorem TupsAre.mono {led led' : Led} {vs : List Value} {xs : List (List Int)} (h : TupsAre led vs xs) (hs : ∀ q ∈ led, q ∈ led') : TupsAre led' vs xs := by
  induction h with
  | nil => exact .nil
  | cons hm hi hr ih => exact .cons (hs _ hm) hi ih
theorem TupsAre.len {led : Led} {vs : List Value} {xs : List (List Int)} (h : TupsAre led vs xs) : vs.length = xs.length := by
  induction h with
  | nil => rfl
  | cons hm hi hr ih => simp [ih]
theorem TupsAre.app {led : Led} {vs : List Value} {xs : List (List Int)} {a : Addr} {x : List Int} {n : Nat} {vt : List Value} (h : TupsAre led vs xs) (hm : (a, ({ cls := .type "tuple", data := .seq vt.toArray n } : Obj)) ∈ led) (hi : IntsAre vt x) : TupsAre led (vs ++ [.ref a]) (xs ++ [x]) := by
  induction h with
  | nil => exact .cons hm hi .nil
  | cons hm' hi' hr ih => exact .cons hm' hi' ih
theorem TupsAre.get {led : Led} {vs : List Value} {xs : List (List Int)} (h : TupsAre led vs xs) : ∀ (i : Nat) (v : Value), vs[i]? = some v → ∃ a x n vt, v = .ref a ∧ (a, ({ cls := .type "tuple", data := .seq (List.toArray vt) n } : Obj)) ∈ led ∧ IntsAre vt x ∧ xs[i]? = some x := by
  induction h with
  | nil => intro i v h; simp at h
  | @cons a n vt vs x xs hm hi hr ih =>
    intro i v h
    cases i with
    | zero =>
      obtain rfl : Value.ref a = v := by simpa using h
      exact ⟨a, x, n, vt, rfl, hm, hi, rfl⟩
    | succ i => simpa using ih i v (by simpa using h)
theorem app_left {l l' : Led} : ∀ q ∈ l, q ∈ l ++ l' := fun q hq => List.mem_append_left _ hq
theorem sub_pre {l : Led} (pre : Led) : ∀ q ∈ l, q ∈ pre ++ l := fun q hq => List.mem_append_right _ hq
theorem noCell_seq {c : Value} {d : Option Addr} {a : Array Value} {n : Nat} {sl : Array (Option Value)} : NoCell ⟨c, d, .seq a n, sl⟩ := fun v h => by cases h
theorem noCell_fields {c : Value} {d : Option Addr} {a : Array Value} {sl : Array (Option Value)} : NoCell ⟨c, d, .fields a, sl⟩ := fun v h => by cases h
theorem ne_cell {h₀ h : Heap} {L a c : Addr} {led : Led} {o oc : Obj} {v : Option Value} (N : News h₀ L h led) (h1 : (a, o) ∈ led) (h2 : (c, oc) ∈ led) (hc : oc.data = .cell v) (hn : NoCell o) : a ≠ c := by
  rintro rfl
  have e1 := (N _ h1).1
  have e2 := (N _ h2).1
  have e : o = oc := Option.some.inj (e1.symm.trans e2)
  subst e
  exact hn _ hc
theorem OffCD.push {C D a : Addr} {o : Obj} {wr : List Addr} {nw tl : Led} (h : OffCD C D wr nw) (hlv : ∀ b ∈ wr, ∃ o, (b, o) ∈ tl) (hc : C < a) (hd : D < a) (hl : AllLt a (nw ++ tl)) : OffCD C D wr ((a, o) :: nw) := by
  intro q hq
  rcases List.mem_cons.mp hq with rfl | hq
  · refine ⟨Nat.ne_of_gt hc, Nat.ne_of_gt hd, fun hb => ?_⟩
    obtain ⟨o, ho⟩ := hlv _ hb
    exact absurd (allLt_mem hl _ (List.mem_append_right _ ho)) (Nat.lt_irrefl _)
  · exact h q hq
theorem keep1 {x y c d : Addr × Obj} {nw tl : Led} : ∀ q ∈ c :: d :: (x :: nw ++ tl), q ∈ x :: y :: c :: d :: (nw ++ tl) := by
  intro q hq
  simp only [List.mem_cons, List.mem_append, List.cons_append] at hq ⊢
  rcases hq with h | h | h | h | h
  · exact .inr (.inr (.inl h))
  · exact .inr (.inr (.inr (.inl h)))
  · exact .inl h
  · exact .inr (.inr (.inr (.inr (.inl h))))
  · exact .inr (.inr (.inr (.inr (.inr h))))
theorem keep0 {x c d : Addr × Obj} {nw tl : Led} : ∀ q ∈ c :: d :: (x :: nw ++ tl), q ∈ x :: c :: d :: (nw ++ tl) := by
  intro q hq
  simp only [List.mem_cons, List.mem_append, List.cons_append] at hq ⊢
  rcases hq with h | h | h | h | h
  · exact .inr (.inl h)
  · exact .inr (.inr (.inl h))
  · exact .inl h
  · exact .inr (.inr (.inr (.inl h)))
  · exact .inr (.inr (.inr (.inr h)))
theorem keep_in {x c d y : Addr × Obj} {rr tl : Led} : ∀ q ∈ c :: d :: ((y :: x :: rr) ++ tl), q ∈ x :: c :: d :: y :: (rr ++ tl) := by
  intro q hq
  simp only [List.mem_cons, List.mem_append, List.cons_append] at hq ⊢
  rcases hq with h | h | h | h | h | h
  · exact .inr (.inl h)
  · exact .inr (.inr (.inl h))
  · exact .inr (.inr (.inr (.inl h)))
  · exact .inl h
  · exact .inr (.inr (.inr (.inr (.inl h))))
  · exact .inr (.inr (.inr (.inr (.inr h))))
theorem OffCD.push2 {C D a : Addr} {o : Obj} {y : Addr × Obj} {wr : List Addr} {rr tl : Led} (h : OffCD C D wr (y :: rr)) (hlv : ∀ b ∈ wr, ∃ o, (b, o) ∈ tl) (hc : C < a) (hd : D < a) (hl : AllLt a (rr ++ tl)) : OffCD C D wr (y :: (a, o) :: rr) := by
  intro q hq
  rcases List.mem_cons.mp hq with rfl | hq
  · exact h _ List.mem_cons_self
  rcases List.mem_cons.mp hq with rfl | hq
  · refine ⟨Nat.ne_of_gt hc, Nat.ne_of_gt hd, fun hb => ?_⟩
    obtain ⟨o, ho⟩ := hlv _ hb
    exact absurd (allLt_mem hl _ (List.mem_append_right _ ho)) (Nat.lt_irrefl _)
  · exact h q (List.mem_cons_of_mem _ hq)
theorem gapL_get (xs ys : List Int) {k : Int} (h : 0 ≤ k ∧ k < 3) : (gapL xs ys)[k.toNat]? = some (xs.getD k.toNat 0 - ys.getD k.toNat 0) := by
  unfold gapL
  rw [List.getElem?_map, List.getElem?_range (by omega)]
  rfl
theorem gapL_getD (xs ys : List Int) {k : Int} (h : 0 ≤ k ∧ k < 3) : (gapL xs ys).getD k.toNat 0 = xs.getD k.toNat 0 - ys.getD k.toNat 0 := by
  rw [List.getD_eq_getElem?_getD, gapL_get xs ys h]; rfl
theorem cmpL_head {ks : List (Int × Int)} {xs ys : List Int} (h : ∀ p ∈ ks, 0 ≤ p.1 ∧ p.1 < 3) : (cmpL ks (gapL xs ys) ++ [0])[(0 : Int).toNat]? = some (cmpK ks xs ys) := by
  show (cmpL ks (gapL xs ys) ++ [0])[0]? = _
  induction ks with
  | nil => rfl
  | cons p r ih =>
    obtain ⟨k, d⟩ := p
    have hk := h _ List.mem_cons_self
    have ih' := ih fun p hp => h p (List.mem_cons_of_mem _ hp)
    have e := gapL_getD xs ys hk
    unfold cmpL at ih' ⊢
    unfold cmpK
    rw [List.filterMap_cons]
    simp only [e]
    by_cases h1 : xs.getD k.toNat 0 < ys.getD k.toNat 0
    · rw [if_pos (by omega), if_neg (by omega), if_pos h1]; rfl
    · rw [if_neg h1]
      by_cases h2 : ys.getD k.toNat 0 < xs.getD k.toNat 0
      · rw [if_pos (by omega), if_pos (by omega), if_pos h2]; rfl
      · rw [if_neg h2, if_neg (by omega)]; exact ih'
theorem cmpL_succ {ks : List (Int × Int)} {gs : List Int} {i : Nat} {k d : Int} (h : ks[i]? = some (k, d)) : cmpL (ks.take (i + 1)) gs = cmpL (ks.take i) gs ++ (if gs.getD k.toNat 0 ≠ 0 then [if gs.getD k.toNat 0 > 0 then d else -d] else []) := by
  unfold cmpL
  rw [List.take_add_one, h, List.filterMap_append]
  congr 1
  show List.filterMap _ [(k, d)] = _
  rw [List.filterMap_cons, List.filterMap_nil]
  dsimp only
  by_cases c : gs.getD k.toNat 0 ≠ 0
  · rw [if_pos c, if_pos c]
  · rw [if_neg c, if_neg c]
theorem KeysAre.take {led : Led} {vs : List Value} {ks : List (Int × Int)} (h : KeysAre led vs ks) : ∀ i : Nat, KeysAre led (vs.take i) (ks.take i) := by
  induction h with
  | nil => intro i; simp; exact .nil
  | cons hm hi hr ih =>
    intro i
    cases i with
    | zero => exact .nil
    | succ i => exact .cons hm hi (ih i)
theorem KeysAre.bnd {led : Led} {vs : List Value} {ks : List (Int × Int)} (h : KeysAre led vs ks) : ∀ p ∈ ks, 0 ≤ p.1 ∧ p.1 < 3 := by
  induction h with
  | nil => intro p hp; exact absurd hp List.not_mem_nil
  | cons hm hi hr ih =>
    intro p hp
    rcases List.mem_cons.mp hp with rfl | hp
    · exact hi
    · exact ih p hp
section
open PySem.Calls
variable {prog : Program} {w : World} {A : Around} {E : Value → Shared → Prop} {s : Shared} {h₀ : Heap} {L : Addr} {m : Str → Option Value} {news : Led}
theorem slice_upto {l : Addr} {vs : List Value} {n : Nat} {y : Int} {t : Tok} {value slice : PySem.Expr} {Q : Value → Shared → Prop} (F : Fr h₀ L s.heap m) (N : News h₀ L s.heap news) (hm : (l, W.listOf vs.toArray n) ∈ news) (h0 : 0 ≤ y) (hv : vs.length < 1000)
    (h : ∀ D h', Fr h₀ L h' m → News h₀ L h' ((D, W.listOf (vs.take y.toNat).toArray 0) :: news) → (∀ p ∈ news, p.1 < D) → Q (.ref D) { s with heap := h' })
    (hs : subscripted slice false (.ref l) (.ref s.heap.objs.size) = operate [.ref s.heap.objs.size, .ref l] (getItem (.ref l) (.ref s.heap.objs.size))) (ht : ∀ r, letTemporaryGo value (.ref l) r = pure ()) :
    wpAny (model prog w) A (subscriptTail value slice (.ref l) (.ref s.heap.objs.size)) Q E { s with heap := s.heap.push { cls := .type "slice", data := .fields #[.none, .int y t, .none] } } := by
  refine kmk_slice F N (N.isList hm) .none (.int y t) (fun D h' F' N' l1 => h D h' F' ?_ l1) hs ht (by rw [List.size_toArray, sizeLine_eq]; omega)
  have e : sliceBounds none (some y) none vs.toArray.size = (((0 : Nat) : Int), ((min y.toNat vs.toArray.size : Nat) : Int), 1) := by
    simp only [sliceBounds, Option.getD_none, show (1 : Int) > 0 by decide, if_true, if_neg (show ¬ (y < 0) by omega)]
    congr 1
    congr 1
    omega
  have e2 : slicePick vs.toArray none (some y) none = (vs.take y.toNat).toArray := by
    rw [kmk_pick_nat _ e]
    show ((vs.drop 0).take (min y.toNat vs.toArray.size - 0)).toArray = _
    rw [List.drop_zero, Nat.sub_zero, List.size_toArray, kmk_take_min]
  rw [e2] at N'
  exact N'
theorem list_item {value slice : PySem.Expr} {l : Addr} {vs : List Value} {n : Nat} {k : Int} {u : Tok} {v : Value} {Q : Value → Shared → Prop} (N : News h₀ L s.heap news) (hm : (l, W.listOf vs.toArray n) ∈ news)
    (h0 : 0 ≤ k ∧ k < 1000) (hx : vs[k.toNat]? = some v) (h : Q v s)
    (hs : subscripted slice false (.ref l) (.int k u) = operate [.ref l, .int k u] (getItem (.ref l) (.int k u)) := by with_unfolding_all rfl) (hg : ∀ r, letTemporaryGo value (.ref l) r = pure () := by intro _; with_unfolding_all rfl) : wpAny (model prog w) A (subscriptTail value slice (.ref l) (.int k u)) Q E s :=
  lit_item N hm h0.1 (by omega) (by simpa using hx) h hs hg
end
theorem RN.set {an ak aj : Addr} {p : Int} {tp : Tok} {m : Str → Option Value} (h : RN an ak aj p tp m) {x : Str} {v : Option Value} (hx : Str.ofString "numbers" ≠ x ∧ Str.ofString "plan" ≠ x ∧ Str.ofString "keys" ≠ x ∧ Str.ofString "judges" ≠ x) : RN an ak aj p tp (fun y => if y = x then v else m y) :=
  ⟨(if_neg hx.1).trans h.numbers, (if_neg hx.2.1).trans h.plan, (if_neg hx.2.2.1).trans h.keys, (if_neg hx.2.2.2).trans h.judges⟩
theorem Jd.mono {keep keep' : Led} {ak aj : Addr} {ks : List (Int × Int)} (J : Jd keep ak aj ks) (h : ∀ q ∈ keep, q ∈ keep') : Jd keep' ak aj ks := by
  obtain ⟨⟨vk, nk, mk, hk⟩, k3, ⟨vj, nj, mj, hj⟩⟩ := J
  refine ⟨⟨vk, nk, h _ mk, hk.mono fun v _ a o _ q => h _ q⟩, k3, ⟨vj, nj, h _ mj, fun i hi => ?_⟩⟩
  obtain ⟨j, Dj, al, hsh, tkc, vs, nl, a, b, c, d, e⟩ := hj i hi
  exact ⟨j, Dj, al, hsh, tkc, vs, nl, a, h _ b, h _ c, h _ d, e.mono fun v _ a o _ q => h _ q⟩
theorem gapL_len (xs ys : List Int) : (gapL xs ys).length = 3 := by unfold gapL; simp
theorem mem_swap2 {x y : Addr × Obj} {l : Led} : ∀ q ∈ y :: x :: l, q ∈ x :: y :: l := by
  intro q hq
  simp only [List.mem_cons] at hq ⊢
  rcases hq with h | h | h
  · exact .inr (.inl h)
  · exact .inl h
  · exact .inr (.inr h)
theorem forB6_eq : forB6 = [forB6.getD 0 default, forB6.getD 1 default] := by rfl
theorem RP.set {P : (Str → Option Value) → Prop} {an ak aj : Addr} {p : Int} {tp : Tok} {m : Str → Option Value} (hP : ClP P) (h : RP P an ak aj p tp m) {x : Str} {v : Option Value} (hx : x = Str.ofString "one" ∨ x = Str.ofString "other" ∨ x = Str.ofString "many") : RP P an ak aj p tp (fun y => if y = x then v else m y) :=
  ⟨h.rn.set (by rcases hx with rfl | rfl | rfl <;> decide), hP m x v hx h.q⟩
end
section -- V3
section
open PySem.Calls
variable {prog : Program} {w : World} {A : Around} {E : Value → Shared → Prop} {s : Shared} {h₀ : Heap} {L : Addr} {m : Str → Option Value} {news : Led}
theorem last_item {value slice : PySem.Expr} {l : Addr} {vs : List Value} {ns : List Int} {n : Nat} {p : Int} {u : Tok} {Q : Value → Shared → Prop} (N : News h₀ L s.heap news) (hm : (l, W.listOf vs.toArray n) ∈ news) (hi : IntsAre vs ns) (h0 : 0 < ns.length ∧ ns.length ≤ 7) (hp : ns.getD (ns.length - 1) 0 = p)
    (h : ∀ t, Q (.int p t) s)
    (hs : subscripted slice false (.ref l) (.int (-1) u) = operate [.ref l, .int (-1) u] (getItem (.ref l) (.int (-1) u)) := by with_unfolding_all rfl) (hg : ∀ r, letTemporaryGo value (.ref l) r = pure () := by intro _; with_unfolding_all rfl) :
    wpAny (model prog w) A (subscriptTail value slice (.ref l) (.int (-1) u)) Q E s := by
  refine item_list_ints_neg (N.isList hm) hi (by decide) (by omega) (by decide) (fun t => ?_) hs hg
  rw [show ((-1 : Int) + ns.length).toNat = ns.length - 1 by omega, hp]
  exact h t
theorem mul_bit {l : Addr} {y : Int} {t : Tok} {n : Nat} {u : Tok} {b : Prop} [Decidable b] {Q : Value → Shared → Prop} (F : Fr h₀ L s.heap m) (N : News h₀ L s.heap news) (hm : (l, W.listOf #[.int y t] n) ∈ news)
    (h : ∀ D ws h', Fr h₀ L h' m → News h₀ L h' ((D, W.listOf (List.toArray ws) 0) :: news) → (∀ p ∈ news, p.1 < D) → IntsAre ws (if b then [y] else []) → Q (.ref D) { s with heap := h' }) : wpAny (model prog w) A (binaryOp .Mult (.ref l) (.int (if decide b = true then 1 else 0) u)) Q E s := by
  by_cases hb : b
  · rw [if_pos (decide_eq_true hb)]
    refine KMa.mul (vs := [.int y t]) (ws := [.int y t]) F N (N.isList hm) (by decide) (by decide) (by show 1 * _ ≤ 256; decide) rfl fun D h' F' N' l1 => h D _ h' F' N' l1 ?_
    rw [if_pos hb]
    exact .cons _ _ .nil
  · rw [if_neg (by simpa using hb)]
    refine KMa.mul (vs := [.int y t]) (ws := []) F N (N.isList hm) (by decide) (by decide) (by show 1 * _ ≤ 256; decide) rfl fun D h' F' N' l1 => h D _ h' F' N' l1 ?_
    rw [if_neg hb]
    exact .nil
end
theorem rowN_alive {tns : List Int} {s0 : Int} (i : Nat) (h : ∀ n, n ≤ i → orbF tns s0 n < 6) : rowN tns s0 i = orb tns s0 (i + 1) := by
  induction i with
  | zero => rfl
  | succ i ih =>
    have e := ih fun n hn => h n (by omega)
    have e2 : (orb tns s0 (i + 1)).getD ((orb tns s0 (i + 1)).length - 1) 0 = orbF tns s0 i := by rw [orb_len, Nat.add_sub_cancel, orb_getD tns s0 (by omega)]
    have e3 : Int.fmod (tns.getD (orbF tns s0 i).toNat 0) 7 = orbF tns s0 (i + 1) := rfl
    rw [rowN, e, e2, e3, if_pos (h _ (Nat.le_refl _)), orb_succ tns s0 (i + 1)]
theorem rowN_stop {tns : List Int} {s0 : Int} {l : Nat} (h : ∀ n, n ≤ l → orbF tns s0 n < 6) (h6 : ¬ orbF tns s0 (l + 1) < 6) (d : Nat) : rowN tns s0 (l + d) = orb tns s0 (l + 1) := by
  induction d with
  | zero => exact rowN_alive l h
  | succ d ih =>
    have e2 : (orb tns s0 (l + 1)).getD ((orb tns s0 (l + 1)).length - 1) 0 = orbF tns s0 l := by rw [orb_len, Nat.add_sub_cancel, orb_getD tns s0 (by omega)]
    have e3 : Int.fmod (tns.getD (orbF tns s0 l).toNat 0) 7 = orbF tns s0 (l + 1) := rfl
    rw [← Nat.add_assoc, rowN, ih, e2, e3, if_neg h6, List.append_nil]
theorem rowN_ok {tns : List Int} {s0 : Int} (h : 0 ≤ s0 ∧ s0 < 6) (i : Nat) : 0 < (rowN tns s0 i).length ∧ (rowN tns s0 i).length ≤ i + 1 ∧ 0 ≤ (rowN tns s0 i).getD ((rowN tns s0 i).length - 1) 0 ∧ (rowN tns s0 i).getD ((rowN tns s0 i).length - 1) 0 < 6 := by
  induction i with
  | zero => exact ⟨Nat.zero_lt_one, Nat.le_refl 1, h.1, h.2⟩
  | succ i ih =>
    obtain ⟨a, b, c, d⟩ := ih
    rw [rowN]
    generalize hx : Int.fmod (tns.getD ((rowN tns s0 i).getD ((rowN tns s0 i).length - 1) 0).toNat 0) 7 = x
    have x0 : 0 ≤ x := by rw [← hx, Int.fmod_eq_emod_of_nonneg _ (by decide)]; exact Int.emod_nonneg _ (by decide)
    by_cases h6 : x < 6
    · rw [if_pos h6]
      have e : (rowN tns s0 i ++ [x]).getD ((rowN tns s0 i ++ [x]).length - 1) 0 = x := by
        rw [List.length_append, List.length_singleton, Nat.add_sub_cancel, List.getD_eq_getElem?_getD, List.getElem?_append_right (Nat.le_refl _), Nat.sub_self]; rfl
      rw [e, List.length_append, List.length_singleton]
      exact ⟨by omega, by omega, x0, h6⟩
    · rw [if_neg h6, List.append_nil]
      exact ⟨a, by omega, c, d⟩
theorem told_due (p : Int) (t1 t2 t3 : Tok) : ToldIs p #[.int (Int.fmod p 3) t1, .int (550 + p * (if decide (0 < Int.fmod p 3) = true then 1 else 0)) t2, .str (Txt.mul (Txt.item (Str.ofString "abcdef") p) (if decide (0 < Int.fmod p 3) = true then 1 else 0)) t3, .bool true] := by
  refine ⟨t1, t2, t3, ?_⟩
  by_cases h : 0 < Int.fmod p 3
  · rw [if_pos (decide_eq_true h), if_pos h, if_pos h]
    rfl
  · have hd : ¬ decide (0 < Int.fmod p 3) = true := by simpa using h
    rw [if_neg hd, if_neg h, if_neg h]
    rfl
section
open PySem.Calls
variable {prog : Program} {w : World} {A : Around} {E : Value → Shared → Prop} {s : Shared} {h₀ : Heap} {L : Addr} {m : Str → Option Value} {news : Led}
theorem SameV.eq {x y : Value} (h : SameV x y) : EqP prog w A s x y := by
  cases h with
  | int n t u => exact EqP.int rfl
  | str x t u => exact .of (by have := SeqAt.EqAt.str_str (A := A) (s := s) x t x u; simpa using this)
  | bool b => exact .of (by have := SeqAt.EqAt.bool_bool (A := A) (s := s) b b; simpa using this)
theorem ne_same {a b : Addr} {xs ys : Array Value} {n1 n2 : Nat} {Q : Value → Shared → Prop} (N : News h₀ L s.heap news) (ha : (a, W.listOf xs n1) ∈ news) (hb : (b, W.listOf ys n2) ∈ news) (hs : SameL xs ys) (hu : A.units < cLine) (h : Q (.bool false) s) :
    wpAny (model prog w) A (compareOp .NotEq (.ref a) (.ref b)) Q E s := by
  refine neLists (N.isList ha) (N.isList hb) (fun o e => ?_) (fun o e => ?_) hs.1 hu (fun j h1 h2 => (hs.2 j h1 h2).eq) h
  · rw [(N _ ha).1] at e; cases e; exact ⟨rfl, rfl⟩
  · rw [(N _ hb).1] at e; cases e; exact ⟨rfl, rfl⟩
end
theorem u79 : Up 79 := by
  refine u78.step rfl ?_
  k_extra "st"
  iterate 3 k_extra "g"
  intro ys xs p h1 h2
  obtain ⟨a, b, c, rfl⟩ := h1
  obtain ⟨d, e, f, rfl⟩ := h2
  refine ⟨rfl, fun j h1 h2 => ?_⟩
  rcases j with _ | _ | _ | _ | j
  · exact .int _ _ _
  · exact .int _ _ _
  · exact .str _ _ _
  · exact .bool _
  · simp at h1; omega
theorem ToldIs.same : ∀ {p xs ys}, @T79 p xs ys := no_implicit_lambda% (u79.get rfl)
theorem SameL.nil : SameL #[] #[] := ⟨rfl, fun j h1 => absurd h1 (Nat.not_lt_zero _)⟩
section
open PySem.Calls
variable {prog : Program} {w : World} {A : Around} {E : Value → Shared → Prop} {s : Shared} {h₀ : Heap} {L : Addr} {m : Str → Option Value} {news : Led}
theorem count_in {l : Addr} {vs : List Value} {ns : List Int} {n : Nat} {k : Int} {t : Tok} {Q : Value → Shared → Prop} (N : News h₀ L s.heap news) (hm : (l, W.listOf vs.toArray n) ∈ news) (hi : IntsAre vs ns) (h : ∀ t tk, Q (.int (ns.count k : Nat) t) { s with toks := tk }) :
    wpAny (model prog w) A (call (.builtin "list.count") [.ref l, .int k t]) Q E s := by
  exact count_list_ints (N.isList hm) hi (h _ _)
theorem u80 : Up 80 := by
  refine u79.step rfl ?_
  k_extra "st"
  iterate 15 k_extra "g"
  intro Q n2 n1 ys xs b l news L h₀ s E A w prog N hm hk hsz hu h
  have tl := (N.isList hm).typeIs
  have tb := (N.isList hk).typeIs
  have ho := (N _ hm).1
  have ho2 := (N _ hk).1
  refine wpAny_richCompare_same_room (op := .NotEq) tl tb PySem.F.slot_list_ne (wpAny_call (codeAny_call_builtin PySem.F.slot_list_ne.plain PySem.F.entry_list_ne (PySem.F.slot_list_ne.check _ _ _ _ _ _ _ _ tl (PySem.F.args_list_ne_2 _ _) ?_))) hu
  obtain ⟨hp, g, d, tk, os⟩ := s
  have f3 := AutoSeq1.sub_list_list
  have hne : (xs.size != ys.size) = true := by simpa using hsz
  unfold Builtin.«list.__ne__»
  wp_walk using wpAny_loadPart' ho, wpAny_loadPart' ho2
  exact ⟨(fun x => nomatch x), h⟩
theorem ne_size : ∀ {prog w A E s h₀ L news l b xs ys a c Q}, @T80 prog w A E s h₀ L news l b xs ys a c Q := no_implicit_lambda% (u80.get rfl)
end
theorem CallL.nil {led : Led} : CallL led [] [] := ⟨rfl, fun j v h => by simp at h⟩
theorem CallL.mono {led led' : Led} {ys : List Value} {ps : List (Str × Value)} (h : CallL led ys ps) (hs : ∀ q ∈ led, q ∈ led') : CallL led' ys ps := ⟨h.len, fun j v hv => by
  obtain ⟨T, t, nT, x, y, e1, e2, e3⟩ := h.tup j v hv
  exact ⟨T, t, nT, x, y, e1, e2, hs _ e3⟩⟩
theorem CallL.app {led : Led} {ys : List Value} {ps : List (Str × Value)} {T : Addr} {t : Tok} {nT : Nat} {x : Str} {y : Value} (h : CallL led ys ps) (hT : (T, ({ cls := .type "tuple", data := .seq #[.str x t, y] nT } : Obj)) ∈ led) : CallL led (ys ++ [.ref T]) (ps ++ [(x, y)]) := by
  refine ⟨by rw [List.length_append, List.length_append, h.len]; rfl, fun j v hv => ?_⟩
  by_cases hj : j < ys.length
  · rw [List.getElem?_append_left hj] at hv
    obtain ⟨T', t', nT', x', y', e1, e2, e3⟩ := h.tup j v hv
    exact ⟨T', t', nT', x', y', e1, by rw [List.getElem?_append_left (h.len ▸ hj)]; exact e2, e3⟩
  · have hjl := (List.getElem?_eq_some_iff.mp hv).1
    rw [List.length_append, List.length_singleton] at hjl
    obtain rfl : j = ys.length := by omega
    rw [List.getElem?_append_right (Nat.le_refl _), Nat.sub_self] at hv
    obtain rfl : Value.ref T = v := by simpa using hv
    exact ⟨T, t, nT, x, y, rfl, by rw [h.len, List.getElem?_append_right (Nat.le_refl _), Nat.sub_self]; rfl, hT⟩
theorem callers_app {kvs : List (Str × Value)} {c : List (Str × Int)} {k : Str} {n : Int} {t : Tok} (h : CallersAre kvs c) : CallersAre (kvs ++ [(k, .int n t)]) (c ++ [(k, n)]) := by
  induction h with
  | nil => exact .cons _ _ _ .nil
  | cons k n t r ih => exact .cons _ _ _ ih
theorem callsI_two (ts hs : List Int) (k : Int) : CC (callsI ts hs k 2) (ts.count k) (hs.count k) ∧ (callsI ts hs k 2).length ≤ 2 := by
  show CC (([] ++ partC ts hs k false) ++ partC ts hs k true) _ _ ∧ (([] ++ partC ts hs k false) ++ partC ts hs k true).length ≤ 2
  unfold partC CC
  simp only [cond, List.nil_append]
  by_cases h1 : 0 < ts.count k
  · by_cases h2 : 0 < hs.count k
    · rw [if_pos h1, if_pos h2]; exact ⟨.inr (.inr (.inr ⟨h1, h2, .inl rfl⟩)), by simp⟩
    · rw [if_pos h1, if_neg h2]; exact ⟨.inr (.inl ⟨h1, by omega, rfl⟩), by simp⟩
  · by_cases h2 : 0 < hs.count k
    · rw [if_neg h1, if_pos h2]; exact ⟨.inr (.inr (.inl ⟨by omega, h2, rfl⟩)), by simp⟩
    · rw [if_neg h1, if_neg h2]; exact ⟨.inl ⟨by omega, by omega, rfl⟩, by simp⟩
theorem u81 : Up 81 := by
  refine u80.step rfl ?_
  k_extra "st"
  iterate 4 k_extra "g"
  intro nh nt c' c h h'
  rcases h with ⟨a, b, rfl⟩ | ⟨a, b, rfl⟩ | ⟨a, b, rfl⟩ | ⟨a, b, rfl | rfl⟩ <;> rcases h' with ⟨a', b', rfl⟩ | ⟨a', b', rfl⟩ | ⟨a', b', rfl⟩ | ⟨a', b', rfl | rfl⟩ <;> first
    | omega
    | (refine ⟨rfl, fun p hp => ?_⟩; (simp only [List.mem_cons, List.not_mem_nil, or_false] at hp ⊢) <;> first | exact hp | exact hp.symm)
theorem CC.alike : ∀ {c a b d}, @T81 c a b d := no_implicit_lambda% (u81.get rfl)
section
open PySem.Calls
variable {prog : Program} {w : World} {A : Around} {E : Value → Shared → Prop} {s : Shared} {h₀ : Heap} {L : Addr} {m : Str → Option Value} {news : Led}
theorem mul_small {a b : Int} {t u : Tok} {Q : Value → Shared → Prop} (ha : -1000 < a ∧ a < 1000) (h : Q (.int (a * b) s.toks) { s with toks := s.toks + 1 }) : wpAny (model prog w) A (binaryOp .Mult (.int a t) (.int b u)) Q E s :=
  PyProof.Rows.mul_int h (IntMulOk.of_left (intBits_le_64 (Int.lt_trans (by decide) ha.1) (Int.lt_trans ha.2 (by decide))))
theorem ne_told {a b ae be ac bc : Addr} {x y c1 c2 c3 c4 : Int} {n1 n2 ne1 ne2 : Nat} {t1 t2 t3 t4 t5 t6 u1 u2 u3 u4 u5 u6 : Tok} {oc od : Obj} {ka kb : List (Str × Value)} {cc cd : List (Str × Int)} {Q : Value → Shared → Prop} (N : News h₀ L s.heap news)
    (ma : (a, W.listOf #[.ref ae, .int x t5, .int y t6] n1) ∈ news) (mb : (b, W.listOf #[.ref be, .int x u5, .int y u6] n2) ∈ news)
    (mae : (ae, ({ cls := .type "tuple", data := .seq #[.int c1 t1, .int c2 t2, .int c3 t3, .int c4 t4, .ref ac] ne1} : Obj)) ∈ news) (mbe : (be, ({ cls := .type "tuple", data := .seq #[.int c1 u1, .int c2 u2, .int c3 u3, .int c4 u4, .ref bc] ne2} : Obj)) ∈ news)
    (hne : ae ≠ be) (mac : (ac, oc) ∈ news) (hoc : oc.IsDictOf (strKind prog w) ka) (lac : (ac == sysModules) = false) (hcc : CallersAre ka cc) (mbc : (bc, od) ∈ news) (hod : od.IsDictOf (strKind prog w) kb) (lbc : (bc == sysModules) = false) (hcd : CallersAre kb cd)
    (hne2 : ac ≠ bc) (hnd : (cd.map (·.1)).Nodup) (hlen : cc.length = cd.length) (hsub : ∀ p ∈ cc, p ∈ cd) (hu : A.units < cLine) (hu1 : A.in1.units < cLine) (hu2 : A.in1.in1.units < cLine) (h : Q (.bool false) s) :
    wpAny (model prog w) A (compareOp .NotEq (.ref a) (.ref b)) Q E s := by
  have ent : EqP prog w A.in1 s (.ref ae) (.ref be) := .ref hne fun E Q h => by
    refine eqTuples (xs := #[.int c1 t1, .int c2 t2, .int c3 t3, .int c4 t4, .ref ac]) (ys := #[.int c1 u1, .int c2 u2, .int c3 u3, .int c4 u4, .ref bc]) (News.isTup N mae) (News.isTup N mbe) rfl hu1 (fun j q1 q2 => ?_) h
    rcases j with _ | _ | _ | _ | _ | j
    · exact EqP.int rfl
    · exact EqP.int rfl
    · exact EqP.int rfl
    · exact EqP.int rfl
    · exact EqP.dicts hne2 lac lbc (kda_dict N mac hoc) (kda_dict N mbc hod) hcc hcd hnd hlen hsub hu2
    · exact absurd q1 (by simp)
  refine neLists (N.isList ma) (N.isList mb) (fun o e => ?_) (fun o e => ?_) rfl hu (fun j q1 q2 => ?_) h
  · rw [(N _ ma).1] at e; injection e with e; subst e; exact ⟨rfl, rfl⟩
  · rw [(N _ mb).1] at e; injection e with e; subst e; exact ⟨rfl, rfl⟩
  · rcases j with _ | _ | _ | j
    · exact ent
    · exact EqP.int rfl
    · exact EqP.int rfl
    · exact absurd q1 (by simp)
end
end
section -- V1
section
open PySem.Calls
variable {prog : Program} {w : World} {A : Around} {E : Value → Shared → Prop} {s : Shared}
theorem list_no_keys : typeLookup (.type "list") (Str.ofString "keys") = pure none := am_miss_of_fast (by kernel_rfl)
theorem getAttrQ_list {a : Addr} {o : Obj} {xs : Array Value} {k : Nat} {Q : Option Value → Shared → Prop} (hx : s.heap.get? a = some o) (hc : o.cls = .type "list") (hdat : o.data = .seq xs k) (hd : o.dict = none) (hA : A.handled = none)
    (h : ∀ h' tk, (∀ b ob, s.heap.get? b = some ob → h'.get? b = some ob) → Q none { s with heap := h', toks := tk }) :
    wpAny (model prog w) A (getAttr? (.ref a) "keys") Q E s := by
  obtain ⟨c, dct, dat, sl⟩ := o
  simp only at hc hdat hd
  subst hc hdat hd
  obtain ⟨hp, g, d, tk, os⟩ := s
  have hT : ∀ tk', (⟨hp, g, d, tk', os⟩ : Shared).TypeIs (.ref a) "list" := fun _ => ⟨_, hx, rfl⟩
  have f1 := sub_AttributeError
  have f3 := PySem.F.slot_list_getattribute.lookup
  have f4 := PySem.F.slot_list_getattribute.bind (.ref a)
  have f5 := am_list_getattr_none
  unfold getAttr? getAttrBy? getAttrBy
  repeat (any_goals (first | assumption | exact hT _ | ((with_reducible show wpAny _ _ (call (Value.builtin "list.__getattribute__") _ _) _ _ _); refine call_meets PySem.F.slot_list_getattribute (hT _) am_entry_list_getattribute (PySem.F.args_list_getattribute_2 _ _) (meets_getattribute_miss_list a xs k sl (Str.ofString "keys") _ list_no_keys (by decide +kernel) (by rw [sizeLine_eq]; decide)) ⟨hx, hA, fun h' tk' e hx' => ?_⟩) | wp_step))
  obtain ⟨t', u', he⟩ := hx'.there
  show wpAny _ _ (getattributeRaised _ _ _ _ _ _ _) _ _ _
  unfold getattributeRaised
  repeat (any_goals (first | assumption | wp_step))
  exact h _ _ fun b ob => hx'.keeps b ob
theorem entry_upd_loop : entryFor table "dict.update.loop" = some Builtin.«dict.update.loop» := entryFor_of_tree (by kernel_rfl)
theorem plain_upd_loop : plainId "dict.update.loop" = true := by decide +kernel
end
section
open PySem.Calls
variable {prog : Program} {w : World} {K : Type} [DecidableEq K] {knd : KeyKind prog w K} {A : Around} {R : Result → Shared → Prop}
theorem merged_len (l : List (K × Value)) : ∀ kvs : List (K × Value), (merged kvs l).length ≤ kvs.length + l.length := by
  induction l with
  | nil => intro kvs; exact Nat.le_refl _
  | cons p r ih =>
    intro kvs
    have h1 := ih (stored kvs p.1 p.2)
    have h2 := stored_length_le kvs p.1 p.2
    show (merged (stored kvs p.1 p.2) r).length ≤ _
    rw [List.length_cons]
    omega
theorem upd_loop {I ax d : Addr} {n : Nat} {P : Nat → Value → Prop} {St : Nat → Heap → Prop} (W : Walks prog w A.in1 I [I, ax] [I] n P St) {ps : List (K × Value)} {hb : Heap} (hn : n = ps.length) (hz : n ≤ 1000) (hdI : d ≠ I) (hdx : d ≠ ax) (res : Value)
    (hP : ∀ i v, P i v → ∃ T kv k x nT dd sl, v = .ref T ∧ T ≠ I ∧ T ≠ d ∧ hb.get? T = some ⟨.type "tuple", dd, .seq #[kv, x] nT, sl⟩ ∧ knd.is k kv = true ∧ ps[i]? = some (k, x)) (k : Nat) :
    ∀ (i : Nat) (s : Shared), n - i = k → i ≤ n → St i s.heap → s.heap.DictOf knd d (merged [] (ps.take i)) → (∀ b o, b ≠ I → b ≠ d → hb.get? b = some o → s.heap.get? b = some o) →
    (∀ h' tk, h'.DictOf knd d (merged [] ps) → (∀ b o, b ≠ I → b ≠ d → hb.get? b = some o → h'.get? b = some o) → R (.ok (.ret res)) { s with heap := h', toks := tk }) →
    codeAny (model prog w) A (.builtin "dict.update.loop" ⟨[.ref d, .ref I, rawInt i, res], []⟩) R s := by
  induction k with
  | zero =>
    intro i s hk hi hst hd hkp hR
    have hin : i = n := by omega
    subst hin
    refine codeAny_builtin entry_upd_loop ?_
    rw [Around.under_plainId plain_upd_loop _]
    show wpAny _ A.in1 (pyNext (.ref I) >>= _) _ _ s
    refine wpAny_bind (W.done s _ _ hst fun h' tk hk' => ?_)
    show wpAny _ _ (Builtin.Dict.addKeywords d [] >>= fun _ => ret res) _ _ _
    rw [hn, List.take_length] at hd
    refine wpAny_bind (wpAny_pure (wpAny_pure (hR _ _ (hd.extBut (b := I) (fun b o hb e => hk' b o (fun q => hb (List.mem_singleton.mp q)) e) hdI) fun b o h1 h2 e => hk' b o (fun q => h1 (List.mem_singleton.mp q)) (hkp b o h1 h2 e))))
  | succ k ih =>
    intro i s hk hi hst hd hkp hR
    have hlt : i < n := by omega
    refine codeAny_builtin entry_upd_loop ?_
    rw [Around.under_plainId plain_upd_loop _]
    show wpAny _ A.in1 (pyNext (.ref I) >>= _) _ _ s
    refine wpAny_bind (W.item i s _ _ hlt hst fun v h' tk hPv hst' hk' => ?_)
    obtain ⟨T, kv, kk, x, nT, dd, sl, rfl, hTI, hTd, hT, hkey, hps⟩ := hP i v hPv
    have hT' : h'.get? T = some ⟨.type "tuple", dd, .seq #[kv, x] nT, sl⟩ := hk' _ _ (fun q => hTI (List.mem_singleton.mp q)) (hkp _ _ hTI hTd hT)
    have hd' : h'.DictOf knd d (merged [] (ps.take i)) := hd.extBut (b := I) (fun b o hb e => hk' b o (fun q => hb (List.mem_singleton.mp q)) e) hdI
    show wpAny _ _ (holding [Value.ref T] _ >>= _) _ _ _
    refine wpAny_bind (wpAny_holding (wpAny_bind ?_))
    have hT2 : ({ s with heap := h', toks := tk } : Shared).TypeIs (.ref T) "tuple" := ⟨_, hT', rfl⟩
    refine wpAny_tryCatch ?_
    unfold Builtin.Dict.pairItems
    refine wpAny_bind (wpAny_typeOf hT2 ?_)
    rw [if_pos (by decide)]
    refine wpAny_bind (wpAny_seqItems hT' rfl ?_)
    refine wpAny_pure ?_
    show wpAny _ _ (holding [kv, x] (dictSet d kv x)) _ _ _
    refine wpAny_holding (wpAny_dictSet_pairs hkey hd' (fun h'' hd'' hs => ?_) ?_)
    · have e := merged_take_succ [] ps i (kk, x) hps
      rw [← e] at hd''
      refine wpAny_pure ⟨plainId_quiet plain_upd_loop _, ih (i + 1) _ (by omega) hlt (W.frame _ _ _ hst' fun b hb o e => ?_) hd'' (fun b o h1 h2 e => ?_) hR⟩
      · have hbd : b ≠ d := by
          rintro rfl
          rcases List.mem_cons.mp hb with e | hb
          · exact hdI e
          · exact hdx (List.mem_singleton.mp hb)
        exact (hs.2 b hbd).trans e
      · exact (hs.2 b h2).trans (hk' b o (fun q => h1 (List.mem_singleton.mp q)) (hkp b o h1 h2 e))
    · have := merged_len (ps.take i) []
      rw [List.length_take] at this
      simp only [List.length_nil] at this
      rw [sizeLine_eq]; omega
end
section
open PySem.Calls
variable {prog : Program} {w : World} {K : Type} [DecidableEq K] {knd : KeyKind prog w K} {A : Around} {E : Value → Shared → Prop} {s : Shared} {h₀ : Heap} {L : Addr} {m : Str → Option Value} {news : Led}
theorem dict_pairs {l : Addr} {vs : List Value} {n : Nat} {ps : List (K × Value)} {Q : Value → Shared → Prop} (hh : A.handled = none) (F : Fr h₀ L s.heap m) (N : News h₀ L s.heap news) (hbig : h₀.NoLimit) (hm : (l, W.listOf vs.toArray n) ∈ news)
    (hp : ∀ (i : Nat) (v : Value), vs[i]? = some v → ∃ T kv k x nT, v = .ref T ∧ (T, ({ cls := .type "tuple", data := .seq #[kv, x] nT } : Obj)) ∈ news ∧ knd.is k kv = true ∧ ps[i]? = some (k, x)) (hl : vs.length = ps.length) (nd : (ps.map (·.1)).Nodup) (hz : ps.length ≤ 1000)
    (h : ∀ d h' tk o, Fr h₀ L h' m → News h₀ L h' ((d, o) :: news) → (∀ p ∈ news, p.1 < d) → (d == sysModules) = false → o.IsDictOf knd ps → Q (.ref d) { s with heap := h', toks := tk }) :
    wpAny (model prog w) A (call (.type "dict") [.ref l]) Q E s := by
  have zl := N _ hm
  have lt : ∀ q ∈ news, q.1 < s.heap.objs.size := fun q hq => Heap.lt_size (N q hq).1
  refine callType_codes (Q₁ := fun obj s₁ => obj = .ref s.heap.objs.size ∧ s₁ = { s with heap := s.heap.push { cls := .type "dict", data := .dict #[] } }) PySem.F.kt_called_dict (PySem.F.kt_typeCall_dict_1 _) PySem.F.entry_dict_init (kt_code_dict_new _ ⟨rfl, rfl⟩) ?_
  rintro obj s₁ ⟨rfl, rfl⟩
  have hnew : (s.heap.push { cls := .type "dict", data := .dict #[] }).DictOf knd s.heap.objs.size [] := Heap.DictOf.new s.heap
  have hl0 : (s.heap.push { cls := .type "dict", data := .dict #[] }).get? l = some (W.listOf vs.toArray n) := Heap.get?_push_of_some _ zl.1
  refine ⟨hnew.typeIs, PySem.F.args_dict_init_2 _ _, ?_⟩
  unfold Builtin.«dict.__init__»
  refine wpAny_bind ?_
  unfold Builtin.Dict.selfAndRest
  refine wpAny_bind (wpAny_notOrdered_dict hnew.typeIs ?_)
  show wpAny _ _ (pure (s.heap.objs.size, [Value.ref l])) _ _ _
  refine wpAny_pure ?_
  show wpAny _ _ (Builtin.Dict.updateFrom "dict.__init__" s.heap.objs.size (.ref l) [] .none) _ _ _
  unfold Builtin.Dict.updateFrom
  refine wpAny_bind (wpAny_typeOf (T := "list") ⟨_, hl0, rfl⟩ ?_)
  rw [if_pos (by decide)]
  refine wpAny_bind (getAttrQ_list hl0 rfl rfl rfl hh fun h1 tk1 hk1 => ?_)
  rw [if_pos (show (none : Option Value).isNone = true from rfl)]
  refine wpAny_bind (wpAny_rule ?_)
  have hl1 : h1.IsList l vs.toArray := ⟨_, hk1 _ _ hl0, rfl, n, rfl⟩
  have hlt1 : l < h1.objs.size := Heap.lt_size (hk1 _ _ hl0)
  have hszD : s.heap.objs.size < h1.objs.size := by
    have h9 : (s.heap.push { cls := .type "dict", data := .dict #[] }).get? s.heap.objs.size = some { cls := .type "dict", data := .dict #[] } := Heap.get?_push_size _ rfl
    exact Heap.lt_size (hk1 _ _ h9)
  refine wpAny_bind (wpAny_pyIter_list hl1 ?_)
  have W := Walks.list (prog := prog) (w := w) (A := A.in1.in1) hh h1.objs.size l (Nat.ne_of_lt hlt1) vs.toArray
  refine wpAny_pure ⟨plainId_quiet plain_upd_loop _, ?_⟩
  have hkk : ∀ (b : Addr) (o : Obj), s.heap.get? b = some o → (h1.push { cls := .type "list_iterator", data := .fields #[.ref l, .int 0 0] }).get? b = some o := fun b o e => Heap.get?_push_of_some _ (hk1 _ _ (Heap.get?_push_of_some _ e))
  refine upd_loop (hb := s.heap) (knd := knd) (ps := ps) W (by rw [List.size_toArray, hl]) (by rw [List.size_toArray, hl]; exact hz) (Nat.ne_of_lt hszD) (Nat.ne_of_gt (lt _ hm)) .none (fun i v hv => ?_) vs.toArray.size 0 _ rfl (Nat.zero_le _) ?_ ?_ (fun b o _ _ e => hkk b o e) ?_
  · obtain ⟨T, kv, k, x, nT, rfl, mT, hk, hps⟩ := hp i v (by simpa using hv)
    exact ⟨T, kv, k, x, nT, none, #[], rfl, Nat.ne_of_lt (Nat.lt_trans (lt _ mT) hszD), Nat.ne_of_lt (lt _ mT), (N _ mT).1, hk, hps⟩
  · exact ⟨⟨_, Heap.get?_push_size _ rfl, rfl, rfl⟩, hl1.at fun o e => Heap.get?_push_of_some _ e⟩
  · have hd1 : h1.DictOf knd s.heap.objs.size [] := hnew.extBut (b := h1.objs.size) (fun b o _ e => hk1 b o e) (Nat.ne_of_lt hszD)
    exact hd1.push _
  · intro h' tk hd' hk'
    rw [merged_nil_of_nodup ps nd] at hd'
    have hkeep : ∀ b o, s.heap.get? b = some o → h'.get? b = some o := fun b o e => hk' b o (Nat.ne_of_lt (Nat.lt_trans (Heap.lt_size e) hszD)) (Nat.ne_of_lt (Heap.lt_size e)) e
    obtain ⟨o', ho', hdo⟩ := Heap.dictOf_iff.mp hd'
    have N1 := News.push F N { cls := .type "dict", data := .dict #[] }
    refine ⟨rfl, h _ h' tk o' (F.keeps hkeep) (fun q hq => ?_) lt (F.notModules (modules_low hbig)) hdo⟩
    rcases List.mem_cons.mp hq with rfl | hq
    · exact ⟨ho', (N1 _ (.head _)).2⟩
    · exact ⟨hkeep _ _ (N q hq).1, (N q hq).2⟩
end
end
section -- V2
section
open PySem.Calls
variable {prog : Program} {w : World} {A : Around} {E : Value → Shared → Prop} {s : Shared} {K : Frag} {x C L : Addr} {h₀ : Heap} {m : Str → Option Value} {news : Led} {ox : Obj} {od : Option Obj} {name : Str} {expr : Bool} {Q : Value → Shared → Prop}
theorem get_exc {v : Value} (X : K.In s.heap) (I : InstAt s.heap x ox C od) (hga : findIn K (.ref C) "__getattribute__" = some (some (.builtin "BaseException.__getattribute__"))) (hgt : findIn K (.ref C) "__getattr__" = some none) (hos : osIn K C = true)
    (hf : findObj K C od name = some (.value v)) (hh : handedIn v = true) (h : Q v { s with toks := s.toks + 1 }) : wpAny (model prog w) A (getAttr (.ref x) name expr) Q E s := by
  obtain ⟨hp, g, d, t, os⟩ := s
  have L0 := I.type (M := model prog w)
  have L1 := looks_findIn (M := model prog w) X hga
  have L2 := looks_findIn (M := model prog w) X hgt
  have L3 := looks_find (M := model prog w) X I hf
  have Y := osMakes_of (M := model prog w) X hos
  have sub : Looks (model prog w) hp (isInstance (.ref x) (.type "BaseException")) true := L0.andThen Y.exc
  have hx2 : (Value.builtin "BaseException.__getattribute__" == Value.builtin "object.__getattribute__") = false := by decide +kernel
  have hbind := PySem.F.attr_Exception.ga.bind (.ref x)
  unfold getAttr getAttrBy
  refine wpAny_bind (wpAny_mkText (wpAny_holding (wpAny_bind (L0.at (wpAny_bind (L1.at ?_))))))
  dsimp only
  rw [if_neg (by rw [hx2, Bool.and_false]; decide)]
  unfold getAttrByItsOwn
  refine wpAny_bind ?_
  show wpAny _ _ (typeLookup (.ref C) "__getattr__") _ _ _
  refine L2.at ?_
  refine wpAny_bind (wpAny_attempt (wpAny_holding ?_))
  show wpAny _ _ (callGetattribute _ _ _ _) _ _ _
  unfold callGetattribute
  rw [if_neg (by cases expr <;> decide)]
  unfold boundAndCalled
  rw [hbind]
  refine wpAny_bind (wpAny_pure ?_)
  refine wpAny_call (codeAny_call_builtin PySem.F.attr_Exception.ga.plain PySem.F.entry_bexc_ga (@check_slot (model prog w) _ _ _ "BaseException.__getattribute__" "BaseException" "__getattribute__" (.ref x) [.str name t] [] _ (by decide +kernel) (by decide +kernel) sub (PySem.F.args_bexc_ga (.ref x) (.str name t)) ?_))
  unfold Builtin.«object.__getattribute__»
  refine wpAny_bind (wpAny_pure (wpAny_bind (wpAny_pure (wpAny_bind (L0.at (wpAny_bind (L3.at ?_)))))))
  refine wpAny_pure ?_
  show wpAny _ _ (handedOut v) _ _ _
  rw [handedOut_of hh]
  exact wpAny_pure h
theorem getX {v : Value} {D : Addr} {es : List DictEntry} {n : Nat} {vs : Array Value} {sl : Array (Option Value)} {attr : Option Value} (F : Fr h₀ L s.heap m) (X₀ : K.In h₀) (N : News h₀ L s.heap news) (hm : (x, (⟨.ref C, some D, .fields vs, sl⟩ : Obj)) ∈ news) (hD : (D, dictOf es n) ∈ news)
    (hga : findIn K (.ref C) "__getattribute__" = some (some (.builtin "BaseException.__getattribute__"))) (hgt : findIn K (.ref C) "__getattr__" = some none) (hos : osIn K C = true) (hd : hasDictIn K C = true) (ha : findIn K (.ref C) name = some attr) (hn : noGet K attr = true)
    (hl : getL name es = some (some v)) (hh : handedIn v = true) (h : Q v { s with toks := s.toks + 1 }) : wpAny (model prog w) A (getAttr (.ref x) name expr) Q E s :=
  get_exc (X₀.keeps F.keep) (⟨(N _ hm).1, rfl, rfl, (N _ hD).1⟩ : InstAt s.heap x ⟨.ref C, some D, .fields vs, sl⟩ C (some (dictOf es n))) hga hgt hos (findObj_own hd ha hn hl) hh h
end
section
open PySem.Calls
variable {prog : Program} {w : World} {A : Around} {E : Value → Shared → Prop} {s : Shared} {K : Frag} {x C D L : Addr} {h₀ : Heap} {m : Str → Option Value} {news : Led} {ox : Obj} {od : Obj}
theorem exc_class {Q : Option Value → Shared → Prop} (X : K.In s.heap) (I : InstAt s.heap x ox D (some od)) (hga : findIn K (.ref D) "__getattribute__" = some (some (.builtin "BaseException.__getattribute__"))) (hgt : findIn K (.ref D) "__getattr__" = some none) (hos : osIn K D = true)
    (hdct : hasDictIn K D = true) (ha : findIn K (.ref D) "__class__" = some (some (.builtin "object.__class__")))
    (hn : specialIn K (.builtin "object.__class__") "__get__" = some (some (.builtin "getset_descriptor.__get__"))) (htk : takesIn K (.builtin "object.__class__") = some true) (hm : mroIn K D (.type "object") = some true)
    (h : Q (some (.ref D)) { s with toks := s.toks + 1 }) : wpAny (model prog w) A (getAttr? (.ref x) "__class__") Q E s := by
  have hf : findObj K D (some od) "__class__" = some (.bind (.builtin "getset_descriptor.__get__") (.builtin "object.__class__")) := findObj_data (by obtain ⟨cd, hc, _⟩ := any_some hdct; rw [hc]; rfl) ha hn htk
  obtain ⟨hp, g, d, t, os⟩ := s
  have L0 := I.type (M := model prog w)
  have L1 := looks_findIn (M := model prog w) X hga
  have L2 := looks_findIn (M := model prog w) X hgt
  have L3 := looks_find (M := model prog w) X I hf
  have Y := osMakes_of (M := model prog w) X hos
  have sub : Looks (model prog w) hp (isInstance (.ref x) (.type "BaseException")) true := L0.andThen Y.exc
  have hx2 : (Value.builtin "BaseException.__getattribute__" == Value.builtin "object.__getattribute__") = false := by decide +kernel
  have hbind := PySem.F.attr_Exception.ga.bind (.ref x)
  unfold getAttr? getAttrBy? getAttrBy
  refine wpAny_bind (wpAny_mkText (wpAny_bind (wpAny_attempt (wpAny_holding (wpAny_bind (L0.at (wpAny_bind (L1.at ?_))))))))
  dsimp only
  rw [if_neg (by rw [hx2, Bool.and_false]; decide)]
  unfold getAttrByItsOwn
  refine wpAny_bind ?_
  show wpAny _ _ (typeLookup (.ref D) "__getattr__") _ _ _
  refine L2.at ?_
  refine wpAny_bind (wpAny_attempt (wpAny_holding ?_))
  show wpAny _ _ (callGetattribute _ _ _ _) _ _ _
  unfold callGetattribute
  rw [if_neg (by decide)]
  unfold boundAndCalled
  rw [hbind]
  refine wpAny_bind (wpAny_pure ?_)
  refine wpAny_call (codeAny_call_builtin PySem.F.attr_Exception.ga.plain PySem.F.entry_bexc_ga (@check_slot (model prog w) _ _ _ "BaseException.__getattribute__" "BaseException" "__getattribute__" (.ref x) [.str "__class__" t] [] _ (by decide +kernel) (by decide +kernel) sub (PySem.F.args_bexc_ga (.ref x) (.str "__class__" t)) ?_))
  unfold Builtin.«object.__getattribute__»
  refine wpAny_bind (wpAny_pure (wpAny_bind (wpAny_pure (wpAny_bind (L0.at (wpAny_bind (L3.at ?_)))))))
  show wpAny _ _ (holding [_] (call (.builtin "getset_descriptor.__get__") [.builtin "object.__class__", .ref x, .ref D]) >>= ret) _ _ _
  refine wpAny_bind (wpAny_holding (wpAny_call (class_get (s := ⟨hp, g, d, t + 1, os⟩) (ox := ox) (od := some od) X I hm ?_)))
  refine wpAny_pure ?_
  show wpAny _ _ (handedOut (.ref D)) _ _ _
  exact handed_on rfl (wpAny_pure h)
theorem u82 : Up 82 := by
  refine u81.step rfl ?_
  k_extra "st"
  iterate 14 k_extra "g"
  intro Q tk dep c od ox D x K s E A w prog X I hga hgt hos hdct ha hn htk hm hty his hne hsub h
  obtain ⟨cdD, hcD, _⟩ := any_some hdct
  have hisD : Looks (model prog w) s.heap (isType (.ref D)) true := by
    unfold clsIn at hcD
    split at hcD
    · rename_i c' d' cd' sl' ho
      intro A' Q' E' s' k q
      unfold isType loadHead
      exact wpAny_bind (wpAny_loadPart (k _ _ (X _ _ ho)) (wpAny_pure q))
    · cases hcD
  obtain ⟨h0, g, d, tt, os⟩ := s
  have L0 := I.type (M := model prog w)
  have LI : Looks (model prog w) h0 (isInstance (.ref x) c) false := L0.andThen hsub
  unfold Builtin.«isinstance.nested»
  refine wpAny_bind (L0.at ?_)
  rw [if_neg (fun q => by rw [hne] at q; exact Bool.noConfusion q)]
  refine wpAny_bind (hty.at ?_)
  rw [if_pos (by decide)]
  k_delta "plainIsInstance"
  refine wpAny_bind (wpAny_bind (his.at ?_))
  simp only [Bool.not_true, Bool.false_eq_true, if_false]
  refine wpAny_bind (LI.at ?_)
  simp only [Bool.false_eq_true, if_false]
  refine wpAny_bind (exc_class X I hga hgt hos hdct ha hn htk hm ?_)
  refine wpAny_bind (hisD.at ?_)
  simp only [Bool.not_true, Bool.false_eq_true, if_false]
  refine wpAny_bind (wpAny_rule ?_)
  refine hsub.at ?_
  first
    | exact wpAny_pure h
    | exact wpAny_pure (wpAny_pure h)
    | exact wpAny_bind (wpAny_pure (wpAny_pure h))
theorem exc_nested : ∀ {prog w A E s K x D ox od c a b Q}, @T82 prog w A E s K x D ox od c a b Q := no_implicit_lambda% (u82.get rfl)
theorem exc_isnt {Q : Value → Shared → Prop} {E1 : Addr} {es : List DictEntry} {n : Nat} {vs : Array Value} {sl : Array (Option Value)} (F : Fr h₀ L s.heap m) (X₀ : K.In h₀) (N : News h₀ L s.heap news) (hx : (x, (⟨.ref D, some E1, .fields vs, sl⟩ : Obj)) ∈ news) (hE : (E1, dictOf es n) ∈ news) (e : kin_not K D C = true) (hga : findIn K (.ref D) "__getattribute__" = some (some (.builtin "BaseException.__getattribute__"))) (hgt : findIn K (.ref D) "__getattr__" = some none) (hos : osIn K D = true)
    (hdct : hasDictIn K D = true) (ha : findIn K (.ref D) "__class__" = some (some (.builtin "object.__class__")))
    (hn : specialIn K (.builtin "object.__class__") "__get__" = some (some (.builtin "getset_descriptor.__get__"))) (htk : takesIn K (.builtin "object.__class__") = some true) (hm : mroIn K D (.type "object") = some true)
    (h : Q (.bool false) { s with toks := s.toks + 1 }) : wpAny (model prog w) A (call (.builtin "isinstance") [.ref x, .ref C]) Q E s := by
  unfold kin_not at e
  rw [Bool.and_eq_true, Bool.and_eq_true, Bool.and_eq_true] at e
  obtain ⟨⟨⟨e0, e1⟩, e2⟩, e3⟩ := e
  refine call_isinstance (S := fun _ R s => (K.In s.heap ∧ InstAt s.heap x ⟨.ref D, some E1, .fields vs, sl⟩ D (some (dictOf es n))) ∧ R (.ok (.ret (.bool false))) { s with toks := s.toks + 1 })
    (fun _ _ _ _ _ hs => isinstance_outer (exc_nested hs.1.1 hs.1.2 hga hgt hos hdct ha hn htk hm (looks_typeIn hs.1.1 (beq_iff_eq.mp e2)) ?_ ?_ (looks_subIn hs.1.1 (beq_iff_eq.mp e3)) hs.2) (by intro q; cases q)) ⟨⟨X₀.keeps F.keep, ⟨(N _ hx).1, rfl, rfl, (N _ hE).1⟩⟩, h⟩
  · unfold clsIn at e1
    split at e1
    · rename_i c' d' cd' sl' ho
      intro A' Q' E' s' k q
      unfold isType loadHead
      exact wpAny_bind (wpAny_loadPart (k _ _ (hs.1.1 _ _ ho)) (wpAny_pure q))
    · cases e1
  · exact Bool.eq_false_iff.mpr fun q => of_decide_eq_true e0 (Value.ref.inj (beq_iff_eq.mp q))
theorem exc_is {Q : Value → Shared → Prop} {E1 : Addr} {od : Obj} {vs : Array Value} {sl : Array (Option Value)} (F : Fr h₀ L s.heap m) (X₀ : K.In h₀) (N : News h₀ L s.heap news) (hx : (x, (⟨.ref D, some E1, .fields vs, sl⟩ : Obj)) ∈ news) (hE : (E1, od) ∈ news) (e : isIn K (.ref D) C = true) (h : Q (.bool true) s) :
    wpAny (model prog w) A (call (.builtin "isinstance") [.ref x, .ref C]) Q E s :=
  isi_call (X₀.keeps F.keep) (fun M => (⟨(N _ hx).1, rfl, rfl, (N _ hE).1⟩ : InstAt s.heap x ⟨.ref D, some E1, .fields vs, sl⟩ D (some od)).type) e (by intro q; cases q) h
end
end
section
theorem kw_l_sym79 : True := by
  k_with "call builtin:len" => ((fail_if_success k_extra "o79"); ((k_here; (with_reducible show wpAny _ _ (call (Value.builtin "len") [Value.ref _]) _ _ _); k_dflt (refine' len_ints ?Nqbb ?pqbb ?iqbb ?zqbb ?_; (case Nqbb => k_asm); (case pqbb => k_mem); (case iqbb => assumption); (case zqbb => omega); k_whole))))
  k_with "subscriptTail" => ((fail_if_success k_extra "o79"); ((k_here; (with_reducible show wpAny _ _ (subscriptTail _ _ (Value.ref _) (Value.int _ _)) _ _ _); k_dflt (refine' sym_item ?Nqcb ?pqcb ?iqcb ?zqcb ?xqcb ?_; (case Nqcb => k_asm); (case pqcb => k_mem); (case iqcb => assumption); (case zqcb => omega); (case xqcb => assumption); intro _))))
  k_with "compareOp In int ref" => ((fail_if_success k_extra "o79"); ((k_here; k_dflt (refine' sym_in ?Nqdb ?pqdb ?iqdb ?_; (case Nqdb => k_asm); (case pqdb => k_mem); (case iqdb => assumption); intro _ _; (try dsimp only)))))
  k_with "subscriptTail Name Slice ref ref" => ((fail_if_success k_extra "o79"); (((k_here; (with_reducible refine' kmk_slice_ints ?Fqeb ?Nqeb ?lqeb ?pqeb ?qqeb ?iqeb ?mqeb ?cqeb ?_ ?sqeb ?tqeb ?zqeb); k_dflt ((case Fqeb | Nqeb => k_asm); (case lqeb => kmk_list); (case iqeb => assumption); (case pqeb => kmk_part); (case qqeb => kmk_part); (case mqeb => first | exact kmk_from (by assumption) (by omega) | exact kmk_upto (by assumption) (by omega) | exact kmk_run (by assumption) (by omega) (by omega) | kmk_nums); (case cqeb => kmk_len); (case sqeb => with_unfolding_all rfl); (case tqeb => kmk_pure); (case zqeb => first | (rw [List.size_toArray, sizeLine_eq]; omega) | kmk_size)); intro _ _ _ _ _ l1 _ _ _; (try k_lt l1); (try k_sweep)); (try (revert l1; intro _)))))
  k_with "call builtin:list.index" => ((fail_if_success k_extra "o79"); ((k_here; (with_reducible show wpAny _ _ (call (Value.builtin _) [Value.ref _, Value.int _ _]) _ _ _); k_dflt (refine' sym_index ?Nqfb ?mqfb ?iqfb ?zqfb ?eqfb ?_; (case Nqfb => k_asm); (case mqfb => k_mem); (case iqfb | eqfb => assumption); (case zqfb => (simp only [List.length_drop]; omega))))))
  trivial
section
theorem kw_l_cj80 : True := by
  k_with "eval ListComp" => ((fail_if_success k_extra "o80"); ((k_here; k_dflt (refine ListComp_JF (by k_asm) (by with_unfolding_all rfl) (by decide) (by rfl) (by decide) ?_))))
  k_with "exec Assign cons ListComp" => ((fail_if_success k_extra "o80"); ((k_here; k_dflt (refine Assign_ListComp_JF (by k_asm) (by rfl) (by with_unfolding_all rfl) (by with_unfolding_all rfl) (by decide) (by rfl) (by decide) (by rfl) (by rfl) ?_))))
  k_with "pyIter ref" => ((fail_if_success k_extra "o80"); ((k_here; (with_reducible show wpAny _ _ _ (SrcJ _ _ _ _ _ _ _ _ _ _ _) _ _); refine Stop.at ?_)))
  k_with "FinE" => ((fail_if_success k_extra "o80"); ((unfold LCg.FinE); kp_flats))
  k_with "FinA" => ((fail_if_success k_extra "o80"); ((unfold LCg.FinA); kp_flats))
  k_with "eval Name" => ((fail_if_success k_extra "o80"); ((k_here; (with_reducible show wpAny _ _ (eval (Expr.Name _ _) (compEnvC _ _ _ _)) _ _ _); k_dflt (first | (refine LCgL.ld_own (by k_asm) (by k_mem) (by assumption) (by assumption) ?_) | (refine' lcf_cell ?Nqgb ?cqgb ?mqgb ?dqgb ?_ ?aqgb ?bqgb; (case aqgb | bqgb => rfl); (case Nqgb => k_asm); (case cqgb => rfl); (case mqgb => k_mem); (case dqgb => k_asm); k_whole)))))
  trivial
section -- U10
theorem kw_U10 : True := by
  k_with "call type:dict" => ((fail_if_success k_extra "o81"); ((k_here; (with_reducible show wpAny _ _ (call (Value.type "dict") [Value.ref _]) _ _ _); refine Stop.at ?_)))
  trivial
theorem EntE.mono {w : World} {led led' : Led} {x : Value} (h : EntE w led x) (hs : ∀ q ∈ led, q ∈ led') : EntE w led' x := by
  obtain ⟨e, c, o, n, t1, t2, t3, t4, rfl, h1, h2, h3, h4⟩ := h
  exact ⟨e, c, o, n, t1, t2, t3, t4, rfl, hs _ h1, hs _ h2, h3, h4⟩
theorem BookL.app {w : World} {led led' : Led} {ys : List Value} {ps : List (Int × Value)} {n : Nat} {T : Addr} {t : Tok} {nT : Nat} {x : Value} (h : BookL w led ys ps n) (hs : ∀ q ∈ led, q ∈ led') (hx : EntE w led' x) (hT : (T, ({ cls := .type "tuple", data := .seq #[.int (n : Int) t, x] nT } : Obj)) ∈ led') : BookL w led' (ys ++ [.ref T]) (ps ++ [((n : Int), x)]) (n + 1) := by
  have lp : ps.length = n := by have := congrArg List.length h.keys; simpa using this
  refine ⟨by rw [List.length_append, h.len]; rfl, by rw [List.map_append, h.keys, List.range_succ, List.map_append]; rfl, fun p hp => ?_, fun j v hv => ?_⟩
  · rcases List.mem_append.mp hp with hp | hp
    · exact (h.ent p hp).mono hs
    · rw [List.mem_singleton.mp hp]; exact hx
  · by_cases hj : j < n
    · rw [List.getElem?_append_left (by rw [h.len]; exact hj)] at hv
      obtain ⟨T', t', nT', x', e1, e2, e3⟩ := h.tup j v hv
      exact ⟨T', t', nT', x', e1, by rw [List.getElem?_append_left (by rw [lp]; exact hj)]; exact e2, hs _ e3⟩
    · have hjl : j < (ys ++ [Value.ref T]).length := (List.getElem?_eq_some_iff.mp hv).1
      rw [List.length_append, h.len, List.length_singleton] at hjl
      obtain rfl : j = n := by omega
      rw [List.getElem?_append_right (by rw [h.len]; exact Nat.le_refl _), h.len, Nat.sub_self] at hv
      obtain rfl : Value.ref T = v := by simpa using hv
      exact ⟨T, t, nT, x, rfl, by rw [List.getElem?_append_right (by rw [lp]; exact Nat.le_refl _), lp, Nat.sub_self]; rfl, hT⟩
theorem BookL.six {w : World} {led : Led} {ys : List Value} {ps : List (Int × Value)} (h : BookL w led ys ps 6) : ps.length = 6 ∧ (ps.map (·.1)).Nodup ∧ ∀ k : Int, 0 ≤ k → k < 6 → ∃ x, valueAt ps k = some x ∧ EntE w led x := by
  have lp : ps.length = 6 := by have := congrArg List.length h.keys; simpa using this
  have nd : (ps.map (·.1)).Nodup := by rw [h.keys]; decide
  refine ⟨lp, nd, fun k h0 h6 => ?_⟩
  have e : (ps.map (·.1))[k.toNat]? = some k := by
    rw [h.keys, List.getElem?_map, List.getElem?_range (by omega)]
    exact congrArg some (Int.toNat_of_nonneg h0)
  rw [List.getElem?_map] at e
  obtain ⟨⟨k', x⟩, hp, hk⟩ := Option.map_eq_some_iff.mp e
  obtain rfl : k' = k := hk
  exact ⟨x, valueAt_of_get nd hp, h.ent _ (List.mem_of_getElem? hp)⟩
theorem keep3 {x y z c d : Addr × Obj} {nw tl : Led} : ∀ q ∈ c :: d :: (x :: y :: z :: nw ++ tl), q ∈ x :: y :: z :: c :: d :: (nw ++ tl) := by
  intro q hq
  simp only [List.mem_cons, List.mem_append, List.cons_append] at hq ⊢
  rcases hq with h | h | h | h | h | h | h <;> simp only [h, true_or, or_true]
theorem keepA {x y z u : Addr × Obj} {nw : Led} : ∀ q ∈ y :: z :: nw, q ∈ x :: y :: z :: u :: nw := by
  intro q hq
  simp only [List.mem_cons] at hq ⊢
  rcases hq with h | h | h <;> simp only [h, true_or, or_true]
theorem OffCD.push3 {C D T1 E1 d : Addr} {a b o : Obj} {wr : List Addr} {nw tl : Led} (h : OffCD C D wr nw) (hlv : ∀ b ∈ wr, ∃ o, (b, o) ∈ tl) (c1 : @LT.lt Nat _ C d) (c2 : @LT.lt Nat _ D d) (l : AllLt d (nw ++ tl)) (e1 : @LT.lt Nat _ d E1) (e2 : @LT.lt Nat _ E1 T1) : OffCD C D wr ((T1, a) :: (E1, b) :: (d, o) :: nw) := by
  have hw : ∀ x : Addr, @LE.le Nat _ d x → x ∉ wr := fun x hx hb => by
    obtain ⟨o, ho⟩ := hlv _ hb
    have := allLt_mem l _ (List.mem_append_right _ ho)
    exact absurd (Nat.lt_of_lt_of_le this hx) (Nat.lt_irrefl _)
  intro q hq
  rcases List.mem_cons.mp hq with rfl | hq
  · exact ⟨Nat.ne_of_gt (by omega), Nat.ne_of_gt (by omega), hw _ (by omega)⟩
  rcases List.mem_cons.mp hq with rfl | hq
  · exact ⟨Nat.ne_of_gt (by omega), Nat.ne_of_gt (by omega), hw _ (by omega)⟩
  rcases List.mem_cons.mp hq with rfl | hq
  · exact ⟨Nat.ne_of_gt c1, Nat.ne_of_gt c2, hw _ (Nat.le_refl _)⟩
  · exact h q hq
theorem noCell_dict {w : World} {o : Obj} {kvs : List (Str × Value)} (h : o.IsDictOf (strKind PG w) kvs) : NoCell o := by
  obtain ⟨es, ep, hx, hdat, _⟩ := h
  intro v e
  rw [hdat] at e
  cases e
section

set_option maxRecDepth 100000 in
theorem u83 : Up 83 := by
  refine u82.step rfl ?_
  k_extra "st"
  iterate 19 k_extra "g"
  intro tp p
  k_extra "i0"
  intro B F X N T vp hdp hun ret
  refine cut_exec (l' := Stmt.Assign [_] _ _) (env' := envOfC (Str.ofString "_law_run") ⟨_, _, _, _, _⟩ L 250 (.ref 249)) rfl rfl ?_
  k_steps
  refine Stop.go ?_
  rename_i hrg hF hN hz
  refine src_range (by rfl) hF hN hrg (by decide) (n := 6) (by decide) fun I St g S => ?_
  refine srcj_one1 (by rfl) (by rfl) (S _ _) (fun i v => ∃ t, v = .int (0 + (i : Int)) t) (fun i v _ h => h) (fun i ys nw => All4 (i ≤ 6) (∀ q ∈ news, q ∈ nw) (∀ q ∈ nw, q ∈ news ∨ NoCell q.2) (∃ ps, BookL w nw ys ps i)) ⟨by decide, fun q h => h, fun q h => .inl h, [], rfl, rfl, fun p hp => absurd hp List.not_mem_nil, fun j v hv => by simp at hv⟩ ?_ ?_ ?_
  · rintro i ys nw ⟨i6, _, _, ps, h⟩
    rw [sizeLine_eq, h.len]
    omega
  · rintro i v C D h₁ tk₁ ys mC oC nw tl E' hi6 ⟨t, rfl⟩ ⟨_, hsub, hnc, ps, hb⟩ hxv hC ho hCD F₁ N₁ htl hlv9
    rw [Int.zero_add] at hxv
    generalize hrt : nw ++ tl = rt
    rw [hrt] at N₁
    dsimp only
    k_steps
    subst hrt
    have N9 := ‹News h₀ L _ ((_, _) :: (_, _) :: (_, _) :: (C, _) :: _)›
    have hs9 := ‹Obj.IsDictOf (strKind PG w) _ []›
    refine ⟨_, _, _, _, _, rfl, by k_asm, hC, news_sub N9 keep3, OffCD.push3 ho hlv9.1 (by assumption) (by assumption) (by assumption) (by assumption) (by assumption), hi6, fun q hq => List.mem_cons_of_mem _ (List.mem_cons_of_mem _ (List.mem_cons_of_mem _ (hsub q hq))), fun q hq => ?_, _, hb.app (fun q hq => List.mem_cons_of_mem _ (List.mem_cons_of_mem _ (List.mem_cons_of_mem _ hq))) ⟨_, _, _, _, _, _, _, _, rfl, List.mem_cons_of_mem _ List.mem_cons_self, List.mem_cons_of_mem _ (List.mem_cons_of_mem _ List.mem_cons_self), hs9, by assumption⟩ List.mem_cons_self⟩
    rcases List.mem_cons.mp hq with rfl | hq
    · exact .inr noCell_seq
    rcases List.mem_cons.mp hq with rfl | hq
    · exact .inr noCell_seq
    rcases List.mem_cons.mp hq with rfl | hq
    · exact .inr (noCell_dict hs9)
    · exact hnc q hq
  · rintro ys nw ⟨_, hsub, hnc, ps, hb⟩
    k_steps
    refine Stop.go ?_
    obtain ⟨l6, nd, hval⟩ := hb.six
    refine dict_pairs (knd := intKind PG w) (ps := ps) (by rfl) (by k_asm) (by k_asm) (Top.nolimit (by k_asm)) List.mem_cons_self (fun i v hv => ?_) (hb.len.trans l6.symm) nd (by rw [l6]; decide) fun d h' tk o F' N' lt lo hd => ?_
    · obtain ⟨T1, t, nT, x, rfl, h1, h2⟩ := hb.tup i v hv
      exact ⟨T1, _, _, x, nT, rfl, List.mem_cons_of_mem _ h2, intKind_is _ _ _ _, h1⟩
    · have lt' : ∀ q ∈ nw, q.1 < d := fun q hq => lt q (List.mem_cons_of_mem _ hq)
      k_steps
      exact ret _ _ _ _ _ _ _ 0 _ (by k_asm) (news_sub (by k_asm) keepA) hsub hnc lt' (by assumption) lo hd l6 hval
theorem run_7 : ∀ {w a b c d e f L outer g base h₀ m s E news Q p h}, @T83 w a b c d e f L outer g base h₀ m s E news Q p h := no_implicit_lambda% (u83.get rfl)
end
end
section -- V4
theorem nc_in {l : Led} {a : Addr} {o : Obj} (h : (a, o) ∈ l) (hn : isC o = false) : (a, o) ∈ nc l := List.mem_filter.mpr ⟨h, by simp [hn]⟩
theorem nc_sub {l : Led} : ∀ q ∈ nc l, q ∈ l := fun q hq => (List.mem_filter.mp hq).1
theorem nc_is {l : Led} {q : Addr × Obj} (h : q ∈ nc l) : isC q.2 = false := by simpa using (List.mem_filter.mp h).2
theorem nc_up {l l' : Led} (h : ∀ q ∈ nc l, q ∈ l') : ∀ q ∈ nc l, q ∈ nc l' := fun q hq => List.mem_filter.mpr ⟨h q hq, by simp [nc_is hq]⟩
theorem isC_cell {o : Obj} {v : Option Value} (d : o.data = .cell v) : isC o = true := by unfold isC; rw [d]; rfl
theorem isC_dict {w : World} {o : Obj} {kvs : List (Str × Value)} (h : o.IsDictOf (strKind PG w) kvs) : isC o = false := by
  have hc := IsDictOf_cls h
  obtain ⟨es, ep, hx, hdat, _⟩ := h
  unfold isC
  rw [hdat, hc]
  show (false || ("dict" == "list_iterator")) = false
  decide
theorem ne_isC {h₀ h : Heap} {L a c : Addr} {led : Led} {o oc : Obj} (N : News h₀ L h led) (h1 : (a, o) ∈ led) (h2 : (c, oc) ∈ led) (hn : isC o = false) (hc : isC oc = true) : a ≠ c := by
  rintro rfl
  have e1 := (N _ h1).1
  have e2 := (N _ h2).1
  have e : o = oc := Option.some.inj (e1.symm.trans e2)
  rw [e, hc] at hn
  cases hn
theorem nc_wo {h₀ h : Heap} {L c : Addr} {led : Led} {oc : Obj} (N : News h₀ L h led) (hc : (c, oc) ∈ led) (d : isC oc = true) : ∀ q ∈ nc led, q ∈ wo c led := fun q hq =>
  wo_in (nc_sub q hq) (ne_isC N (nc_sub q hq) hc (nc_is hq) d)
theorem OctsAre.nc {led : Led} {vs : List Value} {xs : List Int} (h : OctsAre led vs xs) : OctsAre (nc led) vs xs := by
  induction h with
  | nil => exact .nil
  | cons hm hi hr ih => exact .cons (nc_in hm (by rfl)) hi ih
theorem TupsAre.nc {led : Led} {vs : List Value} {xs : List (List Int)} (h : TupsAre led vs xs) : TupsAre (nc led) vs xs := by
  induction h with
  | nil => exact .nil
  | cons hm hi hr ih => exact .cons (nc_in hm (by rfl)) hi ih
theorem KeysAre.nc {led : Led} {vs : List Value} {ks : List (Int × Int)} (h : KeysAre led vs ks) : KeysAre (nc led) vs ks := by
  induction h with
  | nil => exact .nil
  | cons hm hi hr ih => exact .cons (nc_in hm (by rfl)) hi ih
theorem Jd.nc {keep : Led} {ak aj : Addr} {ks : List (Int × Int)} (J : Jd keep ak aj ks) : Jd (nc keep) ak aj ks := by
  obtain ⟨⟨vk, nk, mk, hk⟩, k3, ⟨vj, nj, mj, hj⟩⟩ := J
  refine ⟨⟨vk, nk, nc_in mk (by rfl), hk.nc⟩, k3, ⟨vj, nj, nc_in mj (by rfl), fun i hi => ?_⟩⟩
  obtain ⟨j, Dj, al, hsh, tkc, vs, nl, a, b, c, d, e⟩ := hj i hi
  exact ⟨j, Dj, al, hsh, tkc, vs, nl, a, nc_in b (by rfl), nc_in c (by rfl), nc_in d (by rfl), e.nc⟩
theorem EntE.nc {w : World} {led : Led} {x : Value} (h : EntE w led x) : EntE w (nc led) x := by
  obtain ⟨e, c, o, n, t1, t2, t3, t4, rfl, h1, h2, h3, h4⟩ := h
  exact ⟨e, c, o, n, t1, t2, t3, t4, rfl, nc_in h1 (by rfl), nc_in h2 (isC_dict h3), h3, h4⟩
theorem isC_seq_list {xs : Array Value} {n : Nat} : isC (W.listOf xs n) = false := by rfl
theorem isC_lit {ax : Addr} {i : Nat} : isC (litObj ax i) = true := by rfl
theorem isC_cls {o : Obj} (hc : o.cls = .type "dict") (hd : ∃ es ep, o.data = .dict es ep) : isC o = false := by
  obtain ⟨es, ep, hd⟩ := hd
  unfold isC
  rw [hd, hc]
  show (false || ("dict" == "list_iterator")) = false
  decide
theorem isC_idict {w : World} {o : Obj} {kvs : List (Int × Value)} (h : o.IsDictOf (intKind PG w) kvs) : isC o = false := by
  have hc := IsDictOf_cls h
  obtain ⟨es, ep, hx, hdat, _⟩ := h
  exact isC_cls hc ⟨es, ep, hdat⟩
theorem Wk.dropC {w : World} {D : Adr} {keep : Led} {wns : List Int} {p0 p1 : Int} {ts hs asked : List Int} {led : Led} {h₀ h : Heap} {L c : Addr} {oc : Obj} (W : Wk w D keep wns p0 p1 ts hs asked led) (N : News h₀ L h led) (hI : (c, oc) ∈ led) (hc : isC oc = true) : Wk w D [] wns p0 p1 ts hs asked (wo c led) := by
  have ne : ∀ a o, (a, o) ∈ led → isC o = false → (a, o) ∈ wo c led := fun a o hm hn => wo_in hm (ne_isC N hm hI hn hc)
  obtain ⟨kp, ⟨ow, ad, nd, td0, td1, mw, hw, mdots, od⟩, ⟨na, ta0, ta1, mat⟩, ⟨ob, bkv, mbk, hb, zb, hbk⟩, ⟨avs, nas, mas, za, ia⟩⟩ := W
  refine ⟨fun q hq => absurd hq List.not_mem_nil, ⟨ow, ad, nd, td0, td1, ne _ _ mw (isC_dict hw), hw, ne _ _ mdots (by rfl), od⟩, ⟨na, ta0, ta1, ne _ _ mat (by rfl)⟩, ⟨ob, bkv, ne _ _ mbk (isC_idict hb), hb, zb, fun k k0 k6 => ?_⟩, ⟨avs, nas, ne _ _ mas (by rfl), za, ia⟩⟩
  obtain ⟨ae, ac, oc', nn, tc1, tc2, tc3, tc4, ckv, cc, hval, mae, mac, hoc, hcc, hCC, lac, oae, oac⟩ := (hbk k k0 k6).ex
  exact ⟨ae, ac, oc', nn, tc1, tc2, tc3, tc4, ckv, cc, hval, ne _ _ mae (by rfl), ne _ _ mac (isC_dict hoc), hoc, hcc, hCC, lac, oae, oac⟩
theorem runB_eq : runB = [runB.getD 0 default, runB.getD 1 default, runB.getD 2 default, runB.getD 3 default, runB.getD 4 default, runB.getD 5 default, runB.getD 6 default, runB.getD 7 default, runB.getD 8 default, runB.getD 9 default, runB.getD 10 default, runB.getD 11 default, runB.getD 12 default, runB.getD 13 default, runB.getD 14 default, runB.getD 15 default, runB.getD 16 default, runB.getD 17 default] := by rfl
end
section -- V5
theorem cell_up {c : Addr} {led led' : Led} {v : Option Value} (h : ∃ o, (c, o) ∈ led ∧ o.data = .cell v) (hs : ∀ q ∈ led, q.1 = c → q ∈ led') : ∃ o, (c, o) ∈ led' ∧ o.data = .cell v :=
  let ⟨o, hm, d⟩ := h; ⟨o, hs _ hm rfl, d⟩
theorem S5.mono {L : Addr} {led led' : Led} {v1 v2 v3 v4 v5 : Option Value} (S : S5 L led v1 v2 v3 v4 v5) (h : ∀ q ∈ led, q ∈ led') : S5 L led' v1 v2 v3 v4 v5 :=
  ⟨cell_up S.c1 fun q hq _ => h q hq, cell_up S.c2 fun q hq _ => h q hq, cell_up S.c3 fun q hq _ => h q hq, cell_up S.c4 fun q hq _ => h q hq, cell_up S.c5 fun q hq _ => h q hq⟩
theorem ne_cell_lit {h₀ h : Heap} {L c it ax : Addr} {i : Nat} {led : Led} {oc : Obj} {v : Option Value} (N : News h₀ L h led) (h1 : (c, oc) ∈ led) (h2 : (it, litObj ax i) ∈ led) (d : oc.data = .cell v) : c ≠ it := fun e => by
  have z1 := (N _ h1).1
  have z2 := (N _ h2).1
  rw [e] at z1
  have this : oc = litObj ax i := Option.some.inj (z1.symm.trans z2)
  rw [this] at d
  cases d
theorem S5.lit {h₀ h : Heap} {L it ax : Addr} {i : Nat} {led : Led} {v1 v2 v3 v4 v5 : Option Value} (S : S5 L led v1 v2 v3 v4 v5) (N : News h₀ L h led) (h2 : (it, litObj ax i) ∈ led) : S5 L (wo it led) v1 v2 v3 v4 v5 := by
  have go : ∀ c v, (∃ o, (c, o) ∈ led ∧ o.data = .cell v) → ∃ o, (c, o) ∈ wo it led ∧ o.data = .cell v := fun c v ⟨o, hm, d⟩ => ⟨o, wo_in hm (ne_cell_lit N hm h2 d), d⟩
  exact ⟨go _ _ S.c1, go _ _ S.c2, go _ _ S.c3, go _ _ S.c4, go _ _ S.c5⟩
theorem S5.set1 {L : Addr} {led led' : Led} {o' : Obj} {v v1 v2 v3 v4 v5 : Option Value} (S : S5 L led v1 v2 v3 v4 v5) (hm : (L + 1, o') ∈ led') (d : o'.data = .cell v) (h : ∀ q ∈ wo (L + 1) led, q ∈ led') : S5 L led' v v2 v3 v4 v5 :=
  ⟨⟨o', hm, d⟩, cell_up S.c2 fun q hq e => h q (wo_in hq (by rw [e]; k_ne)), cell_up S.c3 fun q hq e => h q (wo_in hq (by rw [e]; k_ne)), cell_up S.c4 fun q hq e => h q (wo_in hq (by rw [e]; k_ne)), cell_up S.c5 fun q hq e => h q (wo_in hq (by rw [e]; k_ne))⟩
theorem S5.set2 {L : Addr} {led led' : Led} {o' : Obj} {v v1 v2 v3 v4 v5 : Option Value} (S : S5 L led v1 v2 v3 v4 v5) (hm : (L + 1 + 1, o') ∈ led') (d : o'.data = .cell v) (h : ∀ q ∈ wo (L + 1 + 1) led, q ∈ led') : S5 L led' v1 v v3 v4 v5 :=
  ⟨cell_up S.c1 fun q hq e => h q (wo_in hq (by rw [e]; k_ne)), ⟨o', hm, d⟩, cell_up S.c3 fun q hq e => h q (wo_in hq (by rw [e]; k_ne)), cell_up S.c4 fun q hq e => h q (wo_in hq (by rw [e]; k_ne)), cell_up S.c5 fun q hq e => h q (wo_in hq (by rw [e]; k_ne))⟩
theorem S5.set4 {L : Addr} {led led' : Led} {o' : Obj} {v v1 v2 v3 v4 v5 : Option Value} (S : S5 L led v1 v2 v3 v4 v5) (hm : (L + 1 + 1 + 1 + 1, o') ∈ led') (d : o'.data = .cell v) (h : ∀ q ∈ wo (L + 1 + 1 + 1 + 1) led, q ∈ led') : S5 L led' v1 v2 v3 v v5 :=
  ⟨cell_up S.c1 fun q hq e => h q (wo_in hq (by rw [e]; k_ne)), cell_up S.c2 fun q hq e => h q (wo_in hq (by rw [e]; k_ne)), cell_up S.c3 fun q hq e => h q (wo_in hq (by rw [e]; k_ne)), ⟨o', hm, d⟩, cell_up S.c5 fun q hq e => h q (wo_in hq (by rw [e]; k_ne))⟩
theorem S5.set5 {L : Addr} {led led' : Led} {o' : Obj} {v v1 v2 v3 v4 v5 : Option Value} (S : S5 L led v1 v2 v3 v4 v5) (hm : (L + 1 + 1 + 1 + 1 + 1, o') ∈ led') (d : o'.data = .cell v) (h : ∀ q ∈ wo (L + 1 + 1 + 1 + 1 + 1) led, q ∈ led') : S5 L led' v1 v2 v3 v4 v :=
  ⟨cell_up S.c1 fun q hq e => h q (wo_in hq (by rw [e]; k_ne)), cell_up S.c2 fun q hq e => h q (wo_in hq (by rw [e]; k_ne)), cell_up S.c3 fun q hq e => h q (wo_in hq (by rw [e]; k_ne)), cell_up S.c4 fun q hq e => h q (wo_in hq (by rw [e]; k_ne)), ⟨o', hm, d⟩⟩
theorem wo_mem {a : Addr} {l : Led} : ∀ q ∈ wo a l, q ∈ l := fun q hq => (List.mem_filter.mp hq).1
theorem keepD_sub {D : Adr} {l : Led} : ∀ q ∈ keepD D l, q ∈ l := fun q hq => wo_mem q (wo_mem q (wo_mem q (wo_mem q hq)))
theorem keepD_off {D : Adr} {l : Led} : ∀ q ∈ keepD D l, Off4 D q.1 := fun q hq =>
  ⟨wo_off _ _ q hq, wo_off _ _ q (wo_mem q hq), wo_off _ _ q (wo_mem q (wo_mem q hq)), wo_off _ _ q (wo_mem q (wo_mem q (wo_mem q hq)))⟩
theorem keepD_in {D : Adr} {l : Led} {q : Addr × Obj} (h : q ∈ l) (o : Off4 D q.1) : q ∈ keepD D l := wo_in (wo_in (wo_in (wo_in h o.s) o.b) o.t) o.w
theorem cx_of {D : Adr} {keep : Led} {tns wns : List Int} {atab aws arow ak ajl : Addr} {ks : List (Int × Int)} {vt vw vr : List Value} {nt nw nr : Nat} (ok : D.Ok) (lt : tns.length = 6) (lw : wns.length = 6) (off : ∀ q ∈ keep, Off4 D q.1)
    (mt : (atab, W.listOf vt.toArray nt) ∈ keep) (it : IntsAre vt tns) (mw : (aws, W.listOf vw.toArray nw) ∈ keep) (iw : IntsAre vw wns) (mr : (arow, W.listOf vr.toArray nr) ∈ keep) (hr : TupsAre keep vr ((List.range 6).map fun k : Nat => rowOf wns (k : Int)))
    (J : Jd keep ak ajl ks) (hk0 : ∀ k d, (k, d) ∈ ks → d ≠ 0) (hk2 : ∃ d, (2, d) ∈ ks) :
    ∃ aj vj nj, (ajl, W.listOf (List.toArray vj) nj) ∈ keep ∧ vj[(3 : Int).toNat]? = some (Value.ref aj) ∧ Cx D keep tns wns atab aws arow aj := by
  obtain ⟨_, k3, ⟨vj, nj, mj, hj⟩⟩ := J
  obtain ⟨j, Dj, al, hsh, tkc, vs, nl, xj, mjj, mD, ml, hks⟩ := hj 3 (by decide)
  rw [List.take_of_length_le (by omega)] at hks
  refine ⟨j, vj, nj, mj, xj, ok, lt, lw, off, ⟨vt, nt, mt, it⟩, ⟨vw, nw, mw, iw⟩, ⟨vr, nr, mr, fun k hk => ?_⟩, Dj, al, hsh, tkc, vs, nl, ks, mjj, mD, ml, hks, hk0, hk2⟩
  have l6 : vr.length = 6 := hr.len.trans (by simp)
  obtain ⟨v, hv⟩ : ∃ v, vr[k.toNat]? = some v := ⟨_, List.getElem?_eq_getElem (by omega)⟩
  obtain ⟨a, x, n, vt', rfl, ma, ia, hx⟩ := hr.get _ _ hv
  refine ⟨a, vt', n, hv, ma, ?_⟩
  rw [List.getElem?_map, List.getElem?_range (by omega)] at hx
  have e : rowOf wns ((k.toNat : Nat) : Int) = x := Option.some.inj hx
  rw [show ((k.toNat : Nat) : Int) = k by omega] at e
  rw [e]
  exact ia
theorem road_ring {tns : List Int} {s0 : Int} (al : ∀ n, Alv tns s0 n) : rowN tns s0 6 = orb tns s0 7 := rowN_alive 6 fun n _ => (al n n (Nat.le_refl _)).2
theorem road_end {tns : List Int} {s0 : Int} {l : Nat} (A : Alv tns s0 l) (h : ¬ orbF tns s0 (l + 1) < 6) : l < 6 ∧ rowN tns s0 6 = orb tns s0 (l + 1) := by
  have hl := end_short A h
  refine ⟨hl, ?_⟩
  have := rowN_stop (tns := tns) (s0 := s0) (l := l) (fun n hn => (A n hn).2) h (6 - l)
  rw [show l + (6 - l) = 6 by omega] at this
  exact this
end
section -- U5
theorem kw_U5 : True := by
  k_with "o81" => skip
  trivial
section

set_option maxRecDepth 100000 in
theorem u84 : Up 84 := by
  refine u83.step rfl ?_
  k_extra "st"
  iterate 23 k_extra "g"
  intro rest o4 o1 nw wns vw aw Q E s m h₀ base A₀ outer L gd un dp mb mg mean w B F X N T hr d4 mc1 d1 mw hi hl hdp hun ret
  refine cut_exec (l' := Stmt.Assign [_] _ _) (env' := envOfC (Str.ofString "_law_run") ⟨_, _, _, _, _⟩ L 250 (.ref 249)) rfl rfl ?_
  k_steps
  refine Stop.go ?_
  rename_i hrg hF hN hz
  refine src_range (by rfl) hF hN hrg (by decide) (n := 6) (by decide) fun I St g S => ?_
  refine srcj_one1 (by rfl) (by rfl) (S _ _) (fun i v => ∃ t, v = .int (0 + (i : Int)) t) (fun i v _ h => h) (fun i ys nw => ∃ rr, All6 (nw = (L + 1 + 1 + 1 + 1, o4) :: rr) (i ≤ 6) (∀ q ∈ rest, q ∈ rr) (∀ q ∈ rr, q.1 ≠ L + 1 + 1 + 1 + 1) (∀ q ∈ rr, q ∈ rest ∨ NoCell q.2) (TupsAre rr ys ((List.range i).map fun k : Nat => rowOf wns (k : Int)))) ⟨rest, rfl, by decide, fun q h => h, hr, fun q h => .inl h, .nil⟩ ?_ ?_ ?_
  · rintro i ys nw ⟨rr, _, i6, _, _, _, h⟩
    have e := h.len
    rw [List.length_map, List.length_range] at e
    rw [sizeLine_eq]
    omega
  · rintro i v C D h₁ tk₁ ys mC oC nw tl E' hi6 ⟨t, rfl⟩ ⟨rr, rfl, _, hsub, hne, hnc, hys⟩ hxv hC ho hCD F₁ N₁ htl hlv9
    rw [Int.zero_add] at hxv
    obtain ⟨x, hx⟩ : ∃ x, wns[((i : Int)).toNat]? = some x := ⟨_, List.getElem?_eq_getElem (by omega)⟩
    have mc1' : (L + 1, o1) ∈ rr ++ tl := List.mem_append_left _ (hsub _ mc1)
    have mw' : (aw, W.listOf vw.toArray _) ∈ rr ++ tl := List.mem_append_left _ (hsub _ mw)
    have hi60 : 0 ≤ (i : Int) ∧ (i : Int) < 1000 := by omega
    generalize hrt : rr ++ tl = rt at mc1' mw'
    simp only [List.cons_append, hrt] at N₁
    dsimp only
    k_steps
    rename_i h9 t9 F9 N9 a1 a2 a3 l9
    subst hrt
    refine ⟨_, _, _, _, _, rfl, F9, hC, news_sub N9 keep_in, OffCD.push2 ho hlv9.1 a1 a2 l9, _, rfl, hi6, fun q hq => List.mem_cons_of_mem _ (hsub q hq), fun q hq => ?_, fun q hq => ?_, ?_⟩
    · rcases List.mem_cons.mp hq with rfl | hq
      · exact Nat.ne_of_gt a3
      · exact hne q hq
    · rcases List.mem_cons.mp hq with rfl | hq
      · exact .inr noCell_seq
      · exact hnc q hq
    · rw [List.range_succ, List.map_append]
      refine (hys.mono fun q hq => List.mem_cons_of_mem _ hq).app List.mem_cons_self ?_
      have e : wns.getD ((i : Int)).toNat 0 = x := by rw [List.getD_eq_getElem?_getD, hx]; rfl
      show IntsAre _ [Int.fmod (wns.getD ((i : Int)).toNat 0) 2, wns.getD ((i : Int)).toNat 0, (i : Int)]
      rw [e]
      exact .cons _ _ (.cons _ _ (.cons _ _ .nil))
  · rintro ys nw ⟨rr, rfl, _, hsub, hne, hnc, hys⟩
    k_steps
    exact ret _ _ _ _ _ _ _ (by k_asm) (by k_asm) (by assumption) hsub hnc hys
theorem run_5 : ∀ {w a b c d e f L outer g base h₀ m s E Q aw h wns nw i j rest}, @T84 w a b c d e f L outer g base h₀ m s E Q aw h wns nw i j rest := no_implicit_lambda% (u84.get rfl)
end
end
section -- U1
section

set_option maxRecDepth 100000 in
theorem u85 : Up 85 := by
  refine u84.step rfl ?_
  k_extra "st"
  iterate 21 k_extra "g"
  intro nc ns vs an
  k_extra "i0"
  intro B F X N T mn hi hl hb vc hdp hun ret
  refine cut_exec (l' := Stmt.Assign [_] _ _) (env' := envOfC (Str.ofString "_law_run") ⟨_, _, _, _, _⟩ L 250 (.ref 249)) rfl rfl ?_
  have hlv : vs.length = 6 := hi.length.trans hl
  k_steps
  refine Stop.go ?_
  refine src_list (by rfl) (by k_asm) (by k_asm) (by k_mem) (by rfl) (by rfl) fun I St Md g S => ?_
  refine srcj_one1 (by rfl) (by rfl) (S _) (fun i v => vs.toArray[i]? = some v) (fun i v _ h => h) (fun i ys nw => All4 (i ≤ 6) (∀ q ∈ news, q ∈ nw) (∀ q ∈ nw, q ∈ news ∨ NoCell q.2) (OctsAre nw ys (ns.take i))) ⟨by decide, fun q hq => hq, fun q hq => .inl hq, .nil⟩ ?_ ?_ ?_
  · rintro i ys nw ⟨i6, _, _, h⟩
    have e := h.len
    rw [List.length_take] at e
    rw [sizeLine_eq]
    omega
  · rintro i v C D h₁ tk₁ ys mC oC nw tl E' hin hv ⟨i6, hsub, hnc, hys⟩ hxv hC ho hCD F₁ N₁ htl hlv9
    obtain ⟨n, t, rfl, hn⟩ := hi.at i v (by simpa using hv)
    have hnb := hb n (List.mem_of_getElem? hn)
    dsimp only
    have h0 : (0 : Int) ≤ (if decide (n < 64) = true then 1 else 0) + (if decide (n < 4096) = true then 1 else 0) := by split <;> split <;> decide
    have hd : List.drop (Int.toNat ((if decide (n < 64) = true then 1 else 0) + if decide (n < 4096) = true then 1 else 0)) [64 + Int.fdiv n 4096, 64 + Int.fmod (Int.fdiv n 64) 64, Int.fmod n 64] = octs n := by
      unfold octs
      by_cases c1 : n < 64
      · have c2 : n < 4096 := by omega
        simp [c1, c2]
      · by_cases c2 : n < 4096 <;> simp [c1, c2]
    k_steps
    have N9 := ‹News h₀ L _ ((_, _) :: (_, _) :: (C, oC) :: _)›
    refine ⟨_, _, _, _, _, rfl, by k_asm, hC, news_sub N9 keep1, OffCD.push ho hlv9.1 (by assumption) (by assumption) (by assumption), ?_, ?_, ?_, ?_⟩
    · simp only [List.size_toArray] at hin
      omega
    · exact fun q hq => List.mem_cons_of_mem _ (hsub q hq)
    · intro q hq
      rcases List.mem_cons.mp hq with rfl | hq
      · exact .inr noCell_seq
      · exact hnc q hq
    · rw [List.take_add_one, hn]
      exact (hys.mono fun q hq => List.mem_cons_of_mem _ hq).app List.mem_cons_self (hd ▸ (by assumption))
  · rintro ys nw ⟨_, hsub, hnc, hys⟩
    rw [List.size_toArray, hlv, ← hl, List.take_length] at hys
    k_steps
    exact ret _ _ _ _ _ _ (by k_asm) (by k_asm) hsub hnc hys
theorem run_1 : ∀ {w a b c d e f L outer g base h₀ m s E news Q h vs ns i}, @T85 w a b c d e f L outer g base h₀ m s E news Q h vs ns i := no_implicit_lambda% (u85.get rfl)
end
end
section -- U0
section

set_option maxRecDepth 100000 in
theorem u86 : Up 86 := by
  refine u85.step rfl ?_
  k_extra "st"
  iterate 23 k_extra "g"
  intro p rest o1 nc cns cv ac Q E s m h₀ base A₀ outer L gd un dp mb mg mean w B F X N T hr d1 mc hi hl hp vc hdp hun ret
  refine cut_exec (l' := Stmt.Assign [_] _ _) (env' := envOfC (Str.ofString "_law_run") ⟨_, _, _, _, _⟩ L 250 (.ref 249)) rfl rfl ?_
  k_steps
  refine Stop.go ?_
  refine src_list (by rfl) (by k_asm) (by k_asm) (by k_mem) (by rfl) (by rfl) fun I St Md g S => ?_
  refine map_ints (f := fun n => Int.fmod n 262143) (by rfl) (by rfl) S (by assumption) (by simp; omega) ?_ ?_
  · intro n t C D h₁ tk₁ ys mC oC tl E' Q' hn hx hC ho hCD F₁ N₁ hq
    dsimp only
    k_steps
    exact hq _ _
  · intro ys hys
    k_steps
    refine Stop.go ?_
    dsimp only
    refine src_list (by rfl) (by k_asm) (by k_asm) (by k_mem) (by rfl) (by rfl) fun I St Md g S => ?_
    refine map_ints (f := fun n => Int.fdiv n 7) (by rfl) (by rfl) S (by assumption) (by simp; omega) ?_ ?_
    · intro n t C D h₁ tk₁ ys mC oC tl E' Q' hn hx hC ho hCD F₁ N₁ hq
      dsimp only
      k_steps
      exact hq _ _
    · intro zs hzs
      have h6 : 0 ≤ (6 : Int) ∧ (6 : Int) < 1000 := by decide
      k_steps
      exact ret _ _ _ _ _ _ _ _ _ _ (by k_asm) (news_sub (by k_asm) (by kcj_all)) (by assumption) hys hzs
theorem run_0 : ∀ {w a b c d e f L outer g base h₀ m s E Q ac h i j k rest p}, @T86 w a b c d e f L outer g base h₀ m s E Q ac h i j k rest p := no_implicit_lambda% (u86.get rfl)
end
end
section -- U2
theorem kw_U2 : True := by
  k_with "call type:zip" => ((fail_if_success k_extra "o87"); ((k_here; (with_reducible show wpAny _ _ (call (Value.type "zip") [Value.ref _, Value.ref _]) _ _ _); refine Stop.at ?_)))
  k_with "call builtin:iter" => ((fail_if_success k_extra "o87"); ((k_here; (with_reducible show wpAny _ _ (call (Value.builtin "iter") [Value.ref _]) _ _ _); refine Stop.at ?_)))
  trivial
section

set_option maxRecDepth 100000 in
theorem u87 : Up 87 := by
  refine u86.step rfl ?_
  k_extra "st"
  iterate 25 k_extra "g"
  intro rest o2 no nc ns vo vs ao an Q E s m h₀ base A₀ outer L gd un dp mb mg mean w B F X N T hr d2 mn hi hl hb v1 mo ho v2 hdp hun ret
  refine cut_exec (l' := Stmt.Assign [_] _ _) (env' := envOfC (Str.ofString "_law_run") ⟨_, _, _, _, _⟩ L 250 (.ref 249)) rfl rfl ?_
  have hlv : vs.length = 6 := hi.length.trans hl
  have hlo : vo.length = 6 := ho.len.trans hl
  k_steps
  refine Stop.go ?_
  refine src_zip (by rfl) (by k_asm) (by k_asm) (by k_mem) rfl rfl (by k_mem) rfl rfl fun I St Md g fp wr S => ?_
  refine srcj_nest (S _ _ _) (by rfl) (by intro _ _; rfl) (fun i ys mC nw => nw = (L + 1 + 1, o2) :: rest ∧ i ≤ 6 ∧ IntsAre ys ((ns.take i).flatMap enc)) (fun _ => ⟨rfl, by decide, .nil⟩) ?_ ?_
  · rintro i v C D h₁ tk₁ ys mC oC nw own E' hin hP ⟨rfl, i6, hys⟩ hC off hCD hCL hDL hC0 hD0 hown hlvw F₁ N₁
    obtain ⟨T1, x, y, rfl, hT1, hx, hy⟩ := ZipP.tup hP
    obtain ⟨n, t, rfl, hn⟩ := hi.at i x (by simpa using hx)
    obtain ⟨ar, n', na, vr, rfl, mr, ir, hn'⟩ := ho.get i y (by simpa using hy)
    obtain rfl : n = n' := Option.some.inj (hn.symm.trans hn')
    refine cj_store2 (by rfl) (by rfl) (by rfl) (by rfl) hT1 F₁ hC N₁ hCD (fun p hp => ?_) fun h' tk' oC' F' hC' N' => ?_
    · rcases List.mem_append.mp hp with hp | hp
      · exact (hown p hp).1
      · exact (off p hp).1
    · have e1 : (fun z => if z = Str.ofString "row" then some (Value.ref ar) else if z = Str.ofString "n" then some (Value.int n t) else mC z) (Str.ofString "row") = some (.ref ar) := if_pos rfl
      have e2 : (fun z => if z = Str.ofString "row" then some (Value.ref ar) else if z = Str.ofString "n" then some (Value.int n t) else mC z) (Str.ofString "n") = some (.int n t) := (if_neg (by decide)).trans (if_pos rfl)
      generalize (fun z => if z = Str.ofString "row" then some (Value.ref ar) else if z = Str.ofString "n" then some (Value.int n t) else mC z) = mC2 at hC' e1 e2
      k_steps
      have lr := ir.length
      have lo3 : (octs n).length ≤ 3 := by unfold octs; split <;> (try split) <;> simp
      have lys := hys.length
      have len : ((ns.take i).flatMap enc).length ≤ 18 := by
        have : ∀ l : List Int, (l.flatMap enc).length ≤ 3 * l.length := by
          intro l
          induction l with
          | nil => simp
          | cons a l ih =>
            have : (enc a).length ≤ 3 := by unfold enc octs; rw [List.length_map]; split <;> (try split) <;> simp
            rw [List.flatMap_cons, List.length_append, List.length_cons]; omega
        have h2 := this (ns.take i)
        rw [List.length_take] at h2
        omega
      have N7 := ‹News h₀ L _ ((C, _) :: _)›
      refine inner_list (nw := own ++ (L + 1 + 1, o2) :: rest) (by rfl) (by rfl) (by rfl) hCD hC0 hD0 (by k_asm) hC' N7 (fun p hp => ?_) (List.mem_append_right _ (List.mem_cons_of_mem _ mr)) rfl rfl
        (fun j ys mC nw => nw = own ++ (L + 1 + 1, o2) :: rest ∧ mC (Str.ofString "n") = some (.int n t) ∧ j ≤ vr.length ∧ IntsAre ys ((ns.take i).flatMap enc ++ (enc n).take j)) ⟨rfl, e2, Nat.zero_le _, by simpa using hys⟩ ?_ ?_ ?_
      · rcases List.mem_append.mp hp with hp | hp
        · exact hown p hp
        · exact ⟨(off p hp).1, (off p hp).2.1⟩
      · rintro j ys mC nw ⟨_, _, hj, h⟩
        have := h.length
        rw [List.length_append, List.length_take] at this
        rw [sizeLine_eq]
        omega
      · rintro I2 j v h₂ tk₂ ys mC mC' oC nw own2 E'' hv ⟨rfl, en, hj, hys'⟩ ev eo hC2 off2 hown2 hlv2 F₂ N₂
        obtain ⟨o, t2, rfl, ho2⟩ := ir.at j v (by simpa using hv)
        have en' : mC' (Str.ofString "n") = some (.int n t) := (eo _ (by decide)).trans en
        generalize hnw : own ++ (L + 1 + 1, o2) :: rest = nw2 at *
        k_steps
        refine ⟨_, _, _, _, _, rfl, by k_asm, hC2, by k_asm, off2, rfl, en', ?_, ?_⟩
        · have := (Array.getElem?_eq_some_iff.mp hv).1
          simp only [List.size_toArray] at this
          omega
        · have e3 : (enc n)[j]? = some (o + 128 * Int.fmod n 2) := by unfold enc; rw [List.getElem?_map, ho2]; rfl
          rw [List.take_add_one, e3, ← List.append_assoc]
          exact hys'.append (.cons _ _ .nil)
      · rintro ys mC nw ⟨rfl, _, _, hys'⟩ hnw
        refine ⟨(L + 1 + 1, o2) :: rest, fun p hp => hp, fun p hp => (off p hp).2.2, rfl, ?_, ?_⟩
        · simp at hin; omega
        · rw [List.size_toArray, lr, show (octs n).length = (enc n).length from (List.length_map _).symm, List.take_length] at hys'
          rw [List.take_add_one, hn, List.flatMap_append]
          simpa using hys'
  · rintro ys mC nw ⟨rfl, _, hys⟩
    rw [List.size_toArray, List.size_toArray, hlv, hlo, show min 6 6 = ns.length by rw [hl]; rfl, List.take_length] at hys
    k_steps
    refine Stop.go ?_
    refine iter_list (by k_asm) (by k_asm) List.mem_cons_self fun I h' F' N' lt => ?_
    have l2 : @LT.lt Nat _ (L + 1 + 1) I := lt _ (List.mem_cons_of_mem _ List.mem_cons_self)
    have l3 : ∀ p ∈ rest, p.1 < I := fun p hp => lt _ (List.mem_cons_of_mem _ (List.mem_cons_of_mem _ hp))
    clear lt
    k_steps
    exact ret _ _ _ _ _ _ _ (by k_asm) (by k_asm) (by assumption) hys
theorem run_2 : ∀ {w a b c d e f L outer g base h₀ m s E Q h i vs j ns k l o2 rest}, @T87 w a b c d e f L outer g base h₀ m s E Q h i vs j ns k l o2 rest := no_implicit_lambda% (u87.get rfl)
end
end
section -- U3
theorem kw_U3 : True := by
  k_with "o87" => skip
  k_with "call ref" => ((fail_if_success k_extra "o88"); ((k_here; (with_reducible show wpAny _ _ (call (Value.ref 68) _ _) _ _ _); refine Stop.at ?_)))
  trivial
theorem enc_drop {ns : List Int} {i : Nat} {n : Int} (h : ns[i]? = some n) : (ns.flatMap enc).drop ((ns.take i).flatMap enc).length = enc n ++ (ns.drop (i + 1)).flatMap enc := by
  have hl := (List.getElem?_eq_some_iff.mp h).1
  have e : ns = ns.take i ++ (n :: ns.drop (i + 1)) := by
    rw [← (List.getElem?_eq_some_iff.mp h).2, ← List.drop_eq_getElem_cons hl, List.take_append_drop]
  have e2 : ns.flatMap enc = (ns.take i).flatMap enc ++ (enc n ++ (ns.drop (i + 1)).flatMap enc) := by
    conv => lhs; rw [e]
    rw [List.flatMap_append, List.flatMap_cons]
  rw [e2, List.drop_left]
theorem enc_pos {ns : List Int} {i : Nat} {n : Int} (h : ns[i]? = some n) : ((ns.take (i + 1)).flatMap enc).length = ((ns.take i).flatMap enc).length + (enc n).length := by
  rw [List.take_add_one, h, List.flatMap_append, List.length_append]
  simp
section

set_option maxRecDepth 100000 in
theorem u88 : Up 88 := by
  refine u87.step rfl ?_
  k_extra "st"
  iterate 23 k_extra "g"
  intro rest o2 nt ns vt ax it Q E s m h₀ base A₀ outer L gd un dp mb mg mean w B F X N T hr mc2 d2 hl hb mt hi hdp hun ret
  refine cut_exec (l' := Stmt.Assign [_] _ _) (env' := envOfC (Str.ofString "_law_run") ⟨_, _, _, _, _⟩ L 250 (.ref 249)) rfl rfl ?_
  k_steps
  refine Stop.go ?_
  rename_i hrg hF hN hz
  refine src_range (by rfl) hF hN hrg (by decide) (n := 6) (by decide) fun I St g S => ?_
  refine srcj_one1 (by rfl) (by rfl) (S _ _) (fun i v => ∃ t, v = .int (0 + (i : Int)) t) (fun i v _ h => h) (fun i ys nw => All3 (nw = (it, litObj ax ((ns.take i).flatMap enc).length) :: rest) (i ≤ 6) (IntsAre ys (ns.take i))) ⟨rfl, by decide, .nil⟩ ?_ ?_ ?_
  · rintro i ys nw ⟨_, i6, h⟩
    have e := h.length
    rw [List.length_take] at e
    rw [sizeLine_eq]
    omega
  · rintro i v C D h₁ tk₁ ys mC oC nw tl E' hi6 ⟨t, rfl⟩ ⟨rfl, _, hys⟩ hxv hC ho hCD F₁ N₁ htl hlv9
    obtain ⟨n, hn⟩ : ∃ n, ns[i]? = some n := ⟨_, List.getElem?_eq_getElem (by omega)⟩
    have hnb := hb n (List.mem_of_getElem? hn)
    have mc2' : (L + 1 + 1, o2) ∈ rest ++ tl := List.mem_append_left _ mc2
    have mt' : (ax, W.listOf vt.toArray nt) ∈ rest ++ tl := List.mem_append_left _ mt
    have hr' : ∀ q ∈ rest ++ tl, q.1 ≠ it := by
      intro q hq
      rcases List.mem_append.mp hq with hq | hq
      · exact hr q hq
      · exact fun q2 => (ho _ List.mem_cons_self).2.2 (q2 ▸ hlv9.2 q hq)
    generalize hrt : rest ++ tl = rt at mc2' mt' hr'
    simp only [List.cons_append, hrt] at N₁
    dsimp only
    k_steps
    refine Stop.go ?_
    have hoC := ho _ List.mem_cons_self
    have P := ‹News h₀ L _ ((C, _) :: _)›
    refine parse_ok (i := ((ns.take i).flatMap enc).length) (ns := ns.flatMap enc) (x := n) (tl := (ns.drop (i + 1)).flatMap enc) (rest := (C, oC) :: (D, LCg.lst ys) :: rt) B F₁ X (news_sub P ?sub) T rfl ?hr (List.mem_cons_of_mem _ (List.mem_cons_of_mem _ mt')) hi ⟨hnb.1, by omega⟩ (enc_drop hn) (by omega) (by omega) fun h' tk' t' F' N' => ?_
    case sub => exact fun q hq => by simp only [List.mem_cons] at hq ⊢; grind
    case hr =>
      intro q hq
      rcases List.mem_cons.mp hq with rfl | hq
      · exact Ne.symm hoC.1
      rcases List.mem_cons.mp hq with rfl | hq
      · exact Ne.symm hoC.2.1
      · exact hr' q hq
    rw [← enc_pos hn] at N'
    subst hrt
    refine ⟨_, _, _, _, _, rfl, F', hC, news_sub N' (fun q hq => by simp only [List.mem_cons, List.mem_append, List.cons_append] at hq ⊢; grind), fun q hq => ?_, rfl, hi6, ?_⟩
    · rcases List.mem_cons.mp hq with rfl | hq
      · exact hoC
      · exact ho q (List.mem_cons_of_mem _ hq)
    · rw [List.take_add_one, hn]
      exact hys.append (.cons _ _ .nil)
  · rintro ys nw ⟨rfl, _, hys⟩
    rw [← hl, List.take_length] at hys ⊢
    k_steps
    exact ret _ _ _ _ _ (by k_asm) (by k_asm) hys
theorem run_3 : ∀ {w a b c d e f L outer g base h₀ m s E Q h i j ns k o2 rest}, @T88 w a b c d e f L outer g base h₀ m s E Q h i j ns k o2 rest := no_implicit_lambda% (u88.get rfl)
end
end
section -- U6
theorem kw_U6 : True := by
  k_with "o88" => skip
  k_with "subscriptTail" => ((fail_if_success k_extra "o89"); ((k_here; (with_reducible show wpAny _ _ (subscriptTail _ _ (Value.ref _) (Value.int _ _)) _ _ _); k_dflt (first | (refine' sym_item ?Nqsb ?pqsb ?iqsb ?zqsb ?xqsb ?_; (case Nqsb => k_asm); (case pqsb => k_mem); (case iqsb | zqsb | xqsb => with_reducible assumption); intro _) | (refine' list_item ?Nqsb ?pqsb ?zqsb ?xqsb ?_; (case Nqsb => k_asm); (case pqsb => k_mem); (case zqsb | xqsb => with_reducible assumption); k_whole; (try dsimp only))))))
  k_with "call ref" => ((fail_if_success k_extra "o89"); ((k_here; (with_reducible show wpAny _ _ (call (Value.ref 89) _ _) _ _ _); k_dflt (refine' compare_ok ?Bqtb ?Fqtb ?Xqtb ?Nqtb ?Tqtb ?hkqtb ?mjqtb ?mDqtb ?mlqtb ?hksqtb ?m1qtb ?hxqtb ?m2qtb ?hyqtb ?lxqtb ?lyqtb ?hdpqtb ?hunqtb ?_; (case Bqtb | Fqtb => k_asm); (case Xqtb | Nqtb | Tqtb => k_asm); (case hkqtb => first | exact rfl | assumption); (case mjqtb | mDqtb | mlqtb => k_mem); (case hksqtb => assumption); (case m1qtb => k_mem); (case hxqtb => assumption); (case m2qtb => k_mem); (case hyqtb | lxqtb | lyqtb => assumption); (case hdpqtb => ktr_room); (case hunqtb => ktr_units); intro _ _ _ _ _; (try dsimp only)))))
  k_with "subscriptTail Name Slice ref ref" => ((fail_if_success k_extra "o89"); (((k_here; (with_reducible refine' slice_upto ?Fqub ?Nqub ?mqub ?zqub ?cqub ?_ ?squb ?tqub); k_dflt ((case Fqub | Nqub => k_asm); (case mqub => k_mem); (case zqub => with_reducible assumption); (case cqub => omega); (case squb => with_unfolding_all rfl); (case tqub => kmk_pure)); intro _ _ _ _ l1; (try k_lt l1); (try k_sweep)); (try (revert l1; intro _)))))
  k_with "binaryOp Add ref ref" => ((fail_if_success k_extra "o89"); (((k_here; (with_reducible show wpAny _ _ (binaryOp _ (Value.ref _) (Value.ref _)) _ _ _); k_dflt (refine' kmk_add_ints ?Fqvb ?Nqvb ?aqvb ?bqvb ?iqvb ?jqvb ?_ ?zqvb; (case Fqvb | Nqvb => k_asm); (case aqvb => kmk_list); (case bqvb => kmk_list); (case iqvb => assumption); (case jqvb => exact IntsAre.cons _ _ .nil); (case zqvb => (rw [sizeLine_eq]; simp only [List.length_cons, List.length_nil]; omega))); intro _ _ _ _ _ l1 _; (try k_lt l1); (try k_sweep)); (try (revert l1; intro _)))))
  trivial
section

set_option maxRecDepth 100000 in
theorem u89 : Up 89 := by
  refine u88.step rfl ?_
  k_extra "st"
  iterate 34 k_extra "g"
  intro tm mm ks ng n2 n1 ys xs vg vy vx o5 ag aj ak a2 a1
  k_extra "i0"
  intro B F X N T m1 hx m2 hy lx ly mg5 d5 mg9 hg v1 v2 v3 v4 v5 hmm J hdp hun ret
  obtain ⟨⟨vk, nk, mk, hk⟩, k3, ⟨vj, nj, mj, hj⟩⟩ := J
  obtain ⟨j, Dj, al, hsh, tkc, vs, nl, xj, mjj, mD, ml, hks⟩ := hj mm.toNat (by omega)
  clear hj
  have hmm' : 0 ≤ mm ∧ mm < 1000 := by omega
  have hm0 : 0 ≤ mm := hmm.1
  have lk := hk.len
  have hkt := hk.take mm.toNat
  have h00 : 0 ≤ (0 : Int) ∧ (0 : Int) < 1000 := by decide
  have hz := cmpL_head (xs := xs) (ys := ys) hkt.bnd
  refine cut_exec (l' := Stmt.If _ _ _ _) (env' := envOfC (Str.ofString "_law_run") ⟨_, _, _, _, _⟩ L 250 (.ref 249)) rfl rfl ?_
  k_steps
  refine Stop.go ?_
  refine src_list (by rfl) (by k_asm) (by k_asm) List.mem_cons_self (by rfl) (by rfl) fun I St Md g S => ?_
  have hktl := hkt.len
  refine srcj_test2 (a := Str.ofString "k") (b := Str.ofString "way") (by rfl) (by rfl) (by rfl) (by rfl) (by decide) (S _) (fun i x y => ∃ k d t u, x = .int k t ∧ y = .int d u ∧ (0 ≤ k ∧ k < 3) ∧ (ks.take mm.toNat)[i]? = some (k, d)) (fun i ys' nw => nw = _ :: news ∧ i ≤ 3 ∧ IntsAre ys' (cmpL ((ks.take mm.toNat).take i) (gapL xs ys))) ?_ ⟨rfl, by decide, .nil⟩ ?_ ?_ ?_
  · rintro i v h ys' nw hv ⟨rfl, _, _⟩ hN
    obtain ⟨a, k, d, t, u, n, rfl, hm, hk3, hki⟩ := hkt.get i v (by simpa using hv)
    have z := hN _ (List.mem_cons_of_mem _ hm)
    exact ⟨a, _, _, rfl, ⟨_, z.1, rfl, n, rfl⟩, k, d, t, u, rfl, rfl, hk3, hki⟩
  · rintro i ys' nw ⟨_, hi3, h⟩
    have e := h.length
    have e2 : (cmpL ((ks.take mm.toNat).take i) (gapL xs ys)).length ≤ 3 := by
      unfold cmpL
      refine Nat.le_trans (List.length_filterMap_le _ _) ?_
      rw [List.length_take]; omega
    rw [sizeLine_eq]
    omega
  · rintro i x y C D h₁ tk₁ ys' mC oC nw tl E' hin ⟨k, d, t, u, rfl, rfl, hk3, hki⟩ ⟨rfl, _, hys⟩ ek ew hC ho hCD F₁ N₁ htl hlv9
    have hgk := gapL_get xs ys hk3
    have hgd := gapL_getD xs ys hk3
    have hk1 : 0 ≤ k ∧ k < 1000 := by omega
    have mg5' : (L + 1 + 1 + 1 + 1 + 1, o5) ∈ news ++ tl := List.mem_append_left _ mg5
    have mg' : (ag, W.listOf vg.toArray ng) ∈ news ++ tl := List.mem_append_left _ mg9
    have hin3 : i + 1 ≤ 3 := by
      have := (List.getElem?_eq_some_iff.mp hki).1
      rw [List.length_take] at this
      omega
    have hcs := cmpL_succ (gs := gapL xs ys) hki
    rw [hgd] at hcs
    generalize hrt : news ++ tl = rt at mg5' mg'
    simp only [List.cons_append, hrt] at N₁
    dsimp only
    k_steps
    refine TestQ.of (fun hb => ?_) fun hb => ?_
    · have hb' : xs.getD k.toNat 0 - ys.getD k.toNat 0 ≠ 0 := by simpa using hb
      rw [if_pos hb'] at hcs
      k_steps
      · rw [if_pos (by assumption)] at hcs
        subst hrt
        refine ⟨_, _, _, _, _, rfl, F₁, hC, N₁, ho, rfl, hin3, ?_⟩
        rw [hcs]
        exact hys.append (.cons _ _ .nil)
      · rw [if_neg (by assumption)] at hcs
        subst hrt
        refine ⟨_, _, _, _, _, rfl, F₁, hC, N₁, ho, rfl, hin3, ?_⟩
        rw [hcs]
        exact hys.append (.cons _ _ .nil)
    · have hb' : ¬ xs.getD k.toNat 0 - ys.getD k.toNat 0 ≠ 0 := by simpa using hb
      rw [if_neg hb', List.append_nil] at hcs
      refine ⟨_, _, _, _, _, rfl, F₁, hC, ?_, ho, rfl, hin3, hcs ▸ hys⟩
      rw [← hrt] at N₁
      exact N₁
  · rintro ys' nw ⟨rfl, _, hys⟩
    have e : (ks.take mm.toNat).take ((vk.take mm.toNat).toArray.size) = ks.take mm.toNat := by
      rw [List.size_toArray, hktl, List.take_length]
    rw [e] at hys
    have ecl : (cmpL (ks.take mm.toNat) (gapL xs ys)).length ≤ 3 := by
      unfold cmpL
      refine Nat.le_trans (List.length_filterMap_le _ _) ?_
      rw [List.length_take]; omega
    k_steps
    · exact absurd (show cmpK (ks.take mm.toNat) xs ys = (cmpL (ks.take mm.toNat) (gapL xs ys) ++ [0]).getD (Int.toNat 0) 0 by rw [List.getD_eq_getElem?_getD, hz]; rfl) (by assumption)
    · exact ret _ _ (by k_asm) (news_sub (by k_asm) fun q hq => List.mem_cons_of_mem _ (List.mem_cons_of_mem _ (List.mem_cons_of_mem _ (List.mem_cons_of_mem _ hq))))
theorem run_6t : ∀ {w a b c d e f L outer g base h₀ m s E news Q h i ak aj j k l n o xs ys p q r ks t tm}, @T89 w a b c d e f L outer g base h₀ m s E news Q h i ak aj j k l n o xs ys p q r ks t tm := no_implicit_lambda% (u89.get rfl)
end
end
section -- U7
theorem kw_U7 : True := by
  k_with "o89" => skip
  k_with "call type:zip" => ((fail_if_success k_extra "o90"); ((k_here; (with_reducible show wpAny _ _ (call (Value.type "zip") [Value.ref _, Value.ref _]) _ _ _); refine Stop.at ?_)))
  k_with "subscriptTail Name Constant ref int" => ((fail_if_success k_extra "o90"); ((k_here; (with_reducible show wpAny _ _ (subscriptTail _ _ (Value.ref _) (Value.int _ _)) _ _ _); k_dflt (refine' tup_item ?Nqwb ?pqwb ?iqwb ?zqwb ?xqwb ?_; (case Nqwb => k_asm); (case pqwb => k_mem); (case iqwb => with_reducible assumption); (case zqwb => decide); (case xqwb => with_reducible assumption); intro _))))
  trivial
section

set_option maxRecDepth 100000 in
theorem u90 : Up 90 := by
  refine u89.step rfl ?_
  k_extra "st"
  iterate 27 k_extra "g"
  intro rest n2 n1 ys xs vy vx v0 o5 a2 a1 Q E s m h₀ base A₀ outer L gd un dp mb mg mean w B F X N T hr d5 m1 hx m2 hy lx ly v1 v2 hdp hun ret
  have hvx := hx.length
  have hvy := hy.length
  refine cut_exec (l' := Stmt.Assign [_] _ _) (env' := envOfC (Str.ofString "_law_run") ⟨_, _, _, _, _⟩ L 250 (.ref 249)) rfl rfl ?_
  refine wpAny_Assign_Name ?_ (by rfl)
  k_steps
  refine Stop.go ?_
  refine src_zipt (by rfl) (by k_asm) (by k_asm) (by k_mem) rfl rfl (by k_mem) rfl rfl (by simp; omega) fun I St Md g fp wr S => ?_
  refine srcj_one2 (a := Str.ofString "x") (b := Str.ofString "y") (by rfl) (by rfl) (by rfl) (by rfl) (by decide) (S _ _ _) (fun i x y => vx.toArray[i]? = some x ∧ vy.toArray[i]? = some y) (fun i ys' nw => nw = (L + 1 + 1 + 1 + 1 + 1, o5) :: rest ∧ i ≤ 3 ∧ IntsAre ys' ((gapL xs ys).take i)) ?_ ⟨rfl, by decide, .nil⟩ ?_ ?_ ?_
  · rintro i v h ys' nw hv _ _
    obtain ⟨T1, x, y, rfl, hT1, hx', hy'⟩ := ZipP.tup hv
    exact ⟨T1, x, y, rfl, hT1, hx', hy'⟩
  · rintro i ys' nw ⟨_, hi3, h⟩
    have e := h.length
    rw [List.length_take] at e
    rw [sizeLine_eq]
    omega
  · rintro i x y C D h₁ tk₁ ys' mC oC nw tl E' hin ⟨ex, ey⟩ ⟨rfl, _, hys⟩ e1 e2 hC ho hCD F₁ N₁ htl hlv9
    obtain ⟨a, ta, rfl, ha⟩ := hx.at i x (by simpa using ex)
    obtain ⟨b, tb, rfl, hb⟩ := hy.at i y (by simpa using ey)
    generalize hrt : rest ++ tl = rt
    simp only [List.cons_append, hrt] at N₁
    dsimp only
    k_steps
    subst hrt
    have hi3 : i < 3 := by simp at hin; omega
    refine ⟨_, _, _, _, _, rfl, F₁, hC, N₁, ho, rfl, hi3, ?_⟩
    have eg : (gapL xs ys)[i]? = some (a - b) := by
      have := gapL_get xs ys (k := (i : Int)) (by omega)
      rw [Int.toNat_natCast, List.getD_eq_getElem?_getD, List.getD_eq_getElem?_getD, ha, hb] at this
      exact this
    rw [List.take_add_one, eg]
    exact hys.append (.cons _ _ .nil)
  · rintro ys' nw ⟨rfl, _, hys⟩
    rw [List.size_toArray, hvy, ly, ← gapL_len xs ys, List.take_length] at hys
    k_steps
    exact ret _ _ _ _ _ _ (by k_asm) (by k_asm) (by assumption) hys
theorem run_6g : ∀ {w a b c d e f L outer g base h₀ m s E Q h i j v0 k l xs ys n o rest}, @T90 w a b c d e f L outer g base h₀ m s E Q h i j v0 k l xs ys n o rest := no_implicit_lambda% (u90.get rfl)
end
end
section -- U8
theorem kw_U8 : True := by
  k_with "o90" => skip
  k_with "subscriptTail Name Constant ref int" => ((fail_if_success k_extra "o91"); ((k_here; (with_reducible show wpAny _ _ (subscriptTail _ _ (Value.ref _) (Value.int _ _)) _ _ _); k_dflt (refine' tup_item ?Nqwb ?pqwb ?iqwb ?zqwb ?xqwb ?_; (case Nqwb => k_asm); (case pqwb => k_mem); (case iqwb => with_reducible assumption); (case zqwb => decide); (case xqwb => with_reducible assumption); intro _))))
  trivial
section

set_option maxRecDepth 100000 in
theorem u91 : Up 91 := by
  refine u90.step rfl ?_
  k_extra "st"
  iterate 38 k_extra "g"
  intro tp y2 x2 p ks ng n2 n1 ys xs vg vy vx o5 an ag aj ak a2 a1 P
  k_extra "i0"
  intro B F X N T m1 hx m2 hy lx ly ex ey mg5 d5 mg9 hg v1 v2 V J hP hE hdp hun ret
  refine cut_exec (l' := Stmt.For _ _ _ _ _) (env' := envX (Str.ofString "_law_run") ⟨_, _, _, _, _⟩ L 250 (.ref 249) (runCl L)) rfl rfl ?_
  refine For_turns F ?_ (by intro _; rfl) hE
  k_steps
  rename_i ax h1 F1 N1 l1
  refine tuple_J (its := #[Value.int (Int.fmod (x2 + y2) 3) (s.toks + 1 + 1 + 1 + 1), Value.int 3 (s.toks + 1 + 1 + 1 + 1 + 1)]) (by rfl) F1 N1 List.mem_cons_self rfl rfl (J6i P a1 a2 an ak aj p tp ((ax, _) :: news)) ⟨rfl, V, v1, v2⟩ (fun I k v m₁ news₁ h₁ tk₁ oI hk hJ hc ho hax F₁ N₁ => ?_) (fun h' tk m' news' F' N' hJ => ?_)
  · obtain ⟨rfl, V1, w1, w2⟩ := hJ
    obtain ⟨mm, tm, rfl, hmm⟩ : ∃ mm tm, v = .int mm tm ∧ 0 ≤ mm ∧ mm < 4 := by
      rcases k with _ | _ | k
      · obtain rfl : Value.int (Int.fmod (x2 + y2) 3) (s.toks + 1 + 1 + 1 + 1) = v := by simpa using hk
        refine ⟨_, _, rfl, ?_⟩
        rw [Int.fmod_eq_emod_of_nonneg _ (by decide)]
        omega
      · obtain rfl : Value.int 3 (s.toks + 1 + 1 + 1 + 1 + 1) = v := by simpa using hk
        exact ⟨_, _, rfl, by decide, by decide⟩
      · simp at hk
    refine assign_local F₁ N₁ (by rfl) (by rfl) fun h₂ tk₂ F₂ N₂ => ?_
    refine cut_execs (l' := [(forB (forB6.getD 1 default)).getD 0 default]) (env' := envR L) rfl rfl ?_
    have up : ∀ q ∈ news, q ∈ (I, oI) :: (ax, ({ cls := .type "tuple", data := .seq #[Value.int (Int.fmod (x2 + y2) 3) (s.toks + 1 + 1 + 1 + 1), Value.int 3 (s.toks + 1 + 1 + 1 + 1 + 1)] } : Obj)) :: news := fun q hq => List.mem_cons_of_mem _ (List.mem_cons_of_mem _ hq)
    refine wpAny_execs_cons (run_6t B F₂ X N₂ T (up _ m1) hx (up _ m2) hy lx ly (up _ mg5) d5 (up _ mg9) hg ((if_neg (by decide)).trans w1) ((if_neg (by decide)).trans w2) ((if_neg (by decide)).trans V1.rn.keys) ((if_neg (by decide)).trans V1.rn.judges) (if_pos rfl) hmm (J.mono up) hdp hun fun h' tk' F' N' => ?_)
    exact wpAny_execs_nil ⟨h', tk', _, _, rfl, F', N', ho, fun q hq => by rw [List.mem_singleton.mp hq]; exact hax, rfl, RP.set hP V1 (.inr (.inr rfl)), (if_neg (by decide)).trans w1, (if_neg (by decide)).trans w2⟩
  · obtain ⟨rfl, V1, _, _⟩ := hJ
    exact ret _ _ _ F' (news_sub N' sub_skip1) V1
theorem run_6i : ∀ {w a b c d e f L outer g base h₀ m s E news Q P h i ak aj j k l n o q xs ys r t u ks p v x y}, @T91 w a b c d e f L outer g base h₀ m s E news Q P h i ak aj j k l n o q xs ys r t u ks p v x y := no_implicit_lambda% (u91.get rfl)
theorem run_6b {P : (Str → Option Value) → Prop} {a1 a2 ak aj an : Addr} {o5 : Obj} {v0 : Option Value} {vx vy : List Value} {xs ys : List Int} {n1 n2 : Nat} {ks : List (Int × Int)} {p x2 y2 : Int} {tp : Tok} {rest : Led} {Q : Flow → Shared → Prop}
    (B : Below A₀ base outer h₀) (F : Fr h₀ L s.heap m) (X : (h0.heap_1 w.params).In h₀) (N : News h₀ L s.heap ((L + 1 + 1 + 1 + 1 + 1, o5) :: rest)) (T : TopX mean mg mb h₀)
    (hr : ∀ q ∈ rest, q.1 ≠ L + 1 + 1 + 1 + 1 + 1) (d5 : o5.data = .cell v0)
    (m1 : (a1, ({ cls := .type "tuple", data := .seq vx.toArray n1 } : Obj)) ∈ rest) (hx : IntsAre vx xs) (m2 : (a2, ({ cls := .type "tuple", data := .seq vy.toArray n2 } : Obj)) ∈ rest) (hy : IntsAre vy ys) (lx : xs.length = 3) (ly : ys.length = 3)
    (ex : xs[(2 : Int).toNat]? = some x2) (ey : ys[(2 : Int).toNat]? = some y2)
    (v1 : m (Str.ofString "one") = some (.ref a1)) (v2 : m (Str.ofString "other") = some (.ref a2)) (V : RP P an ak aj p tp m) (J : Jd rest ak aj ks)
    (hP : ClP P) (hE : PassesOwn (model PG w) (arR dp un gd L outer) (envR L) E)
    (hdp : dp + 20 < recursionLimit) (hun : un + 200 < cLine)
    (ret : ∀ h' tk' m' o' v', Fr h₀ L h' m' → News h₀ L h' ((L + 1 + 1 + 1 + 1 + 1, o') :: rest) → o'.data = .cell v' → RP P an ak aj p tp m' → Q .next { s with heap := h', toks := tk' }) :
    wpAny (model PG w) (arR dp un gd L outer) (execs forB6 (envR L)) Q E s := by
  rw [forB6_eq]
  refine wpAny_execs_cons (run_6g B F X N T hr d5 m1 hx m2 hy lx ly v1 v2 hdp hun fun h1 tk1 ag vg ng o1 F1 N1 d1 hg => ?_)
  have up : ∀ q ∈ rest, q ∈ (ag, W.listOf (List.toArray vg) ng) :: (L + 1 + 1 + 1 + 1 + 1, o1) :: rest := fun q hq => List.mem_cons_of_mem _ (List.mem_cons_of_mem _ hq)
  refine wpAny_execs_cons (run_6i B F1 X N1 T (up _ m1) hx (up _ m2) hy lx ly ex ey (List.mem_cons_of_mem _ List.mem_cons_self) d1 List.mem_cons_self hg v1 v2 V (J.mono up) hP hE hdp hun fun h2 tk2 m2 F2 N2 V2 => ?_)
  exact wpAny_execs_nil (ret _ _ _ _ _ F2 (news_sub N2 sub_skip1) d1 V2)
end
end
section -- U9
theorem kw_U9 : True := by
  k_with "o91" => skip
  k_with "pyIter ref" => ((fail_if_success k_extra "o92"); ((k_here; (with_reducible show wpAny _ _ _ (InnerAt _ _ _ _ _ _ _ _ _ _ _ _ _ _ _) _ _); refine Stop.at ?_)))
  trivial
theorem PairV.mono {led led' : Led} {wns : List Int} {v : Value} (h : PairV led wns v) (hs : ∀ q ∈ led, q ∈ led') : PairV led' wns v := by
  obtain ⟨T, a, b, n, n1, n2, v1, v2, p, q, rfl, h1, h2, h3, h4, h5⟩ := h
  exact ⟨T, a, b, n, n1, n2, v1, v2, p, q, rfl, hs _ h1, hs _ h2, h3, hs _ h4, h5⟩
section
variable {prog : Program} {w : World} {A : Around} {E : Value → Shared → Prop} {s : Shared} {env : Env} {h₀ : Heap} {m : Str → Option Value} {news : Led}
theorem assign_local2 {a b : Str} {pa pb tp : Pos} {kk : Nat} {T : Addr} {x y : Value} {Q : Unit → Shared → Prop} (hh : A.handled = none) (hT : s.heap.IsTuple T #[x, y]) (F : Fr h₀ env.locals s.heap m) (N : News h₀ env.locals s.heap news) (ha : env.kindOf a = some .local) (hb : env.kindOf b = some .local) (hp : (env.scope.kind == .class || (env.scope.kind == .module && env.locals != env.globals)) = false)
    (h : ∀ h' tk, Fr h₀ env.locals h' (fun z => if z = b then some y else if z = a then some x else m z) → News h₀ env.locals h' news → Q () { s with heap := h', toks := tk }) : wpAny (model prog w) A (assign (.Tuple [.Name a pa, .Name b pb] kk tp) env (.ref T)) Q E s := by
  refine kcp_assign hh hT ha hb hp F.ns fun h' tk hn up => ?_
  have hL₀ : h₀.get? env.locals = none := Heap.get?_none_of_le F.above
  exact h h' tk ⟨hn, fun b o e => up b o (fun q => by rw [q, hL₀] at e; cases e) (F.keep b o e), F.above⟩ fun p hp => ⟨up _ _ (N p hp).2.1 (N p hp).1, (N p hp).2⟩
end
section

set_option maxRecDepth 100000 in
theorem u92 : Up 92 := by
  refine u91.step rfl ?_
  k_extra "st"
  iterate 31 k_extra "g"
  intro rest tp p ks nr wns vr v0 o5 o4 an aj ak ar P Q E s m h₀ base A₀ outer L gd un dp mb mg mean w B F X N T hr d5 mc4 d4 mr hv V J hP hE hdp hun ret
  have lv : vr.length = 6 := hv.len.trans (by simp)
  refine cut_exec (l' := Stmt.For _ _ _ _ _) (env' := envX (Str.ofString "_law_run") ⟨_, _, _, _, _⟩ L 250 (.ref 249) (runCl L)) rfl rfl ?_
  refine For_turns F ?_ (by intro _; rfl) hE
  k_steps
  refine Stop.go ?_
  refine src_list (by rfl) (by k_asm) (by k_asm) (by k_mem) (by rfl) (by rfl) fun I St Md g S => ?_
  refine srcj_nest (S _) (by rfl) (by intro _ _; rfl) (fun i ys mC nw => ∃ rr, nw = (L + 1 + 1 + 1 + 1 + 1, o5) :: rr ∧ i ≤ 6 ∧ JP (L + 1 + 1 + 1 + 1 + 1) o5 rest wns (6 * i) ys rr) (fun _ => ⟨rest, rfl, by decide, ⟨fun q h => h, hr, rfl, fun v h => absurd h List.not_mem_nil⟩⟩) ?_ ?_
  · rintro i v C D h₁ tk₁ ys mC oC nw own E' hin hP ⟨rr, rfl, i6, jp⟩ hC off hCD hCL hDL hC0 hD0 hown hlvw F₁ N₁
    obtain ⟨a, x, n1, v1, rfl, ma, ia, hxa⟩ := hv.get i v (by simpa using hP)
    have hi6 : i < 6 := by
      have := (List.getElem?_eq_some_iff.mp hxa).1
      simpa using this
    obtain rfl : rowOf wns (i : Int) = x := by
      rw [List.getElem?_map, List.getElem?_range hi6] at hxa
      exact Option.some.inj hxa
    refine cj_store (by rfl) (by rfl) F₁ hC N₁ hCD (fun p hp => ?_) fun h' tk' oC' F' hC' N' => ?_
    · rcases List.mem_append.mp hp with hp | hp
      · exact (hown p hp).1
      · exact (off p hp).1
    · have e1 : (fun z => if z = Str.ofString "one" then some (Value.ref a) else mC z) (Str.ofString "one") = some (.ref a) := if_pos rfl
      generalize (fun z => if z = Str.ofString "one" then some (Value.ref a) else mC z) = mC2 at hC' e1
      have mc4' : (L + 1 + 1 + 1 + 1, o4) ∈ own ++ (L + 1 + 1 + 1 + 1 + 1, o5) :: rr := List.mem_append_right _ (List.mem_cons_of_mem _ (jp.sub _ mc4))
      have mr' : (ar, W.listOf vr.toArray nr) ∈ own ++ (L + 1 + 1 + 1 + 1 + 1, o5) :: rr := List.mem_append_right _ (List.mem_cons_of_mem _ (jp.sub _ mr))
      generalize hnw : own ++ (L + 1 + 1 + 1 + 1 + 1, o5) :: rr = nw0 at mc4' mr' N'
      k_steps
      refine Stop.go ?_
      have N7 := ‹News h₀ L _ ((C, _) :: _)›
      subst hnw
      refine inner_list (by rfl) (by rfl) (by rfl) hCD hC0 hD0 F' hC' N7 (fun p hp => ?_) mr' rfl rfl
        (fun j ys mC nw => ∃ rr, nw = own ++ (L + 1 + 1 + 1 + 1 + 1, o5) :: rr ∧ mC (Str.ofString "one") = some (.ref a) ∧ j ≤ 6 ∧ JP (L + 1 + 1 + 1 + 1 + 1) o5 rest wns (6 * i + j) ys rr ∧ ∀ q ∈ rr, q.1 ∉ [I]) ⟨rr, rfl, e1, Nat.zero_le _, jp, fun q hq => (off q (List.mem_cons_of_mem _ hq)).2.2⟩ ?_ ?_ ?_
      · rcases List.mem_append.mp hp with hp | hp
        · exact hown p hp
        · exact ⟨(off p hp).1, (off p hp).2.1⟩
      · rintro j ys mC nw ⟨rr, _, _, hj, jp, _⟩
        rw [sizeLine_eq, jp.len]
        omega
      · rintro I2 j v h₂ tk₂ ys mC mC' oC nw own2 E'' hv2 ⟨rr, rfl, en, hj, jp, hwr⟩ ev eo hC2 off2 hown2 hlv2 F₂ N₂
        obtain ⟨b, y, n2, v2, rfl, mb, ib, hyb⟩ := hv.get j v (by simpa using hv2)
        have hj6 : j < 6 := by
          have := (List.getElem?_eq_some_iff.mp hyb).1
          simpa using this
        obtain rfl : rowOf wns (j : Int) = y := by
          rw [List.getElem?_map, List.getElem?_range hj6] at hyb
          exact Option.some.inj hyb
        have en' : mC' (Str.ofString "one") = some (.ref a) := (eo _ (by decide)).trans en
        generalize hnw2 : own2 ++ (own ++ (L + 1 + 1 + 1 + 1 + 1, o5) :: rr) = nw2 at N₂
        k_steps
        rename_i TT h9 F9 N9 a1 a2 l9
        subst hnw2
        have lt9 := allLt_mem l9
        refine ⟨_, _, _, _, own ++ (L + 1 + 1 + 1 + 1 + 1, o5) :: (TT, ({ cls := .type "tuple", data := .seq #[.ref a, .ref b] } : Obj)) :: rr, rfl, F9, hC2, news_sub N9 ?_, ?_, (TT, ({ cls := .type "tuple", data := .seq #[.ref a, .ref b] } : Obj)) :: rr, rfl, en', hj6, ⟨fun q hq => List.mem_cons_of_mem _ (jp.sub q hq), ?_, by rw [List.length_append, jp.len]; rfl, ?_⟩, ?_⟩
        · exact fun q hq => by simp only [List.mem_cons, List.mem_append] at hq ⊢; grind
        · intro q hq
          rcases List.mem_append.mp hq with hq | hq
          · exact off2 q (List.mem_append_left _ hq)
          rcases List.mem_cons.mp hq with rfl | hq
          · exact off2 _ (List.mem_append_right _ List.mem_cons_self)
          rcases List.mem_cons.mp hq with rfl | hq
          · refine ⟨Nat.ne_of_gt a1, Nat.ne_of_gt a2, fun hb => ?_⟩
            obtain ⟨o, ho⟩ := hlv2.1 _ hb
            exact absurd (lt9 _ (List.mem_append_left _ ho)) (Nat.lt_irrefl _)
          · exact off2 q (List.mem_append_right _ (List.mem_cons_of_mem _ hq))
        · intro q hq
          rcases List.mem_cons.mp hq with rfl | hq
          · exact Nat.ne_of_gt (lt9 _ (List.mem_append_right _ (List.mem_append_right _ List.mem_cons_self)))
          · exact jp.ne q hq
        · intro v hv
          rcases List.mem_append.mp hv with hv | hv
          · exact (jp.pairs v hv).mono fun q hq => List.mem_cons_of_mem _ hq
          · obtain rfl := List.mem_singleton.mp hv
            exact ⟨TT, a, b, _, n1, n2, v1, v2, i, j, rfl, List.mem_cons_self, List.mem_cons_of_mem _ (jp.sub _ ma), ia, List.mem_cons_of_mem _ (jp.sub _ mb), ib⟩
        · intro q hq
          rcases List.mem_cons.mp hq with rfl | hq
          · intro hb
            obtain ⟨o, ho⟩ := hlvw.1 _ hb
            exact absurd (lt9 _ (List.mem_append_right _ (List.mem_append_left _ ho))) (Nat.lt_irrefl _)
          · exact hwr q hq
      · rintro ys mC nw ⟨rr, rfl, _, _, jp, hwr⟩ hnw
        have e6 : 6 * i + vr.toArray.size = 6 * (i + 1) := by rw [List.size_toArray, lv]; omega
        rw [e6] at jp
        refine ⟨(L + 1 + 1 + 1 + 1 + 1, o5) :: rr, fun p hp => hp, fun p hp => ?_, rr, rfl, hi6, jp⟩
        rcases List.mem_cons.mp hp with rfl | hp
        · exact (off _ List.mem_cons_self).2.2
        · exact hwr p hp
  · rintro ys mC nw ⟨rr, rfl, _, jp⟩
    k_steps
    rename_i DD h1 tk1 F1 N1 ne5 o1
    have off1 := off1_mem o1
    refine list_J (lo := LCg.lst ys) (its := ys.toArray) (by rfl) F1 (news_sub N1 mem_swap2) (List.mem_cons_of_mem _ List.mem_cons_self) (by rfl) (by rfl) (J6 P an ak aj p tp (L + 1 + 1 + 1 + 1 + 1) ((DD, LCg.lst ys) :: rr)) ⟨V, o5, v0, rfl, d5⟩ (fun I i v m₁ news₁ h₁ tk₁ oI hi hJ hc ho hax F₁ N₁ => ?_) (fun h' tk m' news' F' N' hJ => ?_)
    · obtain ⟨V1, o5', v', rfl, d5'⟩ := hJ
      obtain ⟨T1, a, b, n, n1, n2, v1, v2, p1, q1, rfl, mT, ma, ia, mb, ib⟩ := jp.pairs v (List.mem_of_getElem? (by simpa using hi))
      have z := N₁ _ (List.mem_cons_of_mem _ (List.mem_cons_of_mem _ (List.mem_cons_of_mem _ mT)))
      refine assign_local2 (by rfl) ⟨_, z.1, rfl, n, rfl⟩ F₁ N₁ (by rfl) (by rfl) (by rfl) fun h₂ tk₂ F₂ N₂ => ?_
      refine cut_execs (l' := forB6) (env' := envR L) rfl rfl ?_
      refine run_6b (xs := rowOf wns p1) (ys := rowOf wns q1) (rest := (I, oI) :: (DD, LCg.lst ys) :: rr) B F₂ X (news_sub N₂ mem_swap2) T (fun q hq => ?_) d5' (List.mem_cons_of_mem _ (List.mem_cons_of_mem _ ma)) ia (List.mem_cons_of_mem _ (List.mem_cons_of_mem _ mb)) ib rfl rfl rfl rfl
        ((if_neg (by decide)).trans (if_pos rfl)) (if_pos rfl) (RP.set hP (RP.set hP V1 (.inl rfl)) (.inr (.inl rfl))) (J.mono fun q hq => List.mem_cons_of_mem _ (List.mem_cons_of_mem _ (jp.sub q hq))) hP hE hdp hun fun h' tk' m' o' v' F' N' d' V' => ?_
      · rcases List.mem_cons.mp hq with rfl | hq
        · exact fun e => ho _ List.mem_cons_self e.symm
        rcases List.mem_cons.mp hq with rfl | hq
        · exact Ne.symm ne5
        · exact jp.ne q hq
      · refine ⟨h', tk', m', (L + 1 + 1 + 1 + 1 + 1, o') :: (DD, LCg.lst ys) :: rr, rfl, F', news_sub N' mem_swap2, fun q hq => ?_, fun q hq => ?_, V', o', v', rfl, d'⟩
        · rcases List.mem_cons.mp hq with rfl | hq
          · exact fun e => ho _ List.mem_cons_self e
          · exact ho q (List.mem_cons_of_mem _ hq)
        · rw [List.mem_singleton.mp hq]
          exact List.mem_cons_of_mem _ List.mem_cons_self
    · obtain ⟨V1, o5', v', rfl, d5'⟩ := hJ
      refine ret _ _ _ _ _ F' (news_sub N' fun q hq => ?_) d5' V1
      rcases List.mem_cons.mp hq with rfl | hq
      · exact List.mem_cons_self
      · exact List.mem_cons_of_mem _ (List.mem_cons_of_mem _ (jp.sub q hq))
theorem run_6 : ∀ {w a b c d e f L outer g base h₀ m s E Q P h ak aj i j k v0 vr wns l ks p n rest}, @T92 w a b c d e f L outer g base h₀ m s E Q P h ak aj i j k v0 vr wns l ks p n rest := no_implicit_lambda% (u92.get rfl)
end
end
section -- U11
theorem kw_U11 : True := by
  k_with "o92" => skip
  trivial
section

set_option maxRecDepth 100000 in
theorem u93 : Up 93 := by
  refine u92.step rfl ?_
  k_extra "st"
  iterate 20 k_extra "g"
  intro ts st ab
  k_extra "i0"
  intro B F X N T v1 v2 hdp hun ret
  refine cut_exec (l' := Stmt.Assign [_] _ _) (env' := envOfC (Str.ofString "_law_run") ⟨_, _, _, _, _⟩ L 250 (.ref 249)) rfl rfl ?_
  k_steps
  exact ret _ _ _ _ _ _ _ _ _ (by k_asm) (by k_asm) (by assumption) (by assumption) (by assumption) (by assumption) (by assumption) (by assumption)
theorem run_8 : ∀ {w a b c d e f L outer g base h₀ m s E news Q ab h ts}, @T93 w a b c d e f L outer g base h₀ m s E news Q ab h ts := no_implicit_lambda% (u93.get rfl)
end
end
section -- U12
theorem kw_U12 : True := by
  k_with "getAttr ref" => ((fail_if_success k_extra "o94"); ((k_here; k_dflt (refine' getX ?Fqxb ?Xqxb ?Nqxb ?hmqxb ?hDqxb ?gaqxb ?gtqxb ?osqxb ?hdqxb ?haqxb ?hnqxb ?hlqxb ?hvqxb ?_; (case Fqxb | Xqxb | Nqxb => k_asm); (case hmqxb | hDqxb => k_mem); (case gaqxb | gtqxb => k_is); (case osqxb => first | exact os195 _ | exact os176 _ | exact os207 _); (case hdqxb | haqxb | hnqxb => k_is); (case hlqxb => assumption); (case hvqxb => k_handed); k_whole))))
  k_with "call builtin:isinstance" => ((fail_if_success k_extra "o94"); ((k_here; (with_reducible show wpAny _ _ (call _ [Value.ref _, Value.ref _]) _ _ _); k_dflt (first | (refine' exc_is ?Fqyb ?Xqyb ?Nqyb ?hmqyb ?hDqyb ?eqyb ?_; (case Fqyb | Xqyb | Nqyb => k_asm); (case hmqyb | hDqyb => k_mem); (case eqyb => k_is); k_whole) | (refine' exc_isnt ?Fqyb ?Xqyb ?Nqyb ?hmqyb ?hDqyb ?eqyb ?gaqyb ?gtqyb ?osqyb ?hdqyb ?haqyb ?hnqyb ?htqyb ?mrqyb ?_; (case Fqyb | Xqyb | Nqyb => k_asm); (case hmqyb | hDqyb => k_mem); (case eqyb => kin_no); (case gaqyb | gtqyb => k_is); (case osqyb => first | exact os195 _ | exact os176 _ | exact os207 _); (case hdqyb | haqyb => k_is); (case hnqyb | htqyb | mrqyb => k_is); k_whole)))))
  trivial
section

theorem keepB {x y : Addr × Obj} {l : Led} : ∀ q ∈ x :: l, q ∈ x :: y :: l := by
  intro q hq
  rcases List.mem_cons.mp hq with h | h
  · rw [h]; exact List.mem_cons_self
  · exact List.mem_cons_of_mem _ (List.mem_cons_of_mem _ h)
theorem s1_eq : s1 = [s1.getD 0 default, s1.getD 1 default] := by rfl
theorem s2_eq : s2 = [s2.getD 0 default] := by rfl
set_option maxRecDepth 100000 in
theorem u94 : Up 94 := by
  refine u93.step rfl ?_
  k_extra "st"
  iterate 27 k_extra "g"
  intro msg t2 t1 c sl vs n es D1 e
  k_extra "i0"
  intro B F X N T me mD g1 g2 v1 hdp hun ret
  refine cut_execs (l' := [Stmt.Assign [_] _ _, Stmt.If _ _ _ _]) (env' := envOfC (Str.ofString "_law_run") ⟨_, _, _, _, _⟩ L 250 (.ref 249)) rfl rfl ?_
  k_steps
  exact ret _ _ _ _ (by k_asm) (by k_asm)
theorem run_9a : ∀ {w a b d f g h L outer i base h₀ m s E news Q e j es n vs k c l o p}, @T94 w a b d f g h L outer i base h₀ m s E news Q e j es n vs k c l o p := no_implicit_lambda% (u94.get rfl)
set_option maxRecDepth 100000 in
theorem u95 : Up 95 := by
  refine u94.step rfl ?_
  k_extra "st"
  iterate 28 k_extra "g"
  intro msg t2 t1 c sl vs n es ab D1 e
  k_extra "i0"
  intro B F X N T me mD g1 g2 g3 v1 v2 hdp hun ret
  refine cut_execs (l' := [Stmt.Assign [_] _ _, Stmt.If _ _ _ _]) (env' := envOfC (Str.ofString "_law_run") ⟨_, _, _, _, _⟩ L 250 (.ref 249)) rfl rfl ?_
  k_steps
  have F9 := ‹Fr h₀ L _ (fun y => if y = Str.ofString "told" then _ else if y = Str.ofString "told" then _ else m y)›
  refine ret _ _ _ _ _ F9 (fun y => ?_) (news_sub (by k_asm) keepB)
  by_cases h : y = Str.ofString "told"
  · rw [if_pos h, if_pos h]
  · rw [if_neg h, if_neg h, if_neg h]
theorem run_9b : ∀ {w a b d f g h L outer i base h₀ m s E news Q e j ab es n vs k c l o p}, @T95 w a b d f g h L outer i base h₀ m s E news Q e j ab es n vs k c l o p := no_implicit_lambda% (u95.get rfl)
set_option maxRecDepth 100000 in
theorem u96 : Up 96 := by
  refine u95.step rfl ?_
  k_extra "st"
  iterate 24 k_extra "g"
  intro sl vs n es ab D1 e
  k_extra "i0"
  intro B F X N T me mD g3 v1 v2 hdp hun ret
  refine cut_execs (l' := [Stmt.Assign [_] _ _]) (env' := envOfC (Str.ofString "_law_run") ⟨_, _, _, _, _⟩ L 250 (.ref 249)) rfl rfl ?_
  k_steps
  exact ret _ _ _ _ _ _ (by k_asm) (by k_asm)
theorem run_9c : ∀ {w a b c d f g L outer h base h₀ m s E news Q e i ab es n vs j}, @T96 w a b c d f g L outer h base h₀ m s E news Q e i ab es n vs j := no_implicit_lambda% (u96.get rfl)
end
end
section -- U13
theorem kw_U13 : True := by
  k_with "o94" => skip
  k_with "call ref" => ((fail_if_success k_extra "o95"); ((k_here; (with_reducible show wpAny _ _ (call (Value.ref 240) _ _) _ _ _); refine Stop.at ?_)))
  k_with "subscriptTail Name Constant ref int" => ((fail_if_success k_extra "o95"); ((k_here; (with_reducible show wpAny _ _ (subscriptTail _ _ (Value.ref _) (Value.int _ _)) _ _ _); k_dflt (refine' list_item ?Nqzb ?pqzb ?zqzb ?xqzb ?_; (case Nqzb => k_asm); (case pqzb => k_mem); (case zqzb => decide); (case xqzb => with_reducible assumption); k_whole; (try dsimp only)))))
  trivial
section

theorem told_end {g : Heap} {M : Model} {A : Around} {Q : Unit → Shared → Prop} {s : Shared} {m' : Str → Option Value} {pos : Pos} (F : Fr g L s.heap m') (N : News g L s.heap news)
    (h : ∀ h' v, Fr g L h' (fun x => if x = Str.ofString "refused" then v else m' x) → News g L h' news → Q () { s with heap := h', toks := s.toks + 1 }) :
    wpAny M A (do bindName (envR L) (Str.ofString "refused") .none; unbindBehindTheSuite (envR L) (Str.ofString "refused") pos) Q E s :=
  wpAny_nameGoes_keeps (env := envR L) (by rfl) F.ns (by rfl) fun h' v hn hs => h h' v (F.set hn hs) (N.set hs)
set_option maxRecDepth 100000 in
theorem u97 : Up 97 := by
  refine u96.step rfl ?_
  k_extra "st"
  iterate 34 k_extra "g"
  intro tp tst nj vj o4 o1 ajl aj arow aws atab p s0 wns tns keep D
  k_extra "i0"
  intro B F X N T XB TB KD C Wk0 hs c1 d1 c4 d4 mj hj v1 v2 v3 v4 v5 v6 hdp hun ret1 ret2
  have kp := Wk0.keeps
  have c1' := kp _ c1
  have c4' := kp _ c4
  have mj' := kp _ mj
  refine cut_exec (l' := Stmt.Try _ (_ :: _) _ _ _) (env' := envX (Str.ofString "_law_run") ⟨_, _, _, _, _⟩ L 250 (.ref 249) (runCl L)) rfl rfl ?_
  refine wpAny_Try_except ?_
  k_steps
  refine Stop.go ?_
  refine go_ok B F X N T rfl C Wk0 hs (by omega) (by omega) ?_ ?_
  · intro k j x led' h' tk' k1 k7 ke kl al j5 je jl x1 x6 xe xl F' N' S'
    exact wpAny_execs_nil (wpAny_execs_nil (ret1 k j x led' h' tk' k1 k7 ke kl al j5 je jl x1 x6 xe xl F' N' S'))
  · intro l e Cc D' es n vs sl G led' h' tk' A1 hl hR hF hX hU hS
    refine look_X (A := arR dp un gd L outer) rfl rfl B hF hX hU fun h2 R2 hsm2 => ?_
    have ct157 : ∀ pos, ClassAt PG w (h0.heap_1 w.params) view (looseW view [Str.ofString "UNKNOWN", Str.ofString "_twin_re_1", Str.ofString "_twin_re_2"]) mg mb (envX (Str.ofString "_law_run") runS L 250 (.ref 249) (runCl L)) L (PySem.Expr.Name (Str.ofString "SMTPResponseException") pos) (.ref 157) := fun pos A E Q s g m F X T h => nameX_K F X T (by k_is) h
    have ct137 : ∀ pos, ClassAt PG w (h0.heap_1 w.params) view (looseW view [Str.ofString "UNKNOWN", Str.ofString "_twin_re_1", Str.ofString "_twin_re_2"]) mg mb (envX (Str.ofString "_law_run") runS L 250 (.ref 249) (runCl L)) L (PySem.Expr.Name (Str.ofString "SMTPException") pos) (.ref 137) := fun pos A E Q s g m F X T h => nameX_K F X T (by k_is) h
    have msub : ∀ {a x y : Addr × Obj}, ∀ q ∈ a :: led', q ∈ a :: x :: y :: led' := fun {a x y} q hq => by
      rcases List.mem_cons.mp hq with h | h
      · rw [h]; exact List.mem_cons_self
      · exact List.mem_cons_of_mem _ (List.mem_cons_of_mem _ (List.mem_cons_of_mem _ h))
    rcases hR with ⟨f0, rfl, g3⟩ | ⟨f0, rfl, ⟨t1, g1⟩, ⟨t2, g2⟩, g3⟩ | ⟨f0, rfl, ⟨t1, g1⟩, ⟨t2, g2⟩⟩
    · refine pass_X (cls := .ref 195) (c := .ref 157) rfl B hF R2 hsm2 KD XB TB (ct157 _) rfl (by rfl) ?_
      refine catch_as (cls := .ref 195) (c := .ref 137) rfl rfl B hF R2 hsm2 KD XB TB (ct137 _) rfl (by rfl) rfl rfl fun h3 g' vs3 tk3 F3 N3 B3 X3 T3 KD3 => ?_
      refine cut_execs (l' := s2) (env' := envR L) rfl rfl ?_
      refine run_9c B3 F3 X3 N3 T3 List.mem_cons_self (List.mem_cons_of_mem _ List.mem_cons_self) g3 (if_pos rfl) ((if_neg (by decide)).trans v6) (by omega) (by omega) fun h4 tk4 at_ t3 t1 t2 F4 N4 => ?_
      refine told_end F4 N4 fun h5 v F5 N5 => ?_
      refine ret2 l g' led' h5 _ _ at_ _ A1 hl F5 (news_sub N5 msub) hS B3 X3 T3 KD3 (fun y h1 h2 => (if_neg h2).trans ((if_neg h1).trans (if_neg h2))) ((if_neg (by decide)).trans (if_pos rfl)) ⟨t3, t1, t2, ?_⟩
      rw [f0, if_neg (by decide), if_neg (by decide), Int.mul_zero]
      rfl
    · refine catch_as (cls := .ref 176) (c := .ref 157) rfl rfl B hF R2 hsm2 KD XB TB (ct157 _) rfl (by rfl) rfl rfl fun h3 g' vs3 tk3 F3 N3 B3 X3 T3 KD3 => ?_
      refine cut_execs (l' := s1) (env' := envR L) rfl rfl ?_
      refine run_9b B3 F3 X3 N3 T3 List.mem_cons_self (List.mem_cons_of_mem _ List.mem_cons_self) g1 g2 g3 (if_pos rfl) ((if_neg (by decide)).trans v6) (by omega) (by omega) fun h4 tk4 at_ t3 m4 F4 hm4 N4 => ?_
      refine told_end F4 N4 fun h5 v F5 N5 => ?_
      refine ret2 l g' led' h5 _ _ at_ _ A1 hl F5 (news_sub N5 msub) hS B3 X3 T3 KD3 (fun y h1 h2 => (if_neg h2).trans ((hm4 y).trans ((if_neg h1).trans (if_neg h2)))) ((if_neg (by decide)).trans ((hm4 _).trans (if_pos rfl))) ⟨t3, t1, t2, ?_⟩
      rw [f0, if_pos (by decide), if_pos (by decide), Int.mul_one]
    · refine catch_as (cls := .ref 207) (c := .ref 157) rfl rfl B hF R2 hsm2 KD XB TB (ct157 _) rfl (by rfl) rfl rfl fun h3 g' vs3 tk3 F3 N3 B3 X3 T3 KD3 => ?_
      refine cut_execs (l' := s1) (env' := envR L) rfl rfl ?_
      refine run_9a B3 F3 X3 N3 T3 List.mem_cons_self (List.mem_cons_of_mem _ List.mem_cons_self) g1 g2 (if_pos rfl) (by omega) (by omega) fun h4 tk4 at_ t3 F4 N4 => ?_
      refine told_end F4 N4 fun h5 v F5 N5 => ?_
      refine ret2 l g' led' h5 _ _ at_ _ A1 hl F5 (news_sub N5 msub) hS B3 X3 T3 KD3 (fun y h1 h2 => (if_neg h2).trans ((if_neg h1).trans (if_neg h2))) ((if_neg (by decide)).trans (if_pos rfl)) ⟨t3, t1, t2, ?_⟩
      rw [f0, if_pos (by decide), if_pos (by decide), Int.mul_one]
theorem run_9 : ∀ {w a b c d e f L outer g base h₀ m s E news Q D keep tns wns s0 p atab aws h aj i j k l n tst o}, @T97 w a b c d e f L outer g base h₀ m s E news Q D keep tns wns s0 p atab aws h aj i j k l n tst o := no_implicit_lambda% (u97.get rfl)
end
end
section -- U14
theorem kw_U14 : True := by
  k_with "o95" => skip
  k_with "subscriptTail" => ((fail_if_success k_extra "o96"); ((k_here; (with_reducible show wpAny _ _ (subscriptTail _ _ (Value.ref _) (Value.int _ _)) _ _ _); k_dflt (first | (refine' last_item ?Nq0b ?pq0b ?iq0b ?zq0b ?xq0b ?_; (case Nq0b => k_asm); (case pq0b => k_mem); (case iq0b | zq0b | xq0b => with_reducible assumption); intro _) | (refine' sym_item ?Nq0b ?pq0b ?iq0b ?zq0b ?xq0b ?_; (case Nq0b => k_asm); (case pq0b => k_mem); (case iq0b | zq0b | xq0b => with_reducible assumption); intro _)))))
  k_with "binaryOp Mult ref int" => ((fail_if_success k_extra "o96"); (((k_here; (with_reducible show wpAny _ _ (binaryOp Operator.Mult (Value.ref _) (Value.int (ite _ _ _) _)) _ _ _); k_dflt (refine' mul_bit ?Fq1b ?Nq1b ?pq1b ?_; (case Fq1b | Nq1b => k_asm); (case pq1b => k_mem)); intro _ _ _ _ _ l1 _; (try k_lt l1); (try k_sweep)); (try (revert l1; intro _)))))
  k_with "binaryOp Add ref ref" => ((fail_if_success k_extra "o96"); (((k_here; (with_reducible show wpAny _ _ (binaryOp _ (Value.ref _) (Value.ref _)) _ _ _); k_dflt (refine' kmk_add_ints ?Fq2b ?Nq2b ?aq2b ?bq2b ?iq2b ?jq2b ?_ ?zq2b; (case Fq2b | Nq2b => k_asm); (case aq2b => kmk_list); (case bq2b => kmk_list); (case iq2b | jq2b => with_reducible assumption); (case zq2b => (rw [sizeLine_eq]; omega))); intro _ _ _ _ _ l1 _; (try k_lt l1); (try k_sweep)); (try (revert l1; intro _)))))
  k_with "subscriptTail Name UnaryOp ref int" => ((fail_if_success k_extra "o96"); ((k_here; (with_reducible show wpAny _ _ (subscriptTail _ _ (Value.ref _) (Value.int _ _)) _ _ _); k_dflt (refine' last_item ?Nq3b ?pq3b ?iq3b ?zq3b ?xq3b ?_; (case Nq3b => k_asm); (case pq3b => k_mem); (case iq3b | zq3b | xq3b => with_reducible assumption); intro _))))
  k_with "subscriptTail Name Subscript ref int" => ((fail_if_success k_extra "o96"); ((k_here; (with_reducible show wpAny _ _ (subscriptTail _ _ (Value.ref _) (Value.int _ _)) _ _ _); k_dflt (refine' sym_item ?Nq4b ?pq4b ?iq4b ?zq4b ?xq4b ?_; (case Nq4b => k_asm); (case pq4b => k_mem); (case iq4b | zq4b | xq4b => with_reducible assumption); intro _))))
  trivial
section

set_option maxRecDepth 100000 in
theorem u98 : Up 98 := by
  refine u97.step rfl ?_
  k_extra "st"
  iterate 19 k_extra "g"
  intro ts s0
  k_extra "i0"
  intro B F X N T v1 hdp hun ret
  refine cut_exec (l' := Stmt.Assign [_] _ _) (env' := envOfC (Str.ofString "_law_run") ⟨_, _, _, _, _⟩ L 250 (.ref 249)) rfl rfl ?_
  k_steps
  refine ret _ _ _ _ _ (by k_asm) (fun y h1 h2 => ?_) rfl rfl (news_sub (by k_asm) sub_skip1)
  exact (if_neg h1).trans (if_neg h2)
theorem run_10 : ∀ {w a b c d e f L outer g base h₀ m s E news Q s0 ts}, @T98 w a b c d e f L outer g base h₀ m s E news Q s0 ts := no_implicit_lambda% (u98.get rfl)
end
end
section -- U15
theorem kw_U15 : True := by
  k_with "o96" => skip
  k_with "subscriptTail" => ((fail_if_success k_extra "o97"); ((k_here; (with_reducible show wpAny _ _ (subscriptTail _ _ (Value.ref _) (Value.int _ _)) _ _ _); k_dflt (first | (refine' last_item ?Nq0b ?pq0b ?iq0b ?zq0b ?xq0b ?_; (case Nq0b => k_asm); (case pq0b => k_mem); (case iq0b | zq0b | xq0b => with_reducible assumption); intro _) | (refine' sym_item ?Nq0b ?pq0b ?iq0b ?zq0b ?xq0b ?_; (case Nq0b => k_asm); (case pq0b => k_mem); (case iq0b | zq0b | xq0b => with_reducible assumption); intro _)))))
  k_with "binaryOp Mult ref int" => ((fail_if_success k_extra "o97"); (((k_here; (with_reducible show wpAny _ _ (binaryOp Operator.Mult (Value.ref _) (Value.int (ite _ _ _) _)) _ _ _); k_dflt (refine' mul_bit ?Fq1b ?Nq1b ?pq1b ?_; (case Fq1b | Nq1b => k_asm); (case pq1b => k_mem)); intro _ _ _ _ _ l1 _; (try k_lt l1); (try k_sweep)); (try (revert l1; intro _)))))
  k_with "binaryOp Add ref ref" => ((fail_if_success k_extra "o97"); (((k_here; (with_reducible show wpAny _ _ (binaryOp _ (Value.ref _) (Value.ref _)) _ _ _); k_dflt (refine' kmk_add_ints ?Fq2b ?Nq2b ?aq2b ?bq2b ?iq2b ?jq2b ?_ ?zq2b; (case Fq2b | Nq2b => k_asm); (case aq2b => kmk_list); (case bq2b => kmk_list); (case iq2b | jq2b => with_reducible assumption); (case zq2b => (rw [sizeLine_eq]; omega))); intro _ _ _ _ _ l1 _; (try k_lt l1); (try k_sweep)); (try (revert l1; intro _)))))
  k_with "subscriptTail Name UnaryOp ref int" => ((fail_if_success k_extra "o97"); ((k_here; (with_reducible show wpAny _ _ (subscriptTail _ _ (Value.ref _) (Value.int _ _)) _ _ _); k_dflt (refine' last_item ?Nq3b ?pq3b ?iq3b ?zq3b ?xq3b ?_; (case Nq3b => k_asm); (case pq3b => k_mem); (case iq3b | zq3b | xq3b => with_reducible assumption); intro _))))
  k_with "subscriptTail Name Subscript ref int" => ((fail_if_success k_extra "o97"); ((k_here; (with_reducible show wpAny _ _ (subscriptTail _ _ (Value.ref _) (Value.int _ _)) _ _ _); k_dflt (refine' sym_item ?Nq4b ?pq4b ?iq4b ?zq4b ?xq4b ?_; (case Nq4b => k_asm); (case pq4b => k_mem); (case iq4b | zq4b | xq4b => with_reducible assumption); intro _))))
  trivial
section

theorem keepC {x y z : Addr × Obj} {l : Led} : ∀ q ∈ x :: l, q ∈ x :: y :: z :: l := by
  intro q hq
  rcases List.mem_cons.mp hq with h | h
  · rw [h]; exact List.mem_cons_self
  · exact List.mem_cons_of_mem _ (List.mem_cons_of_mem _ (List.mem_cons_of_mem _ h))
set_option maxRecDepth 100000 in
theorem u99 : Up 99 := by
  refine u98.step rfl ?_
  k_extra "st"
  iterate 27 k_extra "g"
  intro x p nn nr tns rs vn vr an ar
  k_extra "i0"
  intro B F X N T mr ir lr hp hp6 mn in_ hx v1 v2 hdp hun ret
  have hl1 : (if Int.fmod x 7 < 6 then [Int.fmod x 7] else []).length ≤ 1 := by split <;> simp
  refine cut_exec (l' := Stmt.Assign [_] _ _) (env' := envOfC (Str.ofString "_law_run") ⟨_, _, _, _, _⟩ L 250 (.ref 249)) rfl rfl ?_
  k_steps
  exact ret _ _ _ _ _ (by k_asm) (news_sub (by k_asm) keepC) (allLt_mem (by assumption)) (by assumption)
theorem run_11b : ∀ {w a b c d e f L outer g base h₀ m s E news Q h i vr j k tns l n p x}, @T99 w a b c d e f L outer g base h₀ m s E news Q h i vr j k tns l n p x := no_implicit_lambda% (u99.get rfl)
set_option maxRecDepth 100000 in
theorem u100 : Up 100 := by
  refine u99.step rfl ?_
  k_extra "st"
  iterate 25 k_extra "g"
  intro s0 nn nr tns vn vr an ar
  k_extra "i0"
  intro B F X N T mr ir h0 mn in_ lt v1 v2 hE hdp hun ret
  refine cut_exec (l' := Stmt.For _ _ _ _ _) (env' := envX (Str.ofString "_law_run") ⟨_, _, _, _, _⟩ L 250 (.ref 249) (runCl L)) rfl rfl ?_
  refine For_turns F ?_ (by intro _; rfl) hE
  k_steps
  refine range_J (n := 6) (by rfl) (by k_asm) (by k_asm) (by assumption) (by first | decide | rfl) (by first | rfl | decide) (J11 tns s0 m news) ⟨fun q h => h, fun y _ _ => rfl, ar, vr, nr, mr, ir, v1⟩ (fun I i t m₁ news₁ h₁ tk₁ oI hi hJ hc ho F₁ N₁ => ?_) (fun h' tk m' news' F' N' hJ => ?_)
  · obtain ⟨sub, hm, ar1, vr1, nr1, mr1, ir1, w1⟩ := hJ
    obtain ⟨a, b, c, d⟩ := rowN_ok (tns := tns) h0 i
    obtain ⟨x, hx⟩ : ∃ x, tns[((rowN tns s0 i).getD ((rowN tns s0 i).length - 1) 0).toNat]? = some x := ⟨_, List.getElem?_eq_getElem (by omega)⟩
    have ex : tns.getD ((rowN tns s0 i).getD ((rowN tns s0 i).length - 1) 0).toNat 0 = x := by rw [List.getD_eq_getElem?_getD, hx]; rfl
    refine assign_local F₁ N₁ (by rfl) (by rfl) fun h₂ tk₂ F₂ N₂ => ?_
    refine cut_execs (l' := [forB11.getD 0 default]) (env' := envR L) rfl rfl ?_
    refine wpAny_execs_cons (run_11b (p := (rowN tns s0 i).getD ((rowN tns s0 i).length - 1) 0) B F₂ X N₂ T (List.mem_cons_of_mem _ mr1) ir1 ⟨a, by omega⟩ rfl ⟨c, by omega⟩ (List.mem_cons_of_mem _ (sub _ mn)) in_ hx ((if_neg (by decide)).trans w1) ((if_neg (by decide)).trans ((hm _ (by decide) (by decide)).trans v2)) hdp hun fun h' tk' D ws n F' N' lD hI => ?_)
    refine wpAny_execs_nil ⟨h', tk', _, (D, W.listOf (List.toArray ws) n) :: news₁, rfl, F', news_sub N' mem_swap2, fun q hq => ?_, fun q hq => absurd hq List.not_mem_nil, fun q hq => List.mem_cons_of_mem _ (sub q hq), fun y h1 h2 => (if_neg h1).trans ((if_neg h2).trans (hm y h1 h2)), D, ws, n, List.mem_cons_self, ?_, if_pos rfl⟩
    · rcases List.mem_cons.mp hq with rfl | hq
      · exact Nat.ne_of_gt (lD _ List.mem_cons_self)
      · exact ho q hq
    · rw [rowN, ex]
      exact hI
  · obtain ⟨sub, hm, ar1, vr1, nr1, mr1, ir1, w1⟩ := hJ
    exact ret _ _ _ _ _ _ _ F' N' sub hm mr1 ir1 w1
theorem run_11 : ∀ {w a b c d e f L outer g base h₀ m s E news Q h i vr j tns k l s0}, @T100 w a b c d e f L outer g base h₀ m s E news Q h i vr j tns k l s0 := no_implicit_lambda% (u100.get rfl)
end
end
section -- U16
theorem kw_U16 : True := by
  k_with "o97" => skip
  k_with "call ref" => ((fail_if_success k_extra "o98"); ((k_here; (with_reducible show wpAny _ _ (call (Value.ref 245) _ _) _ _ _); refine Stop.at ?_)))
  trivial
section

set_option maxRecDepth 100000 in
theorem run_12 {ar : Addr} {S Fs : List Int} {a b : Int}
    (B : Below A₀ base outer h₀) (F : Fr h₀ L s.heap m) (X : (h0.heap_1 w.params).In h₀) (N : News h₀ L s.heap news) (T : TopX mean mg mb h₀)
    (v1 : m (Str.ofString "row") = some (.ref ar)) (hc : WaysC w dp un gd L outer h₀ m news ar S Fs a b)
    (hdp : dp + 8 < recursionLimit) (hun : un + 80 < cLine)
    (ret : ∀ h' tk' ls lf ll ws wf wl m', IntsAre ws S → IntsAre wf Fs → IntsAre wl [a, b] → Fr h₀ L h' m' → (∀ y, y ≠ Str.ofString "slow" → y ≠ Str.ofString "fast" → y ≠ Str.ofString "last" → m' y = m y) →
      m' (Str.ofString "slow") = some (.ref ls) → m' (Str.ofString "fast") = some (.ref lf) → m' (Str.ofString "last") = some (.ref ll) → News h₀ L h' ((ll, W.listOf (List.toArray wl) 0) :: (lf, W.listOf (List.toArray wf) 0) :: (ls, W.listOf (List.toArray ws) 0) :: news) → Q .next { s with heap := h', toks := tk' }) :
    wpAny (model PG w) (arR dp un gd L outer) (exec (runB.getD 12 default) (envR L)) Q E s := by
  refine cut_exec (l' := Stmt.Assign [_] _ _) (env' := envOfC (Str.ofString "_law_run") ⟨_, _, _, _, _⟩ L 250 (.ref 249)) rfl rfl ?_
  k_steps
  refine Stop.go ?_
  refine hc _ _ _ (by k_asm) (by k_asm) fun h' tk' T1 ls lf ll ws wf wl i1 i2 i3 F' N' => ?_
  unfold Three at N'
  k_steps
  refine ret _ _ _ _ _ _ _ _ _ i1 i2 i3 (by k_asm) (fun y h1 h2 h3 => ?_) rfl rfl rfl (news_sub (by k_asm) sub_skip1)
  exact (if_neg h3).trans ((if_neg h2).trans (if_neg h1))
end
end
section -- U17
theorem kw_U17 : True := by
  k_with "o98" => skip
  k_with "subscriptTail" => ((fail_if_success k_extra "o99"); ((k_here; (with_reducible show wpAny _ _ (subscriptTail _ _ (Value.ref _) (Value.int _ _)) _ _ _); k_dflt (first | (refine' last_item ?Nq0b ?pq0b ?iq0b ?zq0b ?xq0b ?_; (case Nq0b => k_asm); (case pq0b => k_mem); (case iq0b | zq0b | xq0b => with_reducible assumption); intro _) | (refine' sym_item ?Nq0b ?pq0b ?iq0b ?zq0b ?xq0b ?_; (case Nq0b => k_asm); (case pq0b => k_mem); (case iq0b | zq0b | xq0b => with_reducible assumption); intro _)))))
  k_with "binaryOp Mult ref int" => ((fail_if_success k_extra "o99"); (((k_here; (with_reducible show wpAny _ _ (binaryOp Operator.Mult (Value.ref _) (Value.int (ite _ _ _) _)) _ _ _); k_dflt (refine' mul_bit ?Fq1b ?Nq1b ?pq1b ?_; (case Fq1b | Nq1b => k_asm); (case pq1b => k_mem)); intro _ _ _ _ _ l1 _; (try k_lt l1); (try k_sweep)); (try (revert l1; intro _)))))
  k_with "binaryOp Add ref ref" => ((fail_if_success k_extra "o99"); (((k_here; (with_reducible show wpAny _ _ (binaryOp _ (Value.ref _) (Value.ref _)) _ _ _); k_dflt (refine' kmk_add_ints ?Fq2b ?Nq2b ?aq2b ?bq2b ?iq2b ?jq2b ?_ ?zq2b; (case Fq2b | Nq2b => k_asm); (case aq2b => kmk_list); (case bq2b => kmk_list); (case iq2b | jq2b => with_reducible assumption); (case zq2b => (rw [sizeLine_eq]; omega))); intro _ _ _ _ _ l1 _; (try k_lt l1); (try k_sweep)); (try (revert l1; intro _)))))
  k_with "subscriptTail Name UnaryOp ref int" => ((fail_if_success k_extra "o99"); ((k_here; (with_reducible show wpAny _ _ (subscriptTail _ _ (Value.ref _) (Value.int _ _)) _ _ _); k_dflt (refine' last_item ?Nq3b ?pq3b ?iq3b ?zq3b ?xq3b ?_; (case Nq3b => k_asm); (case pq3b => k_mem); (case iq3b | zq3b | xq3b => with_reducible assumption); intro _))))
  k_with "subscriptTail Name Subscript ref int" => ((fail_if_success k_extra "o99"); ((k_here; (with_reducible show wpAny _ _ (subscriptTail _ _ (Value.ref _) (Value.int _ _)) _ _ _); k_dflt (refine' sym_item ?Nq4b ?pq4b ?iq4b ?zq4b ?xq4b ?_; (case Nq4b => k_asm); (case pq4b => k_mem); (case iq4b | zq4b | xq4b => with_reducible assumption); intro _))))
  trivial
section

set_option maxRecDepth 100000 in
theorem run_13a {ar : Addr} {vr : List Value} {rs : List Int} {nr : Nat}
    (B : Below A₀ base outer h₀) (F : Fr h₀ L s.heap m) (X : (h0.heap_1 w.params).In h₀) (N : News h₀ L s.heap news) (T : TopX mean mg mb h₀)
    (mr : (ar, W.listOf vr.toArray nr) ∈ news) (ir : IntsAre vr rs) (lr : rs.length = 7) (v1 : m (Str.ofString "row") = some (.ref ar))
    (hdp : dp + 8 < recursionLimit) (hun : un + 80 < cLine)
    (ret : ∀ h' tk', Fr h₀ L h' m → News h₀ L h' news → Q .next { s with heap := h', toks := tk' }) :
    wpAny (model PG w) (arR dp un gd L outer) (exec (runB.getD 13 default) (envR L)) Q E s := by
  refine cut_exec (l' := Stmt.If _ _ _ _) (env' := envOfC (Str.ofString "_law_run") ⟨_, _, _, _, _⟩ L 250 (.ref 249)) rfl rfl ?_
  k_steps
  exact ret _ _ (by k_asm) (by k_asm)
set_option maxRecDepth 100000 in
theorem u101 : Up 101 := by
  refine u100.step rfl ?_
  k_extra "st"
  iterate 22 k_extra "g"
  intro p nr rs vr ar
  k_extra "i0"
  intro B F X N T mr ir lr l7 hp hp6 v1 hdp hun ret
  refine cut_exec (l' := Stmt.If _ _ _ _) (env' := envOfC (Str.ofString "_law_run") ⟨_, _, _, _, _⟩ L 250 (.ref 249)) rfl rfl ?_
  k_steps
  exact ret _ _ _ _ (by k_asm) (by k_asm) (told_due _ _ _ _)
theorem run_13b : ∀ {w a b c d e f L outer g base h₀ m s E news Q h vr i j p}, @T101 w a b c d e f L outer g base h₀ m s E news Q h vr i j p := no_implicit_lambda% (u101.get rfl)
end
end
section -- U4
theorem kw_U4 : True := by
  k_with "o99" => skip
  k_with "compareOp NotEq ref ref" => ((fail_if_success k_extra "o100"); ((k_here; k_dflt (refine' ne_ints_same ?Nq5b ?aq5b ?bq5b ?iq5b ?jq5b ?uq5b ?_; (case Nq5b => k_asm); (case aq5b | bq5b => k_mem); (case iq5b | jq5b => assumption); (case uq5b => ktr_units)))))
  trivial
section
variable {prog : Program} {w : World} {A : Around} {E : Value → Shared → Prop} {s : Shared} {h₀ : Heap} {L : Addr} {news : Led}
theorem ne_ints_same {a b : Addr} {xs ys : List Value} {ns : List Int} {n1 n2 : Nat} {Q : Value → Shared → Prop} (N : News h₀ L s.heap news) (ha : (a, W.listOf xs.toArray n1) ∈ news) (hb : (b, W.listOf ys.toArray n2) ∈ news) (hi : IntsAre xs ns) (hj : IntsAre ys ns) (hu : A.units + 64 < cLine) (h : Q (.bool false) s) :
    wpAny (model prog w) A (compareOp .NotEq (.ref a) (.ref b)) Q E s :=
  ke_ne_ints (N.isList ha) (N.isList hb) hi hj hu (by simpa using h)
end
section

set_option maxRecDepth 100000 in
theorem run_4 {an at_ : Addr} {vs vt : List Value} {ns : List Int} {nc nt : Nat}
    (B : Below A₀ base outer h₀) (F : Fr h₀ L s.heap m) (X : (h0.heap_1 w.params).In h₀) (N : News h₀ L s.heap news) (T : TopX mean mg mb h₀)
    (mn : (an, W.listOf vs.toArray nc) ∈ news) (hi : IntsAre vs ns) (v1 : m (Str.ofString "numbers") = some (.ref an))
    (mt : (at_, W.listOf vt.toArray nt) ∈ news) (ht : IntsAre vt ns) (v2 : m (Str.ofString "table") = some (.ref at_))
    (hdp : dp + 8 < recursionLimit) (hun : un + 80 < cLine)
    (ret : ∀ h' tk', Fr h₀ L h' m → News h₀ L h' news → Q .next { s with heap := h', toks := tk' }) :
    wpAny (model PG w) (arR dp un gd L outer) (exec (runB.getD 4 default) (envR L)) Q E s := by
  refine cut_exec (l' := Stmt.If _ _ _ _) (env' := envOfC (Str.ofString "_law_run") ⟨_, _, _, _, _⟩ L 250 (.ref 249)) rfl rfl ?_
  k_steps
  exact ret _ _ (by k_asm) (by k_asm)
end
end
section -- U18
theorem kw_U18 : True := by
  k_with "o100" => skip
  k_with "compareOp NotEq ref ref" => ((fail_if_success k_extra "o101"); ((k_here; k_dflt (first | (refine' ne_same ?Nq6b ?aq6b ?bq6b ?iq6b ?uq6b ?_; (case Nq6b => k_asm); (case aq6b | bq6b => k_mem); (case iq6b => assumption); (case uq6b => ktr_units)) | (refine' ne_ints_same ?Nq6b ?aq6b ?bq6b ?iq6b ?jq6b ?uq6b ?_; (case Nq6b => k_asm); (case aq6b | bq6b => k_mem); (case iq6b => exact IntsAre.cons _ _ (.cons _ _ .nil)); (case jq6b => first | assumption | exact IntsAre.cons _ _ (.cons _ _ .nil)); (case uq6b => ktr_units))))))
  trivial
section

set_option maxRecDepth 100000 in
theorem u102 : Up 102 := by
  refine u101.step rfl ?_
  k_extra "st"
  iterate 45 k_extra "g"
  intro t3 t2 t1 t0 p1 p0 hs ts vl vf vs nf ns nt n4 n3 n2 n1 its2 its1 ow all alf als adt ad at_ D
  k_extra "i0"
  intro B F X N T m1 m2 hsm mw hw mat mdt ms is mf if_ ml il zs zh v1 v2 v3 v4 v5 v6 hdp hun ret
  refine cut_exec (l' := Stmt.If _ _ _ _) (env' := envOfC (Str.ofString "_law_run") ⟨_, _, _, _, _⟩ L 250 (.ref 249)) rfl rfl ?_
  k_steps
  exact ret _ _ (by k_asm) (news_sub (by k_asm) sub_skip1)
theorem run_14 : ∀ {w a b c d e f L outer g base h₀ m s E news Q D h ad i j k l ow n o p q r t u ns v vs x y ts hs p0 p1 z a' b' c'}, @T102 w a b c d e f L outer g base h₀ m s E news Q D h ad i j k l ow n o p q r t u ns v vs x y ts hs p0 p1 z a' b' c' := no_implicit_lambda% (u102.get rfl)
end
end
section -- U21
theorem kw_U21 : True := by
  k_with "o101" => skip
  k_with "call ref" => ((fail_if_success k_extra "o102"); ((k_here; (with_reducible show wpAny _ _ (call (Value.ref 68) _ _) _ _ _); refine Stop.at ?_)))
  trivial
section

set_option maxRecDepth 100000 in
theorem run_16 {it ax : Addr} {i n : Nat} {its : Array Value} {o2 : Obj} {rest : Led}
    (B : Below A₀ base outer h₀) (F : Fr h₀ L s.heap m) (X : (h0.heap_1 w.params).In h₀) (N : News h₀ L s.heap ((it, litObj ax i) :: rest)) (T : TopX mean mg mb h₀)
    (XB : (h0.heap_1 w.params).In base) (TB : TopX mean mg mb base) (KD : KtsDicts (outer.filterMap (·.frame)) h₀)
    (hr : ∀ q ∈ rest, q.1 ≠ it) (hm : (ax, W.listOf its n) ∈ rest) (hx : its[i]? = none) (mc2 : (L + 1 + 1, o2) ∈ rest) (d2 : o2.data = .cell (some (.ref it)))
    (hdp : dp + 20 < recursionLimit) (hun : un + 200 < cLine)
    (ret : ∀ s', Kept base s s' → Q (.ret (.bool true)) s') :
    wpAny (model PG w) (arR dp un gd L outer) (exec (runB.getD 16 default) (envR L)) Q E s := by
  refine cut_exec (l' := Stmt.Try _ (_ :: _) _ _ _) (env' := envX (Str.ofString "_law_run") ⟨_, _, _, _, _⟩ L 250 (.ref 249) (runCl L)) rfl rfl ?_
  refine wpAny_Try_except ?_
  k_steps
  refine Stop.go ?_
  refine parse_stop B F X N T rfl hr hm hx (by omega) (by omega) fun e vs nw G h' tk' hF hX hU => ?_
  refine look_X (A := arR dp un gd L outer) rfl rfl B hF hX hU fun h2 R2 hsm2 => ?_
  have ct : ∀ pos, ClassAt PG w (h0.heap_1 w.params) view (looseW view [Str.ofString "UNKNOWN", Str.ofString "_twin_re_1", Str.ofString "_twin_re_2"]) mg mb (envX (Str.ofString "_law_run") runS L 250 (.ref 249) (runCl L)) L (PySem.Expr.Name (Str.ofString "StopIteration") pos) (.type "StopIteration") := fun pos A E Q s g m F X T h => nameX_B F X T (by k_is) (by kernel_rfl) (by decide) h
  refine catch_plain (cls := .none) rfl B hF R2 hsm2 KD XB TB (ct _) (fun X' hT => ?_) fun s'' hkp => ?_
  · exact exm_one (cls := .type "StopIteration") X' hT (by rfl)
  · k_steps
    exact ret _ ⟨hkp.1, hkp.2.1, hkp.2.2⟩
end
end
section -- U19
theorem kw_U19 : True := by
  k_with "o102" => skip
  k_with "call builtin:list.count" => ((fail_if_success k_extra "o103"); ((k_here; (with_reducible show wpAny _ _ (call (Value.builtin _) [Value.ref _, Value.int _ _]) _ _ _); k_dflt (refine' count_in ?Nq7b ?mq7b ?iq7b ?_; (case Nq7b => k_asm); (case mq7b => k_mem); (case iq7b => with_reducible assumption); intro _ _))))
  k_with "getMethod ref" => ((fail_if_success k_extra "o103"); ((k_here; (with_reducible show wpAny _ _ (getMethod (Value.ref _) (PySem.Str.ofString "count") _) _ _ _); k_dflt (refine' kf_method ?Nq8b ?mq8b PySem.F.slot_list_count PySem.F.type_list_count ?_; (case Nq8b => k_asm); (case mq8b => k_mem)))))
  k_with "call type:dict" => ((fail_if_success k_extra "o103"); ((k_here; (with_reducible show wpAny _ _ (call (Value.type "dict") [Value.ref _]) _ _ _); refine Stop.at ?_)))
  trivial
theorem any_count {ns : List Int} {k : Int} {b : Bool} (h : ns.any (· == k) = b) : b = true ↔ 0 < ns.count k := by
  subst h
  rw [List.any_eq_true, List.count_pos_iff]
  constructor
  · rintro ⟨x, hx, e⟩
    rw [← eq_of_beq e]; exact hx
  · intro h
    exact ⟨k, h, by simp⟩
section

set_option maxRecDepth 100000 in
theorem u103 : Up 103 := by
  refine u102.step rfl ?_
  k_extra "st"
  iterate 28 k_extra "g"
  intro tk3 k o3 nf ns hs ts vf vs alf als
  k_extra "i0"
  intro B F X N T ms is mf if_ mk d3 v5 v6 hdp hun ret
  refine cut_exec (l' := Stmt.Assign [_] _ _) (env' := envOfC (Str.ofString "_law_run") ⟨_, _, _, _, _⟩ L 250 (.ref 249)) rfl rfl ?_
  k_steps
  refine Stop.go ?_
  rename_i DD h9 F9 N9 a1 a2 a3
  refine src_tuple (by rfl) F9 N9 List.mem_cons_self rfl rfl fun I St Md g S => ?_
  generalize hled : (DD, _) :: _ :: _ :: news = led at N9 S
  have up : ∀ q ∈ news, q ∈ led := fun q hq => by rw [← hled]; exact List.mem_cons_of_mem _ (List.mem_cons_of_mem _ (List.mem_cons_of_mem _ hq))
  refine srcj_test2 (a := Str.ofString "one") (b := Str.ofString "way") (by rfl) (by rfl) (by rfl) (by rfl) (by decide) (S _) (fun i x y => WayP news ts hs i x y) (fun i ys nw => All3 (i ≤ 2) (∀ q ∈ led, q ∈ nw) (∃ ps, CallL nw ys ps ∧ CallersAre ps (callsI ts hs k i))) ?_ ⟨by decide, fun q h => h, [], .nil, .nil⟩ ?_ ?_ ?_
  · rintro i v h ys nw hv ⟨_, hsub, _⟩ hN
    subst hled
    rcases i with _ | _ | i
    · obtain rfl := Option.some.inj (show some _ = some v from hv)
      have z := hN _ (hsub _ (List.mem_cons_of_mem _ (List.mem_cons_of_mem _ List.mem_cons_self)))
      exact ⟨_, _, _, rfl, ⟨_, z.1, rfl, _, rfl⟩, false, _, als, vs, ns, ts, rfl, rfl, rfl, ms, is, rfl⟩
    · obtain rfl := Option.some.inj (show some _ = some v from hv)
      have z := hN _ (hsub _ (List.mem_cons_of_mem _ List.mem_cons_self))
      exact ⟨_, _, _, rfl, ⟨_, z.1, rfl, _, rfl⟩, true, _, alf, vf, nf, hs, rfl, rfl, rfl, mf, if_, rfl⟩
    · exact absurd hv (by simp)
  · rintro i ys nw ⟨i2, _, ps, h, hc⟩
    have e1 := callers_len hc
    have e2 : ∀ j, (callsI ts hs k j).length ≤ j := by
      intro j
      induction j with
      | zero => exact Nat.le_refl _
      | succ j ih =>
        rw [callsI, List.length_append]
        have : (partC ts hs k (decide (1 ≤ j))).length ≤ 1 := by unfold partC; split <;> simp
        omega
    have e3 := e2 i
    rw [sizeLine_eq, h.len]
    omega
  · rintro i x y C D h₁ tk₁ ys mC oC nw tl E' hin ⟨b, t, aw, vw, nw', wns, hib, rfl, rfl, mw, iw, hw⟩ ⟨i2, hsub, ps, hcl, hca⟩ e1 e2 hC ho hCD F₁ N₁ htl hlv9
    have mw' : (aw, W.listOf vw.toArray nw') ∈ nw ++ tl := List.mem_append_left _ (hsub _ (up _ mw))
    have mk' : (L + 1 + 1 + 1, o3) ∈ nw ++ tl := List.mem_append_left _ (hsub _ (up _ mk))
    generalize hrt : nw ++ tl = rt at mw' mk'
    rw [hrt] at N₁
    dsimp only
    k_steps
    rename_i bb hbb
    have hpc : callsI ts hs k (i + 1) = callsI ts hs k i ++ (if bb = true then [(letter b, ((wns.count k : Nat) : Int))] else []) := by
      have e : decide (1 ≤ i) = b := by subst hib; cases b <;> rfl
      rw [callsI, e, partC, ← hw]
      congr 1
      by_cases hc : bb = true
      · rw [if_pos ((any_count hbb).mp hc), if_pos hc]
      · rw [if_neg (fun h => hc ((any_count hbb).mpr h)), if_neg hc]
    have hi2 : i + 1 ≤ 2 := by subst hib; cases b <;> decide
    refine TestQ.of (fun hb => ?_) fun hb => ?_
    · rw [if_pos hb] at hpc
      k_steps
      rename_i TT h8 F8 N8 l8a l8b l8
      subst hrt
      refine ⟨_, _, _, _, _, rfl, F8, hC, news_sub N8 keep0, OffCD.push ho hlv9.1 l8a l8b l8, hi2, fun q hq => List.mem_cons_of_mem _ (hsub q hq), _, (hcl.mono fun q hq => List.mem_cons_of_mem _ hq).app List.mem_cons_self, ?_⟩
      rw [hpc]
      exact callers_app hca
    · rw [if_neg (by rw [hb]; decide), List.append_nil] at hpc
      subst hrt
      exact ⟨_, _, _, _, _, rfl, F₁, hC, N₁, ho, hi2, hsub, ps, hcl, hpc ▸ hca⟩
  · rintro ys nw ⟨_, hsub, ps, hcl, hca⟩
    k_steps
    refine Stop.go ?_
    have hca2 : CallersAre ps (callsI ts hs k 2) := hca
    have c2 := callsI_two ts hs k
    have lps := callers_len hca2
    refine dict_pairs (knd := strKind PG w) (ps := ps) (by rfl) (by k_asm) (by k_asm) (Top.nolimit (by k_asm)) List.mem_cons_self (fun i v hv => ?_) hcl.len (by rw [callers_keys hca2]; exact c2.1.nodup) (by omega) fun d h' tk o F' N' lt lo hd => ?_
    · obtain ⟨T1, t, nT, x, y, rfl, h1, h2⟩ := hcl.tup i v hv
      exact ⟨T1, _, _, y, nT, rfl, List.mem_cons_of_mem _ h2, strKind_is _ _ _ _, h1⟩
    · k_steps
      refine ret _ _ _ _ _ (by k_asm) (news_sub (by k_asm) fun q hq => ?_) lo (fun q hq => lt q (List.mem_cons_of_mem _ (hsub q (up q hq)))) hd hca2
      rcases List.mem_cons.mp hq with h | hq
      · rw [h]; exact List.mem_cons_self
      · exact List.mem_cons_of_mem _ (List.mem_cons_of_mem _ (hsub q (up q hq)))
theorem run_15a : ∀ {w a b c d e f L outer g base h₀ m s E news Q h i vs j ts hs ns l n k o}, @T103 w a b c d e f L outer g base h₀ m s E news Q h i vs j ts hs ns l n k o := no_implicit_lambda% (u103.get rfl)
end
end
section -- U20
theorem kw_U20 : True := by
  k_with "o103" => skip
  k_with "call builtin:list.count" => ((fail_if_success k_extra "o104"); ((k_here; (with_reducible show wpAny _ _ (call (Value.builtin _) [Value.ref _, Value.int _ _]) _ _ _); k_dflt (refine' count_in ?Nq7b ?mq7b ?iq7b ?_; (case Nq7b => k_asm); (case mq7b => k_mem); (case iq7b => with_reducible assumption); intro _ _))))
  k_with "getMethod ref" => ((fail_if_success k_extra "o104"); ((k_here; (with_reducible show wpAny _ _ (getMethod (Value.ref _) (PySem.Str.ofString "count") _) _ _ _); k_dflt (refine' kf_method ?Nq8b ?mq8b PySem.F.slot_list_count PySem.F.type_list_count ?_; (case Nq8b => k_asm); (case mq8b => k_mem)))))
  k_with "subscriptTail Name UnaryOp ref int" => ((fail_if_success k_extra "o104"); ((k_here; (with_reducible show wpAny _ _ (subscriptTail _ _ (Value.ref _) (Value.int _ _)) _ _ _); k_dflt (refine' last_item ?Nq3b ?pq3b ?iq3b ?zq3b ?xq3b ?_; (case Nq3b => k_asm); (case pq3b => k_mem); (case iq3b | zq3b | xq3b => with_reducible assumption); intro _))))
  k_with "compareOp NotEq ref ref" => ((fail_if_success k_extra "o104"); ((k_here; k_dflt (first | (refine' ne_same ?Nq9b ?aq9b ?bq9b ?iq9b ?uq9b ?_; (case Nq9b => k_asm); (case aq9b | bq9b => k_mem); (case iq9b => exact SameL.nil); (case uq9b => ktr_units)) | (refine' ne_size ?Nq9b ?aq9b ?bq9b ?iq9b ?uq9b ?_; (case Nq9b => k_asm); (case aq9b | bq9b => k_mem); (case iq9b => assumption); (case uq9b => ktr_units))))))
  trivial
section

set_option maxRecDepth 100000 in
theorem u104 : Up 104 := by
  refine u103.step rfl ?_
  k_extra "st"
  iterate 30 k_extra "g"
  intro tk3 k o3 nd nf ns hs ts vf vs ad alf als
  k_extra "i0"
  intro B F X N T ms is mf if_ mk d3 md v5 v6 v7 hdp hun ret
  refine cut_exec (l' := Stmt.Assign [_] _ _) (env' := envOfC (Str.ofString "_law_run") ⟨_, _, _, _, _⟩ L 250 (.ref 249)) rfl rfl ?_
  k_steps
  refine ret _ _ _ _ _ (by k_asm) (fun y h1 h2 => ?_) rfl rfl (news_sub (by k_asm) fun q hq => List.mem_cons_of_mem _ (List.mem_cons_of_mem _ hq))
  exact (if_neg h1).trans (if_neg h2)
theorem run_15b0 : ∀ {w a b c d e f L outer g base h₀ m s E news Q h i ad vs j ts hs ns l n o k p}, @T104 w a b c d e f L outer g base h₀ m s E news Q h i ad vs j ts hs ns l n o k p := no_implicit_lambda% (u104.get rfl)
set_option maxRecDepth 100000 in
theorem u105 : Up 105 := by
  refine u104.step rfl ?_
  k_extra "st"
  iterate 36 k_extra "g"
  intro its tk3 p k o3 nr nd nf ns rs hs ts vr vf vs ar ad alf als
  k_extra "i0"
  intro B F X N T ms is mf if_ mk d3 md hits mr ir lr hp v5 v6 v7 v8 hdp hun ret
  refine cut_exec (l' := Stmt.Assign [_] _ _) (env' := envOfC (Str.ofString "_law_run") ⟨_, _, _, _, _⟩ L 250 (.ref 249)) rfl rfl ?_
  k_steps
  have e9 : (if (p == k) = true then (1 : Int) else 0) = if k = p then 1 else 0 := by
    by_cases h : k = p
    · subst h; simp
    · rw [if_neg h, if_neg (by simpa using fun e => h e.symm)]
  rw [← e9] at ret
  refine ret _ _ _ _ _ (by k_asm) (fun y h1 h2 => ?_) rfl rfl (news_sub (by k_asm) fun q hq => List.mem_cons_of_mem _ (List.mem_cons_of_mem _ hq))
  exact (if_neg h1).trans (if_neg h2)
theorem run_15b1 : ∀ {w a b c d e f L outer g base h₀ m s E news Q h i ad j vs l vr ts hs n ns o q r t k p u its}, @T105 w a b c d e f L outer g base h₀ m s E news Q h i ad j vs l vr ts hs n ns o q r t k p u its := no_implicit_lambda% (u105.get rfl)
end
end
section -- U22
theorem kw_U22 : True := by
  k_with "o104" => skip
  k_with "call builtin:list.count" => ((fail_if_success k_extra "o105"); ((k_here; (with_reducible show wpAny _ _ (call (Value.builtin _) [Value.ref _, Value.int _ _]) _ _ _); k_dflt (refine' count_in ?Nq7b ?mq7b ?iq7b ?_; (case Nq7b => k_asm); (case mq7b => k_mem); (case iq7b => with_reducible assumption); intro _ _))))
  k_with "getMethod ref" => ((fail_if_success k_extra "o105"); ((k_here; (with_reducible show wpAny _ _ (getMethod (Value.ref _) (PySem.Str.ofString "count") _) _ _ _); k_dflt (refine' kf_method ?Nq8b ?mq8b PySem.F.slot_list_count PySem.F.type_list_count ?_; (case Nq8b => k_asm); (case mq8b => k_mem)))))
  k_with "call ref" => ((fail_if_success k_extra "o105"); ((k_here; (with_reducible show wpAny _ _ (call (Value.ref 117) _ _) _ _ _); refine Stop.at ?_)))
  trivial
section

set_option maxRecDepth 100000 in
theorem u106 : Up 106 := by
  refine u105.step rfl ?_
  k_extra "st"
  iterate 42 k_extra "g"
  intro asked avs cc ckv na ne ac ae t4 t3 t2 t1 tk3 c4 c3 c2 c1 k bkv oc o3 ob ow adt D
  k_extra "i0"
  intro B F X N T mk d3 mw hw mb9 hb hval mae mac hoc lac hcc mas ia v1 v2 hdp hun ret
  refine cut_exec (l' := Stmt.Assign [_] _ _) (env' := envOfC (Str.ofString "_law_run") ⟨_, _, _, _, _⟩ L 250 (.ref 249)) rfl rfl ?_
  k_steps
  refine Stop.go ?_
  refine count_ok B (by k_asm) X (by k_asm) T rfl mac hoc lac hcc (by omega) (by omega) fun h' tk' t5 F' N' => ?_
  k_steps
  exact ret _ _ _ _ _ (by k_asm) (by k_asm) (allLt_mem (by assumption))
theorem run_15c : ∀ {w a b c d e f L outer g base h₀ m s E news Q D h ow i j l bkv k n o p q r t u v x ae ac y na ckv cc avs asked}, @T106 w a b c d e f L outer g base h₀ m s E news Q D h ow i j l bkv k n o p q r t u v x ae ac y na ckv cc avs asked := no_implicit_lambda% (u106.get rfl)
end
end
section -- U23
theorem kw_U23 : True := by
  k_with "o105" => skip
  k_with "compareOp NotEq ref ref" => ((fail_if_success k_extra "o106"); ((k_here; (with_reducible show wpAny _ _ (compareOp CmpOp.NotEq (Value.ref _) (Value.ref _)) _ _ _); refine Stop.at ?_)))
  k_with "binaryOp Mult int int" => ((fail_if_success k_extra "o106"); ((k_here; k_dflt (refine' mul_small ?bqac ?_; (case bqac => with_reducible assumption)))))
  trivial
section

set_option maxRecDepth 100000 in
theorem u107 : Up 107 := by
  refine u106.step rfl ?_
  k_extra "st"
  iterate 48 k_extra "g"
  intro more cs' cc ps ckv wns vw n1 ne nw t6 t5 t4 t3 t2 t1 tm tc tk3 wt c k oc' oc o3 o1 ac ae dc at_ aws
  k_extra "i0"
  intro B F X N T mk d3 mw1 d1 mw iw hk6 hwt mt mae mac hoc lac hcc mdc hdc ldc hps hne hnd hlen hsub hc hc' v1 v2 v3 v4 hdp hun ret
  refine cut_exec (l' := Stmt.If _ _ _ _) (env' := envOfC (Str.ofString "_law_run") ⟨_, _, _, _, _⟩ L 250 (.ref 249)) rfl rfl ?_
  k_steps
  refine Stop.go ?_
  rename_i TT h9 F8 N8 l8 LL h7 F7 N7 l7a l7
  have up : ∀ q ∈ news, q ∈ (LL, W.listOf #[Value.ref F8, Value.int c tc, Value.int (c + more) (s.toks + 1 + 1 + 1)] 0) :: (F8, ({ cls := .type "tuple", data := .seq #[Value.int c tc, Value.int c tc, Value.int (c * wt) s.toks, Value.int (-c * wt) (s.toks + 1 + 1), Value.ref dc] } : Obj)) :: news := fun q hq => List.mem_cons_of_mem _ (List.mem_cons_of_mem _ hq)
  refine ne_told N7 (up _ mt) List.mem_cons_self (up _ mae) (List.mem_cons_of_mem _ List.mem_cons_self) (Nat.ne_of_lt (allLt_mem l8 _ mae)) (up _ mac) hoc lac hcc (up _ mdc) hdc ldc hps hne hnd hlen hsub (by ktr_units) (by ktr_units) (by ktr_units) ?_
  k_steps
  exact ret _ _ (by k_asm) (news_sub (by k_asm) up)
theorem run_15d : ∀ {w a b d e f g L outer h base h₀ m s E news Q aws i j ae ac l n o p k c wt q r tm t u v x y z nw a' b' c' wns ckv ps cc d' more}, @T107 w a b d e f g L outer h base h₀ m s E news Q aws i j ae ac l n o p k c wt q r tm t u v x y z nw a' b' c' wns ckv ps cc d' more := no_implicit_lambda% (u107.get rfl)
end
end
section -- U24
theorem kw_U24 : True := by
  k_with "o106" => skip
  trivial
theorem forB15_eq : forB15 = [forB15.getD 0 default, forB15.getD 1 default, forB15.getD 2 default, forB15.getD 3 default] := by rfl
section

theorem NV.same {D : Adr} {als alf : Addr} {m m' : Str → Option Value} (h : NV D als alf m) (e : ∀ y, NotL y → m' y = m y) : NV D als alf m' :=
  ⟨(e _ (by unfold NotL; decide)).trans h.slow, (e _ (by unfold NotL; decide)).trans h.fast, (e _ (by unfold NotL; decide)).trans h.book, (e _ (by unfold NotL; decide)).trans h.walk⟩
theorem DueM.same {m m' : Str → Option Value} {rest rest' : Led} {mo : Int → Int} (h : DueM m rest mo) (e : ∀ y, NotL y → m' y = m y) (hs : ∀ q ∈ rest, q ∈ rest') : DueM m' rest' mo := by
  obtain ⟨ad, its, nd, h1, h2, h3⟩ := h
  refine ⟨ad, its, nd, (e _ (by unfold NotL; decide)).trans h1, hs _ h2, h3.imp id ?_⟩
  rintro ⟨a, ar, vr, nr, rs, p, b, c, d⟩
  exact ⟨a, ar, vr, nr, rs, p, (e _ (by unfold NotL; decide)).trans b, hs _ c, d⟩
set_option maxRecDepth 100000 in
theorem u108 : Up 108 := by
  refine u107.step rfl ?_
  k_extra "st"
  iterate 39 k_extra "g"
  intro rest mo t3 o3 o1 nw nf ns vw vf vs aws alf als asked hs ts k p1 p0 wns keep D Q E s m h₀ base A₀ outer L gd un dp mb mg mean w B F X N T d3 Wk0 hk lw hask V Du ms is mf if_ mw1 d1 mw iw zs zh hdp hun ret
  obtain ⟨_, ⟨ow, adt, nd, td0, td1, mow, how, mdots, _⟩, _, ⟨ob, bkv, mbk, hb, zb, hbk⟩, ⟨avs, nas, mas, za, ia⟩⟩ := Wk0
  obtain ⟨ae, ac, oc, ne, tc1, tc2, tc3, tc4, ckv, cc, hval, mae, mac, hoc, hcc, hCC, lac, _, _⟩ := (hbk k hk.1 hk.2).ex
  obtain ⟨wt, hwt⟩ : ∃ wt, wns[k.toNat]? = some wt := ⟨_, List.getElem?_eq_getElem (by omega)⟩
  have ewt : wns.getD k.toNat 0 = wt := by rw [List.getD_eq_getElem?_getD, hwt]; rfl
  rw [ewt] at mae
  have c1 : ts.count k ≤ ts.length := List.count_le_length
  have c2 : hs.count k ≤ hs.length := List.count_le_length
  have hc : -1000 < ((ts.count k : Nat) : Int) + ((hs.count k : Nat) : Int) ∧ ((ts.count k : Nat) : Int) + ((hs.count k : Nat) : Int) < 1000 := by omega
  have hc' : -1000 < -(((ts.count k : Nat) : Int) + ((hs.count k : Nat) : Int)) ∧ -(((ts.count k : Nat) : Int) + ((hs.count k : Nat) : Int)) < 1000 := by omega
  have up0 : ∀ q ∈ rest, q ∈ (L + 1 + 1 + 1, o3) :: rest := sub_skip1
  rw [forB15_eq]
  refine wpAny_execs_cons (run_15a B F X N T (up0 _ ms) is (up0 _ mf) if_ List.mem_cons_self d3 V.slow V.fast (by omega) hun fun h1 tk1 dc od ps F1 N1 ldc ltd hod hps => ?_)
  have up1 : ∀ q ∈ rest, q ∈ (dc, od) :: (L + 1 + 1 + 1, o3) :: rest := fun q hq => List.mem_cons_of_mem _ (up0 q hq)
  have mk1 : (L + 1 + 1 + 1, o3) ∈ (dc, od) :: (L + 1 + 1 + 1, o3) :: rest := List.mem_cons_of_mem _ List.mem_cons_self
  have e1 : ∀ y, NotL y → (fun y => if y = Str.ofString "calls" then some (Value.ref dc) else m y) y = m y := fun y hy => if_neg hy.1
  have V1 := V.same e1
  obtain ⟨ad, its, nd', w1, w2, w3⟩ := Du.same e1 up1
  have fin : ∀ h2 tk2 m2 t1 t2, Fr h₀ L h2 m2 → (∀ y, y ≠ Str.ofString "count" → y ≠ Str.ofString "more" → m2 y = (fun y => if y = Str.ofString "calls" then some (Value.ref dc) else m y) y) → m2 (Str.ofString "count") = some (.int (((ts.count k : Nat) : Int) + ((hs.count k : Nat) : Int)) t1) → m2 (Str.ofString "more") = some (.int (mo k) t2) →
      News h₀ L h2 ((dc, od) :: (L + 1 + 1 + 1, o3) :: rest) → wpAny (model PG w) (arR dp un gd L outer) (execs [forB15.getD 2 default, forB15.getD 3 default] (envR L)) Q E { s with heap := h2, toks := tk2 } := by
    intro h2 tk2 m2 t1 t2 F2 hm2 x1 x2 N2
    have e2 : ∀ y, NotL y → m2 y = m y := fun y hy => (hm2 y hy.2.1 hy.2.2.1).trans (e1 y hy)
    have V2 := V.same e2
    refine wpAny_execs_cons (run_15c B F2 X N2 T mk1 d3 (up1 _ mow) how (up1 _ mbk) hb hval (up1 _ mae) (up1 _ mac) hoc lac hcc (up1 _ mas) ia V2.book V2.walk hdp hun fun h3 tk3 at_ t5 t6 F3 N3 lat => ?_)
    have up3 : ∀ q ∈ rest, q ∈ (at_, W.listOf #[.ref ae, .int (sumC cc) t5, .int ((asked.count k : Nat) : Int) t6] 0) :: (dc, od) :: (L + 1 + 1 + 1, o3) :: rest := fun q hq => List.mem_cons_of_mem _ (up1 q hq)
    have cs2 := callsI_two ts hs k
    have al := hCC.alike cs2.1
    rw [hCC.sum, hask] at N3 up3
    refine wpAny_execs_cons (run_15d (more := mo k) B F3 X N3 T (List.mem_cons_of_mem _ mk1) d3 (up3 _ mw1) d1 (up3 _ mw) iw ⟨hk.1, by omega⟩ hwt List.mem_cons_self (up3 _ mae) (up3 _ mac) hoc lac hcc (List.mem_cons_of_mem _ List.mem_cons_self) hod ldc hps (Nat.ne_of_lt (ltd _ (up0 _ mac))) cs2.1.nodup al.1 al.2 hc hc'
      (if_pos rfl) ((if_neg (by decide)).trans x1) ((if_neg (by decide)).trans x2) ((if_neg (by decide)).trans ((hm2 _ (by decide) (by decide)).trans (if_pos rfl))) hdp hun fun h4 tk4 F4 N4 => ?_)
    exact wpAny_execs_nil (ret _ _ _ F4 (news_sub N4 fun q hq => List.mem_cons_of_mem _ (List.mem_cons_of_mem _ hq)) fun y hy => (if_neg hy.2.2.2).trans (e2 y hy))
  rcases w3 with ⟨rfl, hmo⟩ | ⟨hsz, ar, vr, nr, rs, p, w4, w5, w6, w7, w8, hmo⟩
  · have hm0 := hmo k
    refine wpAny_execs_cons (run_15b0 B F1 X N1 T (up1 _ ms) is (up1 _ mf) if_ mk1 d3 w2 V1.slow V1.fast w1 (by omega) hun fun h2 tk2 m2 t1 t2 F2 hm2 x1 x2 N2 => ?_)
    exact fin h2 tk2 m2 t1 t2 F2 hm2 x1 (by rw [hm0]; exact x2) N2
  · have hm0 := hmo k
    refine wpAny_execs_cons (run_15b1 B F1 X N1 T (up1 _ ms) is (up1 _ mf) if_ mk1 d3 w2 hsz w5 w6 w7 w8 V1.slow V1.fast w1 w4 (by omega) hun fun h2 tk2 m2 t1 t2 F2 hm2 x1 x2 N2 => ?_)
    exact fin h2 tk2 m2 t1 t2 F2 hm2 x1 (by rw [hm0]; exact x2) N2
theorem run_15x : ∀ {w a b c d e f L outer g base h₀ m s E Q D keep wns p0 p1 k ts hs asked h i aws vs j l ns n nw o p q mo rest}, @T108 w a b c d e f L outer g base h₀ m s E Q D keep wns p0 p1 k ts hs asked h i aws vs j l ns n nw o p q mo rest := no_implicit_lambda% (u108.get rfl)
set_option maxRecDepth 100000 in
theorem u109 : Up 109 := by
  refine u108.step rfl ?_
  k_extra "st"
  iterate 38 k_extra "g"
  intro rest mo v3 o3 o1 nw nf ns vw vf vs aws alf als asked hs ts p1 p0 wns keep D Q E s m h₀ base A₀ outer L gd un dp mb mg mean w B F X N T hr d3 Wk0 lw hask V Du ms is mf if_ mw1 d1 mw iw zs zh hE hdp hun ret
  refine cut_exec (l' := Stmt.For _ _ _ _ _) (env' := envX (Str.ofString "_law_run") ⟨_, _, _, _, _⟩ L 250 (.ref 249) (runCl L)) rfl rfl ?_
  refine For_turns F ?_ (by intro _; rfl) hE
  k_steps
  refine range_J (n := 6) (by rfl) (by k_asm) (by k_asm) (by assumption) (by first | decide | rfl) (by first | rfl | decide) (J15 (L + 1 + 1 + 1) m rest) ⟨fun y _ => rfl, o3, v3, rfl, d3⟩ (fun I i t m₁ news₁ h₁ tk₁ oI hi hJ hc ho F₁ N₁ => ?_) (fun h' tk m' news' F' N' hJ => ?_)
  · obtain ⟨hm, o3', v', rfl, d3'⟩ := hJ
    refine wpAny_assign_Name (storeX_C (a := 250) (ccd := .ref 249) (cl := runCl L) (c := L + 1 + 1 + 1) (s := { s with heap := h₁, toks := tk₁ }) F₁ (news_sub N₁ mem_swap2) (by rfl) (UpdF.head fun q hq => ?_) d3' (fun h₂ o₂ F₂ N₂ d₂ => ?_) (by rfl) (by rfl))
    · rcases List.mem_cons.mp hq with rfl | hq
      · exact fun e => ho _ List.mem_cons_self e.symm
      · exact hr q hq
    · refine cut_execs (l' := forB15) (env' := envR L) rfl rfl ?_
      have N₃ : News h₀ L h₂ ((L + 1 + 1 + 1, o₂) :: (I, oI) :: rest) := N₂
      refine run_15x (rest := (I, oI) :: rest) (k := 0 + (i : Int)) B F₂ X N₃ T d₂ (Wk0.mono sub_skip1) ⟨by omega, by omega⟩ lw (hask _) (V.same hm) (Du.same hm sub_skip1) (List.mem_cons_of_mem _ ms) is (List.mem_cons_of_mem _ mf) if_ (List.mem_cons_of_mem _ mw1) d1 (List.mem_cons_of_mem _ mw) iw zs zh hdp hun fun h' tk' m' F' N' hm' => ?_
      refine ⟨h', tk', m', (L + 1 + 1 + 1, o₂) :: rest, rfl, F', news_sub N' mem_swap2, fun q hq => ?_, fun q hq => absurd hq List.not_mem_nil, fun y hy => (hm' y hy).trans (hm y hy), o₂, _, rfl, d₂⟩
      rcases List.mem_cons.mp hq with rfl | hq
      · exact fun e => ho _ List.mem_cons_self e
      · exact ho q (List.mem_cons_of_mem _ hq)
  · obtain ⟨hm, o3', v', rfl, d3'⟩ := hJ
    exact ret _ _ _ F' (news_sub N' sub_skip1) hm
theorem run_15 : ∀ {w a b c d e f L outer g base h₀ m s E Q D keep wns p0 p1 ts hs asked h i aws vs j k ns l nw n o v3 mo rest}, @T109 w a b c d e f L outer g base h₀ m s E Q D keep wns p0 p1 ts hs asked h i aws vs j k ns l nw n o v3 mo rest := no_implicit_lambda% (u109.get rfl)
end
end
section -- U25
section

set_option maxRecDepth 100000 in
theorem u110 : Up 110 := by
  refine u109.step rfl ?_
  k_extra "st"
  iterate 36 k_extra "g"
  intro mo tst n1 its at_ ax it aws an asked hs ts p1 p0 s0 wns tns led keep D Q E s m h₀ base A₀ outer L gd un dp mb mg mean w B F X N T XB TB KD Wk0 K h0 mt hroad hways hask zs zh v1 v2 v3 v4 v5 hE hdp hun ret
  obtain ⟨⟨o1, mc1, d1⟩, ⟨o2, mc2, d2⟩, ⟨o3, q3, mc3, d3⟩, ⟨vw, nw, mw, iw⟩, ⟨vn, nn, mn, in_⟩, mtape, ⟨vt, nt, moct, ioct⟩, lt6, lw6⟩ := K
  have kp := Wk0.keep
  obtain ⟨_, ⟨ow, adt, nd, td0, td1, mow, how, mdots, _⟩, ⟨na, ta0, ta1, mat⟩, _, _⟩ := id Wk0
  obtain ⟨rl0, rl7, rp0, rp6⟩ := rowN_ok (tns := tns) h0 6
  refine wpAny_execs_cons (run_10 B F X N T v2 (by omega) (by omega) fun h1 tk1 ar ad m1 F1 hm1 w1 w2 N1 => ?_)
  have up1 : ∀ q ∈ led, q ∈ (ad, W.listOf #[] 0) :: (ar, W.listOf #[.int s0 tst] 0) :: led := fun q hq => List.mem_cons_of_mem _ (List.mem_cons_of_mem _ hq)
  refine wpAny_execs_cons (run_11 (vr := [.int s0 tst]) B F1 X N1 T (List.mem_cons_of_mem _ List.mem_cons_self) (.cons _ _ .nil) h0 (up1 _ (kp _ mn)) in_ lt6 w1 ((hm1 _ (by decide) (by decide)).trans v1) hE (by omega) (by omega) fun h2 tk2 m2 led2 ar2 vr nr F2 N2 sub2 hm2 mr ir w3 => ?_)
  have up2 : ∀ q ∈ led, q ∈ led2 := fun q hq => sub2 q (up1 q hq)
  refine wpAny_execs_cons (run_12 B F2 X N2 T w3 (hways h2 m2 led2 ar2 vr nr mr ir) (by omega) (by omega) fun h3 tk3 ls lf ll ws wf wl m3 i1 i2 i3 F3 hm3 x1 x2 x3 N3 => ?_)
  have up3 : ∀ q ∈ led2, q ∈ (ll, W.listOf (List.toArray wl) 0) :: (lf, W.listOf (List.toArray wf) 0) :: (ls, W.listOf (List.toArray ws) 0) :: led2 := fun q hq => List.mem_cons_of_mem _ (List.mem_cons_of_mem _ (List.mem_cons_of_mem _ hq))
  have msl : (ls, W.listOf (List.toArray ws) 0) ∈ (ll, W.listOf (List.toArray wl) 0) :: (lf, W.listOf (List.toArray wf) 0) :: (ls, W.listOf (List.toArray ws) 0) :: led2 := List.mem_cons_of_mem _ (List.mem_cons_of_mem _ List.mem_cons_self)
  have mfa : (lf, W.listOf (List.toArray wf) 0) ∈ (ll, W.listOf (List.toArray wl) 0) :: (lf, W.listOf (List.toArray wf) 0) :: (ls, W.listOf (List.toArray ws) 0) :: led2 := List.mem_cons_of_mem _ List.mem_cons_self
  have mla : (ll, W.listOf (List.toArray wl) 0) ∈ (ll, W.listOf (List.toArray wl) 0) :: (lf, W.listOf (List.toArray wf) 0) :: (ls, W.listOf (List.toArray ws) 0) :: led2 := List.mem_cons_self
  generalize (ll, W.listOf (List.toArray wl) 0) :: (lf, W.listOf (List.toArray wf) 0) :: (ls, W.listOf (List.toArray ws) 0) :: led2 = led3 at N3 up3 msl mfa mla
  have e3 : ∀ y, y ≠ Str.ofString "slow" → y ≠ Str.ofString "fast" → y ≠ Str.ofString "last" → y ≠ Str.ofString "row" → y ≠ Str.ofString "_" → y ≠ Str.ofString "due" → m3 y = m y := fun y a b c d e f => (hm3 y a b c).trans ((hm2 y d e).trans (hm1 y d f))
  have u3 : ∀ q ∈ led, q ∈ led3 := fun q hq => up3 q (up2 q hq)
  have w3' : m3 (Str.ofString "row") = some (.ref ar2) := (hm3 _ (by decide) (by decide) (by decide)).trans w3
  have wdue : m3 (Str.ofString "due") = some (.ref ad) := (hm3 _ (by decide) (by decide) (by decide)).trans ((hm2 _ (by decide) (by decide)).trans w2)
  have mdue : (ad, W.listOf #[] 0) ∈ led3 := up3 _ (sub2 _ List.mem_cons_self)
  -- what follows when due stands
  have fin : ∀ h4 tk4 m4 led4 ad' its', Fr h₀ L h4 m4 → News h₀ L h4 led4 → (∀ q ∈ led3, q ∈ led4) → (∀ y, y ≠ Str.ofString "due" → m4 y = m3 y) → m4 (Str.ofString "due") = some (.ref ad') → (ad', W.listOf its' 0) ∈ led4 → SameL its its' →
      ((its' = #[] ∧ ∀ k, mo k = 0) ∨ (its'.size ≠ (#[] : Array Value).size ∧ ∃ p, (rowN tns s0 6).getD ((rowN tns s0 6).length - 1) 0 = p ∧ ∀ k, mo k = if k = p then 1 else 0)) →
      wpAny (model PG w) (arR dp un gd L outer) (execs [runB.getD 14 default, runB.getD 15 default, runB.getD 16 default, runB.getD 17 default] (envR L)) Q E { s with heap := h4, toks := tk4 } := by
    intro h4 tk4 m4 led4 ad' its' F4 N4 sub4 hm4 wd md hsame hdue
    have u4 : ∀ q ∈ led, q ∈ led4 := fun q hq => sub4 q (u3 q hq)
    have k4 : ∀ q ∈ keep, q ∈ led4 := fun q hq => u4 q (kp q hq)
    have ev : ∀ y, y ≠ Str.ofString "slow" → y ≠ Str.ofString "fast" → y ≠ Str.ofString "last" → y ≠ Str.ofString "row" → y ≠ Str.ofString "_" → y ≠ Str.ofString "due" → m4 y = m y := fun y a b c d e f => (hm4 y f).trans (e3 y a b c d e f)
    refine wpAny_execs_cons (run_14 (D := D) B F4 X N4 T (u4 _ mt) md hsame (u4 _ mow) how (u4 _ mat) (u4 _ mdots) (sub4 _ msl) i1 (sub4 _ mfa) i2 (sub4 _ mla) i3 (by omega) (by omega)
      ((ev _ (by decide) (by decide) (by decide) (by decide) (by decide) (by decide)).trans v5) wd ((ev _ (by decide) (by decide) (by decide) (by decide) (by decide) (by decide)).trans v3) ((hm4 _ (by decide)).trans x3) ((hm4 _ (by decide)).trans x1) ((hm4 _ (by decide)).trans x2) (by omega) (by omega) fun h5 tk5 F5 N5 => ?_)
    have mc3' := k4 _ mc3
    have isc3 := isC_cell d3
    have nw5 := nc_wo N5 mc3' isc3
    have ne3 : ∀ q ∈ wo (L + 1 + 1 + 1) led4, q.1 ≠ L + 1 + 1 + 1 := wo_off _ _
    have V5 : NV D ls lf m4 := ⟨(hm4 _ (by decide)).trans x1, (hm4 _ (by decide)).trans x2, (ev _ (by decide) (by decide) (by decide) (by decide) (by decide) (by decide)).trans v4, (ev _ (by decide) (by decide) (by decide) (by decide) (by decide) (by decide)).trans v3⟩
    have Du : DueM m4 (wo (L + 1 + 1 + 1) led4) mo := by
      refine ⟨ad', its', 0, wd, nw5 _ (nc_in md (by rfl)), hdue.imp id ?_⟩
      rintro ⟨hsz, p, hp, hmo⟩
      exact ⟨hsz, ar2, vr, nr, rowN tns s0 6, p, (hm4 _ (by decide)).trans w3', nw5 _ (nc_in (sub4 _ (up3 _ mr)) (by rfl)), ir, ⟨rl0, rl7⟩, hp, hmo⟩
    refine wpAny_execs_cons (run_15 (v3 := q3) B F5 X (news_sub N5 (wo_sub mc3')) T ne3 d3 ((Wk0.mono u4).dropC N5 mc3' isc3) lw6 hask V5 Du (nw5 _ (nc_in (sub4 _ msl) (by rfl))) i1 (nw5 _ (nc_in (sub4 _ mfa) (by rfl))) i2 (wo_in (k4 _ mc1) (Nat.ne_of_lt (Nat.lt_succ_of_lt (Nat.lt_succ_self _)))) d1 (nw5 _ (nc_in (k4 _ mw) (by rfl))) iw zs zh hE (by omega) (by omega) fun h6 tk6 m6 F6 N6 hm6 => ?_)
    have mit : (it, litObj ax (tns.flatMap enc).length) ∈ wo (L + 1 + 1 + 1) led4 := wo_in (k4 _ mtape) (fun e => by
      have z1 := (N5 _ (k4 _ mtape)).1
      have z2 := (N5 _ mc3').1
      have e' : it = L + 1 + 1 + 1 := e
      rw [e', z2] at z1
      have this : o3 = litObj ax (tns.flatMap enc).length := Option.some.inj z1
      rw [this] at d3
      cases d3)
    have m2c : (L + 1 + 1, o2) ∈ wo (L + 1 + 1 + 1) led4 := wo_in (k4 _ mc2) (Nat.ne_of_lt (Nat.lt_succ_self _))
    have ne2 : L + 1 + 1 ≠ it := fun e => by
      have z1 := (N5 _ (k4 _ mtape)).1
      have z2 := (N5 _ (k4 _ mc2)).1
      rw [← e] at z1
      have this : litObj ax (tns.flatMap enc).length = o2 := Option.some.inj (z1.symm.trans z2)
      rw [← this] at d2
      cases d2
    refine wpAny_execs_cons (run_16 (o2 := o2) (its := vt.toArray) (n := nt) B F6 X (news_sub N6 (wo_sub mit)) T XB TB KD (wo_off _ _) (nc_wo N6 mit isC_lit _ (nc_in (nw5 _ (nc_in (k4 _ moct) (by rfl))) (by rfl))) ?_ (wo_in m2c ne2) d2 (by omega) (by omega) fun s' h => ret s' h)
    have := ioct.length
    exact Array.getElem?_eq_none (by rw [List.size_toArray, this]; exact Nat.le_refl _)
  rcases hroad with ⟨hl7, rfl, hmo⟩ | ⟨hl7, p, hp, htold, hmo⟩
  · refine wpAny_execs_cons (run_13a B F3 X N3 T (up3 _ mr) ir hl7 w3' (by omega) (by omega) fun h4 tk4 F4 N4 => ?_)
    exact fin h4 tk4 m3 led3 ad #[] F4 N4 (fun q h => h) (fun y _ => rfl) wdue mdue SameL.nil (.inl ⟨rfl, hmo⟩)
  · refine wpAny_execs_cons (run_13b (p := p) B F3 X N3 T (up3 _ mr) ir ⟨rl0, rl7⟩ hl7 hp (hp ▸ ⟨rp0, rp6⟩) w3' (by omega) (by omega) fun h4 tk4 ad' its' F4 N4 htold' => ?_)
    refine fin h4 tk4 _ _ ad' its' F4 N4 sub_skip1 (fun y hy => if_neg hy) (if_pos rfl) List.mem_cons_self (htold.same htold') (.inr ⟨?_, p, hp, hmo⟩)
    obtain ⟨a, b, c, rfl⟩ := htold'
    exact Nat.succ_ne_zero 3
theorem run_B : ∀ {w a b c d e f L outer g base h₀ m s E Q D keep h tns wns s0 p0 p1 ts hs asked i aws j k l its n tst mo}, @T110 w a b c d e f L outer g base h₀ m s E Q D keep h tns wns s0 p0 p1 ts hs asked i aws j k l its n tst mo := no_implicit_lambda% (u110.get rfl)
end
end
section -- U26
section

theorem run_C {D : Adr} {keep led : Led} {tns wns : List Int} {s0 p : Int} {an atab aws arow aj ajl it ax at_ : Addr} {o4 : Obj} {vj : List Value} {nj n1 : Nat} {tst tp : Tok}
    (B : Below A₀ base outer h₀) (F : Fr h₀ L s.heap m) (X : (h0.heap_1 w.params).In h₀) (N : News h₀ L s.heap led) (T : TopX mean mg mb h₀)
    (XB : (h0.heap_1 w.params).In base) (TB : TopX mean mg mb base) (KD : KtsDicts (outer.filterMap (·.frame)) h₀)
    (C : Cx D keep tns wns atab aws arow aj) (Wk0 : Wk w D keep wns s0 s0 [] [] [] led) (K : Kp L keep an aws it ax tns wns) (h0 : 0 ≤ s0 ∧ s0 < 6)
    (c4 : (L + 1 + 1 + 1 + 1, o4) ∈ keep) (d4 : o4.data = .cell (some (.ref arow))) (mj : (ajl, W.listOf vj.toArray nj) ∈ keep) (hj : vj[(3 : Int).toNat]? = some (.ref aj)) (mt : (at_, W.listOf #[] n1) ∈ keep)
    (v1 : m (Str.ofString "walk") = some (.ref D.aw)) (v2 : m (Str.ofString "start") = some (.int s0 tst)) (v3 : m (Str.ofString "table") = some (.ref atab)) (v4 : m (Str.ofString "plan") = some (.int p tp)) (v5 : m (Str.ofString "judges") = some (.ref ajl)) (v6 : m (Str.ofString "book") = some (.ref D.ab))
    (v7 : m (Str.ofString "numbers") = some (.ref an)) (v8 : m (Str.ofString "told") = some (.ref at_))
    (hE : PassesOwn (model PG w) (arR dp un gd L outer) (envR L) E)
    (hdp : dp + 100 < recursionLimit) (hun : un + 1000 < cLine)
    (ret : ∀ s', Kept base s s' → Q (.ret (.bool true)) s') :
    wpAny (model PG w) (arR dp un gd L outer) (execs [runB.getD 9 default, runB.getD 10 default, runB.getD 11 default, runB.getD 12 default, runB.getD 13 default, runB.getD 14 default, runB.getD 15 default, runB.getD 16 default, runB.getD 17 default] (envR L)) Q E s := by
  obtain ⟨o1, c1, d1⟩ := K.c1
  have z0 : orbF tns s0 0 = s0 := rfl
  refine wpAny_execs_cons (run_9 B F X N T XB TB KD C ⟨[], Wk0, rfl, fun k => rfl⟩ h0 c1 d1 c4 d4 mj hj v1 v2 v3 v4 v5 v6 (by omega) (by omega) ?_ ?_)
  · intro k j x led' h' tk' k1 k7 ke kl al j5 je jl x1 x6 xe xl F' N' S'
    obtain ⟨asked, W', has⟩ := S'
    obtain ⟨t, r, hr⟩ := ring_of (al 6)
    have hw := hr.ways k1 k7 ke kl j5 je jl x1 x6 xe xl
    have er := road_ring al
    refine run_B (mo := fun _ => 0) (its := #[]) B F' X N' T XB TB KD W' K h0 (W'.keep _ mt) (.inl ⟨by rw [er, orb_len], rfl, fun _ => rfl⟩) ?_ (fun k => by rw [has.2 k]; push_cast; omega) (by rw [List.length_append, orb_len, orb_len]; omega) (by rw [orb_len]; omega) v7 v2 v1 v6 v8 hE hdp hun ret
    intro h2 m2 led2 ar vr nr mr ir Q2 E2 s2 F2 N2 ret2
    rw [er] at ir
    have tr := hr.tr
    have e1 : ((t : Int)).toNat = t := Int.toNat_natCast t
    have e2 : ((t : Int) + 1).toNat = t + 1 := by omega
    refine ways_ring B F2 X N2 T rfl mr ir (orb_len ..) hr.tr hr.r1 (fun k hk => hr.ringP hk) (x₀ := orbF tns s0 t) (by rw [e1]; exact orb_get tns s0 (by omega)) (by rw [e2]; exact hr.idxOf) (by omega) (by omega) fun h3 tk3 T3 ls lf ll ws wf wl i1 i2 i3 F3 N3 => ?_
    rw [hw.1] at i1
    rw [hw.2.1] at i2
    refine ret2 h3 tk3 T3 ls lf ll ws wf wl i1 i2 ?_ F3 N3
    rw [← hw.2.2.2]
    conv => rhs; lhs; rw [← hw.2.2.1]
    exact i3
  · intro l g' led' h' tk' m' at2 its A1 hl F' N' S' B' X' T' KD' hm ht hto
    obtain ⟨asked, W', has⟩ := S'
    obtain ⟨hl6, er⟩ := road_end A1 hl
    have hw := end_ways tns s0 l
    refine run_B (mo := fun k => if k = orbF tns s0 l then 1 else 0) B' F' X' N' T' XB TB KD' (W'.mono sub_skip1) K h0 List.mem_cons_self (.inr ⟨by rw [er, orb_len]; omega, orbF tns s0 l, by rw [er]; exact hw.2.2.2, hto, fun _ => rfl⟩) ?_ (fun k => ?_) (by rw [List.length_append, orb_len]; unfold aOf; simp; split <;> omega) (by rw [orb_len]; omega)
      ((hm _ (by decide) (by decide)).trans v7) ((hm _ (by decide) (by decide)).trans v2) ((hm _ (by decide) (by decide)).trans v1) ((hm _ (by decide) (by decide)).trans v6) ht hE hdp hun ret
    · intro h2 m2 led2 ar vr nr mr ir Q2 E2 s2 F2 N2 ret2
      rw [er] at ir
      refine ways_end B' F2 X' N2 T' rfl mr ir (by rw [orb_len]; omega) (by rw [orb_len]; omega) (by omega) (by omega) fun h3 tk3 T3 ls lf ll ws wf wl i1 i2 i3 F3 N3 => ?_
      rw [hw.1] at i1
      rw [hw.2.1] at i2
      rw [hw.2.2.1, hw.2.2.2] at i3
      exact ret2 h3 tk3 T3 ls lf ll ws wf wl i1 i2 i3 F3 N3
    · rw [has k]
      split <;> push_cast <;> omega
end
end
section -- U27
section

theorem fmod_bnd (n : Int) : 0 ≤ Int.fmod n 262143 ∧ Int.fmod n 262143 < 262143 := by
  rw [Int.fmod_eq_emod_of_nonneg _ (by decide)]; omega
set_option maxRecDepth 100000 in
theorem u111 : Up 111 := by
  refine u110.step rfl ?_
  k_extra "st"
  iterate 24 k_extra "g"
  intro led ks nc0 cns cv aj ak ac Q E s m h₀ base A₀ outer L gd un dp mb mg mean w B F X N T XB TB KD S mc hi hl J hk0 hk2 vc vk vj hE hdp hun ret
  obtain ⟨p, hp⟩ : ∃ p, cns[(6 : Int).toNat]? = some p := ⟨_, List.getElem?_eq_getElem (by rw [hl]; decide)⟩
  rw [runB_eq]
  -- 0
  obtain ⟨o1, m1, d1⟩ := S.c1
  have l0 := nc_wo N m1 (isC_cell d1)
  refine wpAny_execs_cons (run_0 (rest := wo (L + 1) led) B F X (news_sub N (wo_sub m1)) T (wo_off _ _) d1 (l0 _ (nc_in mc (by rfl))) hi hl hp vc (by omega) (by omega) fun h1 tk1 an aw ys zs n1 n2 tp o1' F1 N1 d1' iy iz => ?_)
  have ln : ((cns.take 6).map fun n => Int.fmod n 262143).length = 6 := by rw [List.length_map, List.length_take, hl]; rfl
  have lw : ((cns.take 6).map fun n => Int.fdiv n 7).length = 6 := by rw [List.length_map, List.length_take, hl]; rfl
  have bn : ∀ n ∈ ((cns.take 6).map fun n => Int.fmod n 262143), 0 ≤ n ∧ n < 262143 := fun n hn => by
    obtain ⟨c, _, rfl⟩ := List.mem_map.mp hn
    exact fmod_bnd c
  generalize ((cns.take 6).map fun n => Int.fmod n 262143) = ns at iy ln bn
  generalize ((cns.take 6).map fun n => Int.fdiv n 7) = wns at iz lw
  generalize hled1 : (aw, W.listOf (List.toArray zs) n1) :: (an, W.listOf (List.toArray ys) n2) :: (L + 1, o1') :: wo (L + 1) led = led1 at N1
  have maw1 : (aw, W.listOf (List.toArray zs) n1) ∈ nc led1 := hled1 ▸ nc_in List.mem_cons_self (by rfl)
  have man1 : (an, W.listOf (List.toArray ys) n2) ∈ nc led1 := hled1 ▸ nc_in (List.mem_cons_of_mem _ List.mem_cons_self) (by rfl)
  have S1 : S5 L led1 (some (.ref aw)) none none none none := S.set1 (o' := o1') (hled1 ▸ List.mem_cons_of_mem _ (List.mem_cons_of_mem _ List.mem_cons_self)) d1' fun q hq => hled1 ▸ List.mem_cons_of_mem _ (List.mem_cons_of_mem _ (List.mem_cons_of_mem _ hq))
  have J1 : Jd (nc led1) ak aj ks := J.nc.mono (nc_up fun q hq => hled1 ▸ List.mem_cons_of_mem _ (List.mem_cons_of_mem _ (List.mem_cons_of_mem _ (l0 q hq))))
  have V1 : RN an ak aj p tp (fun y => if y = Str.ofString "plan" then some (.int p tp) else if y = Str.ofString "numbers" then some (.ref an) else m y) :=
    ⟨(if_neg (by decide)).trans (if_pos rfl), if_pos rfl, (if_neg (by decide)).trans ((if_neg (by decide)).trans vk), (if_neg (by decide)).trans ((if_neg (by decide)).trans vj)⟩
  generalize (fun y => if y = Str.ofString "plan" then some (Value.int p tp) else if y = Str.ofString "numbers" then some (Value.ref an) else m y) = m1 at F1 V1
  clear hled1 l0
  -- 1
  refine wpAny_execs_cons (run_1 B F1 X N1 T (nc_sub _ man1) iy ln bn V1.numbers (by omega) (by omega) fun h2 tk2 ao yo no led2' F2 N2 sub2 _ ho => ?_)
  have V2 := V1.set (x := Str.ofString "octets") (v := some (.ref ao)) (by decide)
  have S2 := S1.mono (led' := (ao, W.listOf (List.toArray yo) no) :: led2') fun q hq => List.mem_cons_of_mem _ (sub2 q hq)
  have u2 : ∀ q ∈ nc led1, q ∈ nc ((ao, W.listOf (List.toArray yo) no) :: led2') := nc_up fun q hq => List.mem_cons_of_mem _ (sub2 q (nc_sub q hq))
  have ho2 : OctsAre (nc ((ao, W.listOf (List.toArray yo) no) :: led2')) yo ns := (ho.mono (fun q hq => List.mem_cons_of_mem _ hq)).nc
  have mao : (ao, W.listOf (List.toArray yo) no) ∈ nc ((ao, W.listOf (List.toArray yo) no) :: led2') := nc_in List.mem_cons_self (by rfl)
  generalize (ao, W.listOf (List.toArray yo) no) :: led2' = led2 at N2 S2 u2 ho2 mao
  -- 2
  obtain ⟨o2, m2, d2⟩ := S2.c2
  have l2 := nc_wo N2 m2 (isC_cell d2)
  refine wpAny_execs_cons (run_2 (rest := wo (L + 1 + 1) led2) B F2 X (news_sub N2 (wo_sub m2)) T (wo_off _ _) d2 (l2 _ (u2 _ man1)) iy ln bn V2.numbers (l2 _ mao) (ho2.mono l2) (if_pos rfl) (by omega) (by omega) fun h3 tk3 ax it yt nt o2' F3 N3 d2' iyt => ?_)
  generalize hled3 : (it, litObj ax 0) :: (ax, W.listOf (List.toArray yt) nt) :: (L + 1 + 1, o2') :: wo (L + 1 + 1) led2 = led3 at N3
  have S3 : S5 L led3 (some (.ref aw)) (some (.ref it)) none none none := S2.set2 (o' := o2') (hled3 ▸ List.mem_cons_of_mem _ (List.mem_cons_of_mem _ List.mem_cons_self)) d2' fun q hq => hled3 ▸ List.mem_cons_of_mem _ (List.mem_cons_of_mem _ (List.mem_cons_of_mem _ hq))
  have u3 : ∀ q ∈ nc led1, q ∈ nc led3 := nc_up fun q hq => hled3 ▸ List.mem_cons_of_mem _ (List.mem_cons_of_mem _ (List.mem_cons_of_mem _ (l2 q (u2 q hq))))
  have mit : (it, litObj ax 0) ∈ led3 := hled3 ▸ List.mem_cons_self
  have max3 : (ax, W.listOf (List.toArray yt) nt) ∈ nc led3 := hled3 ▸ nc_in (List.mem_cons_of_mem _ List.mem_cons_self) (by rfl)
  clear hled3
  -- 3
  have l3 := nc_wo N3 mit isC_lit
  have S3' := S3.lit N3 mit
  obtain ⟨o2b, m2b, d2b⟩ := S3'.c2
  refine wpAny_execs_cons (run_3 (rest := wo it led3) B F3 X (news_sub N3 (wo_sub mit)) T (wo_off _ _) m2b d2b ln bn (l3 _ max3) iyt (by omega) (by omega) fun h4 tk4 atab yb nb F4 N4 iyb => ?_)
  have V4 := V2.set (x := Str.ofString "table") (v := some (.ref atab)) (by decide)
  generalize hled4 : (atab, W.listOf (List.toArray yb) nb) :: (it, litObj ax (ns.flatMap enc).length) :: wo it led3 = led4 at N4
  have S4 : S5 L led4 (some (.ref aw)) (some (.ref it)) none none none := S3'.mono fun q hq => hled4 ▸ List.mem_cons_of_mem _ (List.mem_cons_of_mem _ hq)
  have u43 : ∀ q ∈ nc led3, q ∈ nc led4 := nc_up fun q hq => hled4 ▸ List.mem_cons_of_mem _ (List.mem_cons_of_mem _ (l3 q hq))
  have matab4 : (atab, W.listOf (List.toArray yb) nb) ∈ nc led4 := hled4 ▸ nc_in List.mem_cons_self (by rfl)
  have mit4 : (it, litObj ax (ns.flatMap enc).length) ∈ led4 := hled4 ▸ List.mem_cons_of_mem _ List.mem_cons_self
  clear hled4
  -- 4
  refine wpAny_execs_cons (run_4 B F4 X N4 T (nc_sub _ (u43 _ (u3 _ man1))) iy V4.numbers (nc_sub _ matab4) iyb (if_pos rfl) (by omega) (by omega) fun h5 tk5 F5 N5 => ?_)
  -- 5
  obtain ⟨o4, m4, d4⟩ := S4.c4
  obtain ⟨o1c, m1c, d1c⟩ := S4.c1
  have l5 := nc_wo N5 m4 (isC_cell d4)
  have mitw : (it, litObj ax (ns.flatMap enc).length) ∈ wo (L + 1 + 1 + 1 + 1) led4 := wo_in mit4 fun e => ne_cell_lit N5 m4 mit4 d4 e.symm
  refine wpAny_execs_cons (run_5 (rest := wo (L + 1 + 1 + 1 + 1) led4) B F5 X (news_sub N5 (wo_sub m4)) T (wo_off _ _) d4 (wo_in m1c (by k_ne)) d1c (l5 _ (u43 _ (u3 _ maw1))) iz lw (by omega) (by omega) fun h6 tk6 ar yr nr o4' rest5 F6 N6 d4' sub5 _ hr => ?_)
  generalize hled6 : (ar, W.listOf (List.toArray yr) nr) :: (L + 1 + 1 + 1 + 1, o4') :: rest5 = led6 at N6
  have S6 : S5 L led6 (some (.ref aw)) (some (.ref it)) none (some (.ref ar)) none := S4.set4 (o' := o4') (hled6 ▸ List.mem_cons_of_mem _ List.mem_cons_self) d4' fun q hq => hled6 ▸ List.mem_cons_of_mem _ (List.mem_cons_of_mem _ (sub5 q hq))
  have u6 : ∀ q ∈ nc led4, q ∈ nc led6 := nc_up fun q hq => hled6 ▸ List.mem_cons_of_mem _ (List.mem_cons_of_mem _ (sub5 q (l5 q hq)))
  have mit6 : (it, litObj ax (ns.flatMap enc).length) ∈ led6 := hled6 ▸ List.mem_cons_of_mem _ (List.mem_cons_of_mem _ (sub5 _ mitw))
  have mar6 : (ar, W.listOf (List.toArray yr) nr) ∈ nc led6 := hled6 ▸ nc_in List.mem_cons_self (by rfl)
  have hr6 : TupsAre (nc led6) yr ((List.range 6).map fun k : Nat => rowOf wns (k : Int)) := (hr.mono (led' := led6) fun q hq => hled6 ▸ List.mem_cons_of_mem _ (List.mem_cons_of_mem _ hq)).nc
  clear hled6
  have J6' : Jd (nc led6) ak aj ks := J1.mono fun q hq => u6 q (u43 q (u3 q hq))
  -- 6
  obtain ⟨o5, m5, d5⟩ := S6.c5
  obtain ⟨o4c, m4c, d4c⟩ := S6.c4
  have l6 := nc_wo N6 m5 (isC_cell d5)
  have mit7 : (it, litObj ax (ns.flatMap enc).length) ∈ wo (L + 1 + 1 + 1 + 1 + 1) led6 := wo_in mit6 fun e => ne_cell_lit N6 m5 mit6 d5 e.symm
  have cP : ClP fun m => m (Str.ofString "table") = some (.ref atab) := fun m x v hx h => (if_neg (by rcases hx with rfl | rfl | rfl <;> decide)).trans h
  refine wpAny_execs_cons (run_6 (P := fun m => m (Str.ofString "table") = some (.ref atab)) (rest := wo (L + 1 + 1 + 1 + 1 + 1) led6) B F6 X (news_sub N6 (wo_sub m5)) T (wo_off _ _) d5 (wo_in m4c (by k_ne)) d4c (l6 _ mar6) (hr6.mono l6) ⟨V4, if_pos rfl⟩ (J6'.mono l6) cP hE (by omega) (by omega) fun h7 tk7 m7 o5' v5' F7 N7 d5' V7 => ?_)
  have S7 : S5 L ((L + 1 + 1 + 1 + 1 + 1, o5') :: wo (L + 1 + 1 + 1 + 1 + 1) led6) (some (.ref aw)) (some (.ref it)) none (some (.ref ar)) v5' := S6.set5 (o' := o5') List.mem_cons_self d5' fun q hq => List.mem_cons_of_mem _ hq
  have u7 : ∀ q ∈ nc led6, q ∈ (L + 1 + 1 + 1 + 1 + 1, o5') :: wo (L + 1 + 1 + 1 + 1 + 1) led6 := fun q hq => List.mem_cons_of_mem _ (l6 q hq)
  have mit8 : (it, litObj ax (ns.flatMap enc).length) ∈ (L + 1 + 1 + 1 + 1 + 1, o5') :: wo (L + 1 + 1 + 1 + 1 + 1) led6 := List.mem_cons_of_mem _ mit7
  generalize (L + 1 + 1 + 1 + 1 + 1, o5') :: wo (L + 1 + 1 + 1 + 1 + 1) led6 = led7 at N7 S7 u7 mit8
  -- 7
  refine wpAny_execs_cons (run_7 B F7 X N7 T V7.rn.plan (by omega) (by omega) fun h8 tk8 at_ ab ob ps ts n8 led8 F8 N8 sub8 _ lt8 hat lab hob lps hval => ?_)
  -- 8
  refine wpAny_execs_cons (run_8 (ab := ab) B F8 X N8 T ((if_neg (by decide)).trans (if_pos rfl)) (if_pos rfl) (by omega) (by omega) fun h9 tk9 aw9 aat ad aas ow t1 t2 F9 N9 law how al9 a1 a2 a3 => ?_)
  have lt9 := allLt_mem al9
  have hab : @LT.lt Nat _ ab aw9 := lt9 (ab, ob) (List.mem_cons_of_mem _ List.mem_cons_self)
  have hat9 : @LT.lt Nat _ at_ aw9 := lt9 (at_, W.listOf #[] n8) List.mem_cons_self
  have hat' : @LT.lt Nat _ ab at_ := hat
  generalize hD : (⟨aw9, aat, ab, aas⟩ : Adr) = D at how
  have Daw : D.aw = aw9 := by rw [← hD]
  have Daat : D.aat = aat := by rw [← hD]
  have Dab : D.ab = ab := by rw [← hD]
  have Daas : D.aas = aas := by rw [← hD]
  have off8 : ∀ a : Addr, @LT.lt Nat _ a ab → Off4 D a := fun a ha => ⟨Daw ▸ Nat.ne_of_lt (show @LT.lt Nat _ a aw9 by omega), Daat ▸ Nat.ne_of_lt (show @LT.lt Nat _ a aat by omega), Dab ▸ Nat.ne_of_lt ha, Daas ▸ Nat.ne_of_lt (show @LT.lt Nat _ a aas by omega)⟩
  have offt : Off4 D at_ := ⟨Daw ▸ Nat.ne_of_lt hat9, Daat ▸ Nat.ne_of_lt (show @LT.lt Nat _ at_ aat by omega), Dab ▸ Nat.ne_of_gt hat', Daas ▸ Nat.ne_of_lt (show @LT.lt Nat _ at_ aas by omega)⟩
  have offd : Off4 D ad := ⟨Daw ▸ Nat.ne_of_gt (show @LT.lt Nat _ aw9 ad by omega), Daat ▸ Nat.ne_of_gt a2, Dab ▸ Nat.ne_of_gt (show @LT.lt Nat _ ab ad by omega), Daas ▸ Nat.ne_of_lt a3⟩
  have ok : D.Ok := ⟨Daw ▸ Daat ▸ Nat.ne_of_lt a1, Daw ▸ Dab ▸ Nat.ne_of_gt hab, Daw ▸ Daas ▸ Nat.ne_of_lt (show @LT.lt Nat _ aw9 aas by omega), Daat ▸ Dab ▸ Nat.ne_of_gt (show @LT.lt Nat _ ab aat by omega), Daat ▸ Daas ▸ Nat.ne_of_lt (show @LT.lt Nat _ aat aas by omega), Dab ▸ Daas ▸ Nat.ne_of_lt (show @LT.lt Nat _ ab aas by omega), Daw ▸ law, Dab ▸ lab⟩
  generalize hled9 : (aas, W.listOf #[] 0) :: (ad, W.listOf #[.int 1 t1, .int 1 t2] 0) :: (aat, W.listOf #[.int (Int.fmod p 6) ts, .int (Int.fmod p 6) ts] 0) :: (aw9, ow) :: (at_, W.listOf #[] n8) :: (ab, ob) :: led8 = led9 at N9
  have up9 : ∀ q ∈ led8, q ∈ keepD D led9 := fun q hq => keepD_in (hled9 ▸ List.mem_cons_of_mem _ (List.mem_cons_of_mem _ (List.mem_cons_of_mem _ (List.mem_cons_of_mem _ (List.mem_cons_of_mem _ (List.mem_cons_of_mem _ hq)))))) (off8 _ (lt8 q hq))
  have upn : ∀ q ∈ nc led6, q ∈ keepD D led9 := fun q hq => up9 q (sub8 q (u7 q hq))
  have mt9 : (at_, W.listOf #[] n8) ∈ keepD D led9 := keepD_in (hled9 ▸ List.mem_cons_of_mem _ (List.mem_cons_of_mem _ (List.mem_cons_of_mem _ (List.mem_cons_of_mem _ List.mem_cons_self)))) offt
  have Sk : S5 L (keepD D led9) (some (.ref aw)) (some (.ref it)) none (some (.ref ar)) v5' := S7.mono fun q hq => up9 q (sub8 q hq)
  have maw9 := upn _ (u6 _ (u43 _ (u3 _ maw1)))
  have man9 := upn _ (u6 _ (u43 _ (u3 _ man1)))
  have Kk : Kp L (keepD D led9) an aw it ax ns wns := ⟨Sk.c1, Sk.c2, let ⟨o, hm, d⟩ := Sk.c3; ⟨o, none, hm, d⟩, ⟨_, _, maw9, iz⟩, ⟨_, _, man9, iy⟩, up9 _ (sub8 _ mit8), ⟨_, _, upn _ (u6 _ (u43 _ max3)), iyt⟩, ln, lw⟩
  have Wk0 : Wk w D (keepD D led9) wns (Int.fmod p 6) (Int.fmod p 6) [] [] [] led9 := by
    refine ⟨keepD_sub, ⟨ow, ad, 0, t1, t2, ?_, how, ?_, offd⟩, ⟨0, ts, ts, ?_⟩, ⟨ob, ps, ?_, hob, by omega, fun k k0 k6 => ?_⟩, ⟨#[], 0, ?_, rfl, .nil⟩⟩
    · rw [Daw, ← hled9]; exact List.mem_cons_of_mem _ (List.mem_cons_of_mem _ (List.mem_cons_of_mem _ List.mem_cons_self))
    · rw [← hled9]; exact List.mem_cons_of_mem _ List.mem_cons_self
    · rw [Daat, ← hled9]; exact List.mem_cons_of_mem _ (List.mem_cons_of_mem _ List.mem_cons_self)
    · rw [Dab, ← hled9]; exact List.mem_cons_of_mem _ (List.mem_cons_of_mem _ (List.mem_cons_of_mem _ (List.mem_cons_of_mem _ (List.mem_cons_of_mem _ List.mem_cons_self))))
    · obtain ⟨x, hx, e, c, o, n, u1, u2, u3, u4, rfl, me, mc', ho', lc⟩ := hval k k0 k6
      have zw : (((([] : List Int).count k : Nat) : Int) + (([] : List Int).count k : Nat)) * wns.getD k.toNat 0 = 0 := Int.zero_mul _
      have zn : -(((([] : List Int).count k : Nat) : Int) + (([] : List Int).count k : Nat)) * wns.getD k.toNat 0 = 0 := Int.zero_mul _
      refine ⟨e, c, o, n, u1, u2, u3, u4, [], [], hx, ?_, keepD_sub _ (up9 _ mc'), ho', .nil, .inl ⟨rfl, rfl, rfl⟩, lc, off8 _ (lt8 _ me), off8 _ (lt8 _ mc')⟩
      rw [zw, zn]
      exact keepD_sub _ (up9 _ me)
    · rw [Daas, ← hled9]; exact List.mem_cons_self
  obtain ⟨aj9, vj9, nj9, mj9, hj9, Cx9⟩ := cx_of (atab := atab) ok ln lw keepD_off (upn _ (u6 _ matab4)) iyb maw9 iz (upn _ mar6) (hr6.mono upn) (J6'.mono upn) hk0 hk2
  obtain ⟨o4k, m4k, d4k⟩ := Sk.c4
  have b6 : 0 ≤ Int.fmod p 6 ∧ Int.fmod p 6 < 6 := by rw [Int.fmod_eq_emod_of_nonneg _ (by decide)]; omega
  refine run_C B F9 X N9 T XB TB KD Cx9 Wk0 Kk b6 m4k d4k mj9 hj9 mt9 ((if_pos rfl).trans (by rw [Daw])) ((if_neg (by decide)).trans ((if_neg (by decide)).trans (if_pos rfl))) ((if_neg (by decide)).trans ((if_neg (by decide)).trans ((if_neg (by decide)).trans ((if_neg (by decide)).trans V7.q)))) ((if_neg (by decide)).trans ((if_neg (by decide)).trans ((if_neg (by decide)).trans ((if_neg (by decide)).trans V7.rn.plan)))) ((if_neg (by decide)).trans ((if_neg (by decide)).trans ((if_neg (by decide)).trans ((if_neg (by decide)).trans V7.rn.judges))))
    ((if_neg (by decide)).trans ((if_pos rfl).trans (by rw [Dab]))) ((if_neg (by decide)).trans ((if_neg (by decide)).trans ((if_neg (by decide)).trans ((if_neg (by decide)).trans V7.rn.numbers)))) ((if_neg (by decide)).trans ((if_neg (by decide)).trans ((if_neg (by decide)).trans (if_pos rfl)))) hE (by omega) (by omega) ret
theorem run_A : ∀ {w a b c d e f L outer g base h₀ m s E Q ac ak aj h i j ks k}, @T111 w a b c d e f L outer g base h₀ m s E Q ac ak aj h i j ks k := no_implicit_lambda% (u111.get rfl)
end
end
section -- U28
section

variable {fa : Addr} {cd : Value}
set_option maxRecDepth 100000 in
theorem u112 : Up 112 := by
  refine u111.step rfl ?_
  k_extra "st"
  iterate 28 k_extra "g"
  intro led oO oS no os ns yo vs ao scr cd fa E Q s m h₀ base A₀ outer L gd un dp mb mg mean w B F X N T hL hi hl mS dS mO dO mo io ol hdp hun ret
  refine cut_exec (l' := Stmt.Assign [_] _ _) (env' := envOfC (Str.ofString "law") ⟨_, _, _, _, _⟩ L fa cd) rfl rfl ?_
  k_steps
  refine Stop.go ?_
  rename_i hrg hF hN hz
  refine src_range (by rfl) hF hN hrg (by decide) (n := 7) (by decide) fun I St g S => ?_
  refine srcj_one1 (by rfl) (by rfl) (S _ _) (fun i v => ∃ t, v = .int (0 + (i : Int)) t) (fun i v _ h => h) (fun i ys nw => (nw = led) ∧ (∃ cns, IntsAre ys cns ∧ cns.length = i ∧ i ≤ 7)) ⟨rfl, [], .nil, rfl, by decide⟩ ?_ ?_ ?_
  · rintro i ys nw ⟨_, cns, h, e, i7⟩
    rw [h.length, e, sizeLine_eq]
    omega
  · rintro i v C D h₁ tk₁ ys mC oC nw tl E' hi7 ⟨t, rfl⟩ ⟨rfl, cns, hys, hcl, _⟩ hxv hC ho hCD F₁ N₁ htl hlv9
    rw [Int.zero_add] at hxv
    obtain ⟨x, hx⟩ : ∃ x, os[((i : Int)).toNat]? = some x := ⟨_, List.getElem?_eq_getElem (by omega)⟩
    have mS' := List.mem_append_left tl mS
    have mO' := List.mem_append_left tl mO
    have mo' := List.mem_append_left tl mo
    have hi60 : 0 ≤ (i : Int) ∧ (i : Int) < 1000 := by omega
    generalize hrt : nw ++ tl = rt at mS' mO' mo'
    simp only [List.cons_append, hrt] at N₁
    dsimp only
    k_steps
    rename_i hI9 _ _ _ _ _ h9 F9 N9
    have hms := hI9.pick (some (i : Int)) none (some 7)
    generalize pickNums _ _ _ _ = ms at hms
    refine sum_listK (by rfl) F9 N9 List.mem_cons_self hms fun h8 tk8 t8 F8 N8 => ?_
    k_steps
    subst hrt
    refine ⟨_, _, _, _, _, rfl, F8, hC, news_sub N8 ?_, ho, rfl, cns ++ [x + ms.sum], IntsAre.append hys (.cons _ _ .nil), by simp [hcl], hi7⟩
    exact fun q hq => List.mem_cons_of_mem _ (List.mem_cons_of_mem _ hq)
  · rintro ys nw ⟨rfl, cns, hys, hcl, _⟩
    k_steps
    exact ret _ _ _ _ _ _ (by k_asm) (by k_asm) hys hcl
theorem law_1 : ∀ {w a b c d e f L outer g base h₀ m s Q E h cd i j vs k ns l n o p q}, @T112 w a b c d e f L outer g base h₀ m s Q E h cd i j vs k ns l n o p q := no_implicit_lambda% (u112.get rfl)
end
end
section -- U29
section

variable {fa : Addr} {cd : Value}
set_option maxRecDepth 100000 in
theorem law_0 {o1 : Obj} {rest : Led}
    (B : Below A₀ base outer h₀) (F : Fr h₀ L s.heap m) (X : (h0.heap_1 w.params).In h₀) (N : News h₀ L s.heap ((L + 1 + 1, o1) :: rest)) (T : TopX mean mg mb h₀)
    (hr : ∀ q ∈ rest, q.1 ≠ L + 1 + 1) (d1 : o1.data = .cell none)
    (hdp : dp + 8 < recursionLimit) (hun : un + 80 < cLine)
    (ret : ∀ h' tk' ao yo no o', Fr h₀ L h' m → News h₀ L h' ((ao, W.listOf (List.toArray yo) no) :: (L + 1 + 1, o') :: rest) → o'.data = .cell (some (.ref ao)) →
      IntsAre yo [9, -9, 11, 6, 22, 11, 294] → Q .next { s with heap := h', toks := tk' }) :
    wpAny (model PG w) (arW fa cd dp un gd L outer) (exec (lawB.getD 0 default) (envW fa cd L)) Q E s := by
  refine cut_exec (l' := Stmt.Assign [_] _ _) (env' := envOfC (Str.ofString "law") ⟨_, _, _, _, _⟩ L fa cd) rfl rfl ?_
  k_steps
  exact ret _ _ _ [_, _, _, _, _, _, _] _ _ (by k_asm) (by k_asm) (by assumption) (.cons _ _ (.cons _ _ (.cons _ _ (.cons _ _ (.cons _ _ (.cons _ _ (.cons _ _ .nil)))))))
set_option maxRecDepth 100000 in
theorem law_2 {ac : Addr} {cv : List Value} {cns : List Int} {nc : Nat} {led : Led}
    (B : Below A₀ base outer h₀) (F : Fr h₀ L s.heap m) (X : (h0.heap_1 w.params).In h₀) (N : News h₀ L s.heap led) (T : TopX mean mg mb h₀)
    (mc : (ac, W.listOf cv.toArray nc) ∈ led) (hi : IntsAre cv cns) (hl : cns.length = 7) (vc : m (Str.ofString "cells") = some (.ref ac))
    (hdp : dp + 8 < recursionLimit) (hun : un + 80 < cLine)
    (ret : ∀ h' tk' n t, Fr h₀ L h' (fun y => if y = Str.ofString "turns" then some (.int n t) else m y) → News h₀ L h' led → Q .next { s with heap := h', toks := tk' }) :
    wpAny (model PG w) (arW fa cd dp un gd L outer) (exec (lawB.getD 2 default) (envW fa cd L)) Q E s := by
  refine cut_exec (l' := Stmt.Assign [_] _ _) (env' := envOfC (Str.ofString "law") ⟨_, _, _, _, _⟩ L fa cd) rfl rfl ?_
  obtain ⟨p, hp⟩ : ∃ p, cns[(6 : Int).toNat]? = some p := ⟨_, List.getElem?_eq_getElem (by rw [hl]; decide)⟩
  have h6 : 0 ≤ (6 : Int) ∧ (6 : Int) < 1000 := by decide
  k_steps
  exact ret _ _ _ _ (by k_asm) (by k_asm)
end
end
section -- U30
section

variable {fa : Addr} {cd : Value}
set_option maxRecDepth 100000 in
theorem u113 : Up 113 := by
  refine u112.step rfl ?_
  k_extra "st"
  iterate 22 k_extra "g"
  intro tn n rest o1 cd fa E Q s m h₀ base A₀ outer L gd un dp mb mg mean w B F X N T hr d1 vt hdp hun ret
  refine cut_exec (l' := Stmt.Assign [_] _ _) (env' := envOfC (Str.ofString "law") ⟨_, _, _, _, _⟩ L fa cd) rfl rfl ?_
  k_steps
  rename_i N9 d9
  have b2 : 0 ≤ Int.fmod n 2 ∧ Int.fmod n 2 < 2 := by rw [Int.fmod_eq_emod_of_nonneg _ (by decide)]; omega
  refine ret _ _ _ [_, _, _] _ _ _ (by k_asm) N9 List.mem_cons_self (by k_mem) d9 (fun q hq => by repeat (first | exact hq | refine List.mem_cons_of_mem _ ?_)) ?_
  exact .cons (by k_mem) (by omega) (.cons (by k_mem) (by omega) (.cons (by k_mem) (by decide) .nil))
theorem law_3 : ∀ {w a b c d e f L outer g base h₀ m s Q E h cd i rest n j}, @T113 w a b c d e f L outer g base h₀ m s Q E h cd i rest n j := no_implicit_lambda% (u113.get rfl)
end
end
section -- U31
theorem kw_U31 : True := by
  k_with "call ref" => ((fail_if_success k_extra "o114"); ((k_here; (with_reducible show wpAny _ _ (call (Value.ref 250) _ _) _ _ _); refine Stop.at ?_)))
  trivial
theorem keep3c {x y z c d : Addr × Obj} {rr tl : Led} : ∀ q ∈ c :: d :: ((x :: y :: z :: rr) ++ tl), q ∈ x :: y :: z :: c :: d :: (rr ++ tl) := by
  intro q hq
  simp only [List.mem_cons, List.mem_append, List.cons_append] at hq ⊢
  rcases hq with h | h | h | h | h | h | h
  · exact .inr (.inr (.inr (.inl h)))
  · exact .inr (.inr (.inr (.inr (.inl h))))
  · exact .inl h
  · exact .inr (.inl h)
  · exact .inr (.inr (.inl h))
  · exact .inr (.inr (.inr (.inr (.inr (.inl h)))))
  · exact .inr (.inr (.inr (.inr (.inr (.inr h)))))
theorem enter_eq {M : Model} {A A' : Around} {l l' : List Stmt} {env env' : Env} {Q : Flow → Shared → Prop} {E : Value → Shared → Prop} {s : Shared} (h : wpAny M A' (execs l' env') Q E s) (ha : A = A') (hl : l = l') (he : env = env') : wpAny M A (execs l env) Q E s := by
  subst ha hl he
  exact h
theorem s5_cells {cm : Str → Option Value} {cells led : Led} {L' : Addr} (Y : CellsAre cm (cellsFrom (L' + 1) runS.names []) cells) (hc : ∀ n, cm n = none) : S5 L' (cells ++ led) none none none none none := by
  obtain ⟨o₁, o₂, o₃, o₄, o₅, rfl, e1, e2, e3, e4, e5⟩ := kc_five Y
  rw [hc] at e1 e2 e3 e4 e5
  exact ⟨⟨_, List.mem_append_left _ (by repeat (first | exact List.mem_cons_self | refine List.mem_cons_of_mem _ ?_)), e5⟩, ⟨_, List.mem_append_left _ (by repeat (first | exact List.mem_cons_self | refine List.mem_cons_of_mem _ ?_)), e4⟩, ⟨_, List.mem_append_left _ (by repeat (first | exact List.mem_cons_self | refine List.mem_cons_of_mem _ ?_)), e3⟩, ⟨_, List.mem_append_left _ (by repeat (first | exact List.mem_cons_self | refine List.mem_cons_of_mem _ ?_)), e2⟩, ⟨_, List.mem_append_left _ (by repeat (first | exact List.mem_cons_self | refine List.mem_cons_of_mem _ ?_)), e1⟩⟩
section

variable {fa : Addr} {cd : Value}
set_option maxRecDepth 100000 in
theorem u114 : Up 114 := by
  refine u113.step rfl ?_
  k_extra "st"
  iterate 28 k_extra "g"
  intro led oK ks nk nc cns vk cv ak ac cd fa E Q s m h₀ base A₀ outer L gd un dp mb mg mean w B F X N T XB TB KD mc hi hl vc mk hk k3 hk0 hk2 mK dK hdp hun ret
  refine cut_exec (l' := Stmt.Return _ _) (env' := envOfC (Str.ofString "law") ⟨_, _, _, _, _⟩ L fa cd) rfl rfl ?_
  k_steps
  refine Stop.go ?_
  rename_i hrg hF hN hz
  refine src_range (by rfl) hF hN hrg (by decide) (n := 4) (by decide) fun I St g S => ?_
  refine srcj_one1 (by rfl) (by rfl) (S _ _) (fun i v => ∃ t, v = .int (0 + (i : Int)) t) (fun i v _ h => h) (fun i ys nw => All4 (∀ q ∈ led, q ∈ nw) (ys.length = i) (i ≤ 4) (∀ j : Nat, j < i → JdAt nw ys ks j)) ⟨fun q h => h, rfl, by decide, fun j h => absurd h (Nat.not_lt_zero _)⟩ ?_ ?_ ?_
  · rintro i ys nw ⟨_, e, i4, _⟩
    rw [e, sizeLine_eq]
    omega
  · rintro i v C D h₁ tk₁ ys mC oC nw tl E' hi4 ⟨t, rfl⟩ ⟨hsub, hyl, _, hys⟩ hxv hC ho hCD F₁ N₁ htl hlv9
    rw [Int.zero_add] at hxv
    have mK' : (L + 1 + 1 + 1, oK) ∈ nw ++ tl := List.mem_append_left _ (hsub _ mK)
    have mk' : (ak, W.listOf vk.toArray nk) ∈ nw ++ tl := List.mem_append_left _ (hsub _ mk)
    have hi60 : 0 ≤ (i : Int) ∧ (i : Int) < 1000 := by omega
    generalize hrt : nw ++ tl = rt at mK' mk'
    simp only [List.cons_append, hrt] at N₁
    dsimp only
    k_steps
    refine slice_upto (by k_asm) (by k_asm) (List.mem_cons_of_mem _ (List.mem_cons_of_mem _ mk')) hi60.1 (by have := hk.len; omega) (fun al h7 F7 N7 l7 => ?_) (by with_unfolding_all rfl) (by kmk_pure)
    k_steps
    rename_i x9 d9 h92 F91 N91 ha hb hc hl9 hx9 g9 L9 h91 FG9 B9 X9 T9 h9 Fz Nz F9 N9 Tc9 kX9
    subst hrt
    have hCa : @LT.lt Nat _ C al := l7 _ List.mem_cons_self
    have hDa : @LT.lt Nat _ D al := l7 _ (List.mem_cons_of_mem _ List.mem_cons_self)
    have hla : AllLt al (nw ++ tl) := allLt_of fun q hq => l7 q (List.mem_cons_of_mem _ (List.mem_cons_of_mem _ hq))
    have hlx : AllLt x9 (nw ++ tl) := allLt_of fun q hq => Nat.lt_trans (allLt_mem hl9 q hq) hx9
    have o1 : OffCD C D [I] ((al, W.listOf (List.toArray (List.take ((i : Int)).toNat vk)) 0) :: nw) := OffCD.push ho hlv9.1 hCa hDa hla
    have o2 := OffCD.push (o := dictOf [⟨PyData.keyHash w.params (Str.ofString "comp_select_list"), .str (Str.ofString "comp_select_list") (tk + 1), .ref al⟩] 1) o1 hlv9.1 hb hc ⟨ha, hl9⟩
    have o3 := OffCD.push (o := instObj 92 d9) o2 hlv9.1 (Nat.lt_trans hb hx9) (Nat.lt_trans hc hx9) ⟨hx9, Nat.lt_trans ha hx9, hlx⟩
    refine ⟨_, _, _, _, _, rfl, F9, hC, news_sub N9 keep3c, o3, fun q hq => List.mem_cons_of_mem _ (List.mem_cons_of_mem _ (List.mem_cons_of_mem _ (hsub q hq))), by rw [List.length_append, hyl]; rfl, hi4, fun j hj => ?_⟩
    by_cases hji : j < i
    · obtain ⟨jj, Dj, al', hsh, tkc, vs, nl, e1, e2, e3, e4, e5⟩ := hys j hji
      exact ⟨jj, Dj, al', hsh, tkc, vs, nl, by rw [List.getElem?_append_left (by omega)]; exact e1, List.mem_cons_of_mem _ (List.mem_cons_of_mem _ (List.mem_cons_of_mem _ e2)), List.mem_cons_of_mem _ (List.mem_cons_of_mem _ (List.mem_cons_of_mem _ e3)), List.mem_cons_of_mem _ (List.mem_cons_of_mem _ (List.mem_cons_of_mem _ e4)), e5.mono fun v _ a o _ q => List.mem_cons_of_mem _ (List.mem_cons_of_mem _ (List.mem_cons_of_mem _ q))⟩
    · obtain rfl : j = i := by omega
      refine ⟨x9, d9, al, _, _, List.take ((j : Int)).toNat vk, 0, by rw [List.getElem?_append_right (by omega), hyl, Nat.sub_self]; rfl, List.mem_cons_self, List.mem_cons_of_mem _ List.mem_cons_self, List.mem_cons_of_mem _ (List.mem_cons_of_mem _ List.mem_cons_self), ?_⟩
      rw [Int.toNat_natCast]
      exact (hk.mono fun v _ a o _ q => List.mem_cons_of_mem _ (List.mem_cons_of_mem _ (List.mem_cons_of_mem _ (hsub _ q)))).take j
  · rintro ys nw ⟨hsub, hyl, _, hys⟩
    k_steps
    refine Stop.go ?_
    rename_i D9 h9 tk9 F9 N9 o9
    refine wpAny_call ?_
    refine code_free (env := envW fa cd L) (outer := outer) B F9 X N9 T rfl rfl rfl KD (by k_is) (by k_is) (by show dp < _; omega) (BindsTo.of_eq rfl) rfl (by decide +kernel) (fun g L' h₁ tk1 cells FG F₁ Y NC B₁ X₁ T₁ lt KD₁ => ?_) rfl rfl rfl
    refine enter_eq (A' := arR (dp + 1) (un + 3) gd L' (envW fa cd L :: outer)) (l' := runB) (env' := envR L') ?_ rfl rfl rfl
    refine run_A B₁ F₁ X₁ Y T₁ XB TB KD₁ (s5_cells NC fun _ => rfl) (List.mem_append_right _ (List.mem_cons_of_mem _ (hsub _ mc))) hi hl (ak := ak) (aj := D9) (ks := ks) ⟨⟨vk, nk, List.mem_append_right _ (List.mem_cons_of_mem _ (hsub _ mk)), hk.mono fun v _ a o _ q => List.mem_append_right _ (List.mem_cons_of_mem _ (hsub _ q))⟩, k3, ⟨ys, _, List.mem_append_right _ List.mem_cons_self, fun j hj => ?_⟩⟩ hk0 hk2 rfl rfl rfl PassesOwn.never (by omega) (by omega) ret
    obtain ⟨jj, Dj, al', hsh, tkc, vs, nl, e1, e2, e3, e4, e5⟩ := hys j hj
    exact ⟨jj, Dj, al', hsh, tkc, vs, nl, e1, List.mem_append_right _ (List.mem_cons_of_mem _ e2), List.mem_append_right _ (List.mem_cons_of_mem _ e3), List.mem_append_right _ (List.mem_cons_of_mem _ e4), e5.mono fun v _ a o _ q => List.mem_append_right _ (List.mem_cons_of_mem _ q)⟩
theorem law_4 : ∀ {w a b c d e f L outer g base h₀ m s Q E h cd ac ak i j k l n ks o p}, @T114 w a b c d e f L outer g base h₀ m s Q E h cd ac ak i j k l n ks o p := no_implicit_lambda% (u114.get rfl)
end
end
section -- U32
section

variable {fa : Addr} {cd : Value}
theorem good_bool {c : ClaimW} {cl : Str → Option Addr} {mean : ExcName → Option Value} {args : List WData} {s₁ s' : Shared} {b : Bool} (hk : ∀ b o, s₁.heap.get? b = some o → s'.heap.get? b = some o) (hos : s'.os = s₁.os) (hg : s'.gens = #[]) (hn : ∀ cls, c.raises args cls = false) (hp : c.post args (.bool b) args = true) : GoodW c cl mean args s₁ (.ok (.ret (.bool b))) s' :=
  ⟨.inl ⟨_, _, _, rfl, hn, .bool b, hp, fun _ => ⟨List.nodup_nil, fun a h => absurd h List.not_mem_nil⟩⟩, hk, hos, hg⟩
theorem lawB_eq : lawB = [lawB.getD 0 default, lawB.getD 1 default, lawB.getD 2 default, lawB.getD 3 default, lawB.getD 4 default] := by rfl
set_option maxRecDepth 100000 in
theorem law_body {scr : Addr} {vs : List Value} {ns : List Int} {o1 o2 o3 : Obj}
    (B : Below A₀ h₀ [] h₀) (F : Fr h₀ L s.heap m) (X : (h0.heap_1 w.params).In h₀) (N : News h₀ L s.heap [(L + 1 + 1 + 1, o3), (L + 1 + 1, o2), (L + 1, o1)]) (T : TopX mean mg mb h₀)
    (hL : h₀.IsList scr vs.toArray) (hi : IntsAre vs ns) (hl : ns.length ≤ 63)
    (d1 : o1.data = .cell (some (.ref scr))) (d2 : o2.data = .cell none) (d3 : o3.data = .cell none)
    (hdp : dp + 300 < recursionLimit) (hun : un + 3000 < cLine)
    (ret : ∀ s', Kept h₀ s s' → Q (.ret (.bool true)) s') :
    wpAny (model PG w) (arW fa cd dp un gd L []) (execs lawB (envW fa cd L)) Q E s := by
  have m3 : (L + 1 + 1 + 1, o3) ∈ [(L + 1 + 1 + 1, o3), (L + 1 + 1, o2), (L + 1, o1)] := List.mem_cons_self
  have m2 : (L + 1 + 1, o2) ∈ [(L + 1 + 1 + 1, o3), (L + 1 + 1, o2), (L + 1, o1)] := List.mem_cons_of_mem _ List.mem_cons_self
  have m1 : (L + 1, o1) ∈ [(L + 1 + 1 + 1, o3), (L + 1 + 1, o2), (L + 1, o1)] := List.mem_cons_of_mem _ (List.mem_cons_of_mem _ List.mem_cons_self)
  generalize [(L + 1 + 1 + 1, o3), (L + 1 + 1, o2), (L + 1, o1)] = led0 at N m1 m2 m3
  rw [lawB_eq]
  refine wpAny_execs_cons (law_0 (rest := wo (L + 1 + 1) led0) B F X (news_sub N (wo_sub m2)) T (wo_off _ _) d2 (by omega) (by omega) fun h1 tk1 ao yo no o2' F1 N1 d2' iy => ?_)
  have n1 : (L + 1, o1) ∈ wo (L + 1 + 1) led0 := wo_in m1 (by k_ne)
  have n3 : (L + 1 + 1 + 1, o3) ∈ wo (L + 1 + 1) led0 := wo_in m3 (by k_ne)
  generalize wo (L + 1 + 1) led0 = led1 at N1 n1 n3
  refine wpAny_execs_cons (law_1 B F1 X N1 T hL hi hl (List.mem_cons_of_mem _ (List.mem_cons_of_mem _ n1)) d1 (List.mem_cons_of_mem _ List.mem_cons_self) d2' List.mem_cons_self iy rfl (by omega) (by omega) fun h2 tk2 ac cv nc0 cns F2 N2 ic lc => ?_)
  refine wpAny_execs_cons (law_2 B F2 X N2 T List.mem_cons_self ic lc (if_pos rfl) (by omega) (by omega) fun h3 tk3 n tn F3 N3 => ?_)
  have mc3 : (ac, W.listOf cv.toArray nc0) ∈ nc ((ac, W.listOf (List.toArray cv) nc0) :: (ao, W.listOf (List.toArray yo) no) :: (L + 1 + 1, o2') :: led1) := nc_in List.mem_cons_self (by rfl)
  have mk3 : (L + 1 + 1 + 1, o3) ∈ (ac, W.listOf (List.toArray cv) nc0) :: (ao, W.listOf (List.toArray yo) no) :: (L + 1 + 1, o2') :: led1 := List.mem_cons_of_mem _ (List.mem_cons_of_mem _ (List.mem_cons_of_mem _ n3))
  generalize (ac, W.listOf (List.toArray cv) nc0) :: (ao, W.listOf (List.toArray yo) no) :: (L + 1 + 1, o2') :: led1 = led3 at N3 mc3 mk3
  have l3 := nc_wo N3 mk3 (isC_cell d3)
  refine wpAny_execs_cons (law_3 (rest := wo (L + 1 + 1 + 1) led3) B F3 X (news_sub N3 (wo_sub mk3)) T (wo_off _ _) d3 (if_pos rfl) (by omega) (by omega) fun h4 tk4 ak vk nk o3' led4 F4 N4 mk4 mK4 dK4 sub4 hk => ?_)
  have b2 : 0 ≤ Int.fmod n 2 ∧ Int.fmod n 2 < 2 := by rw [Int.fmod_eq_emod_of_nonneg _ (by decide)]; omega
  have b4 : 0 ≤ Int.fmod (Int.fdiv n 2) 2 ∧ Int.fmod (Int.fdiv n 2) 2 < 2 := by rw [Int.fmod_eq_emod_of_nonneg _ (by decide)]; omega
  have b5 : 0 ≤ Int.fmod (Int.fdiv n 4) 2 ∧ Int.fmod (Int.fdiv n 4) 2 < 2 := by rw [Int.fmod_eq_emod_of_nonneg _ (by decide)]; omega
  have b8 : 0 ≤ Int.fmod (Int.fdiv n 8) 2 ∧ Int.fmod (Int.fdiv n 8) 2 < 2 := by rw [Int.fmod_eq_emod_of_nonneg _ (by decide)]; omega
  refine wpAny_execs_cons (law_4 B F4 X N4 T X T ktsDicts_nil (sub4 _ (l3 _ mc3)) ic lc ((if_neg (by decide)).trans (if_pos rfl)) mk4 hk rfl (fun k d hm => ?_) ⟨3 - 6 * Int.fmod (Int.fdiv n 8) 2, ?_⟩ mK4 dK4 hdp hun ret)
  · simp only [List.mem_cons, Prod.mk.injEq, List.not_mem_nil, or_false] at hm
    rcases hm with ⟨_, rfl⟩ | ⟨_, rfl⟩ | ⟨_, rfl⟩ <;> omega
  · exact List.mem_cons_of_mem _ (List.mem_cons_of_mem _ List.mem_cons_self)
end
end
end
end
theorem top.tw16900427199656544559 : True := trivial
theorem top.tw14783522961314548601 : True := trivial
theorem top.tw12372526006091541652 : True := trivial
theorem top.tw16104615914030681952 : True := trivial
theorem top.tw18186074749648716422 : True := trivial
theorem top.tw18085771088847121727 : True := trivial
theorem top.tw9437893007894698314 : True := trivial
theorem top.tw10936122117785486979 : True := trivial
theorem top.tw13177472732611162249 : True := trivial
theorem top.tw14402358008270493973 : True := trivial
theorem top.tw14917401599646851644 : True := trivial
theorem top.tw12415523145999629524 : True := trivial
theorem top.tw15177526630643400193 : True := trivial
theorem top.tw14823308797102314842 : True := trivial
theorem top.tw17244936779566465919 : True := trivial
theorem top.tw15569959144833144457 : True := trivial
theorem top.tw5766051744304087583 : True := trivial
theorem top.tw13369591340354186047 : True := trivial
theorem top.tw8892184565913893157 : True := trivial
theorem top.tw7740461459972228597 : True := trivial
theorem top.tw5118827330378232414 : True := trivial
theorem top.tw12094960947251128927 : True := trivial
theorem top.tw7990429038631628895 : True := trivial
theorem top.tw13501252493785611398 : True := trivial
theorem top.tw339143206060000330 : True := trivial
theorem top.tw8061784049497598715 : True := trivial
theorem top.tw1212798325632107971 : True := trivial
theorem top.tw5667650583090716360 : True := trivial
theorem top.tw17470836177267949868 : True := trivial
theorem top.tw12102947074072374899 : True := trivial
theorem top.tw4655869559712951663 : True := trivial
theorem top.tw17492772389151264855 : True := trivial
theorem top.tw2617719716777270872 : True := trivial
theorem top.tw13091174067606910046 : True := trivial
theorem top.tw4498253355057717688 : True := trivial
theorem top.tw10617020205504526918 : True := trivial
theorem top.tw6749217079512962374 : True := trivial
theorem top.tw5915399644114372684 : True := trivial
theorem top.tw12012865196380796599 : True := trivial
theorem top.tw15786856763048480637 : True := trivial
theorem top.tw15878805988109762761 : True := trivial
theorem top.tw10083753850511284816 : True := trivial
theorem top.tw1047907039808853306 : True := trivial
theorem top.tw956942650209027819 : True := trivial
theorem top.tw18194552166560175392 : True := trivial
theorem top.tw17081178143035459574 : True := trivial
theorem top.tw6930518751129746686 : True := trivial
theorem top.tw13272337422414781067 : True := trivial
theorem top.tw4551080515912023512 : True := trivial
theorem top.tw2249405535684624136 : True := trivial
theorem top.tw7715697345341360870 : True := trivial
theorem top.tw2007660962349395123 : True := trivial
theorem top.tw14851680436948445374 : True := trivial
theorem top.tw11133666699803404755 : True := trivial
theorem top.tw5105846836358774362 : True := trivial
theorem top.tw12622177474791663080 : True := trivial
theorem top.tw13420762306968818387 : True := trivial
theorem top.tw16093936019704036451 : True := trivial
theorem top.tw5088376156974544275 : True := trivial
theorem top.tw7389250965806765224 : True := trivial
theorem top.tw13083224199667937846 : True := trivial
theorem top.tw12425085872883035938 : True := trivial
theorem top.tw17343052467700966135 : True := trivial
theorem top.tw6885214360128481674 : True := trivial
theorem top.tw9229161468869434483 : True := trivial
theorem top.tw7557910624720293991 : True := trivial
theorem top.tw15740088241188596515 : True := trivial
theorem top.tw5524087456088295120 : True := trivial
theorem top.tw2835187731363253809 : True := trivial
theorem top.tw6156568016551699631 : True := trivial
theorem top.tw8140125068956082859 : True := trivial
theorem top.tw6187478851450931391 : True := trivial
theorem top.tw9951221954081769418 : True := trivial
theorem top.tw2741389259953327712 : True := trivial
theorem top.tw4859757453598101857 : True := trivial
theorem top.tw4047667213573674445 : True := trivial
theorem top.tw8598144960395782539 : True := trivial
theorem top.tw8735323631387419056 : True := trivial
theorem top.tw9503340733035011235 : True := trivial
theorem top.tw8321918168302905379 : True := trivial
theorem top.tw1350575918064645229 : True := trivial
theorem top.tw11199532085631943738 : True := trivial
theorem top.tw11476458436694872437 : True := trivial
theorem top.tw10567129059001840431 : True := trivial
theorem top.tw14826035006057030972 : True := trivial
theorem top.tw5860347150701562758 : True := trivial
theorem top.tw4205137553216949640 : True := trivial
theorem top.tw12535971307161669396 : True := trivial
theorem top.tw16439428074185983240 : True := trivial
theorem top.tw13822267516522204269 : True := trivial
theorem top.tw5889316905344633881 : True := trivial
theorem top.tw15092371282622821202 : True := trivial
theorem top.tw3430127420881650015 : True := trivial
theorem top.tw16123964013534891561 : True := trivial
theorem top.tw16273406610938067001 : True := trivial
theorem top.tw15058813355848621054 : True := trivial
theorem top.tw12166907935582030026 : True := trivial
theorem top.tw14502225709538309166 : True := trivial
theorem top.tw5733063073192568914 : True := trivial
theorem top.tw13303987763403120937 : True := trivial
theorem top.tw3337584539547039419 : True := trivial
theorem top.tw15299407806266782574 : True := trivial
theorem top.tw17315540178315561739 : True := trivial
theorem top.tw7414872774492366064 : True := trivial
theorem top.tw13889309363888878346 : True := trivial
theorem top.tw5244899138074338376 : True := trivial
theorem top.tw9108098604805947806 : True := trivial
theorem top.tw15646934709686841381 : True := trivial
theorem top.tw18266201782428273354 : True := trivial
theorem top.tw6664487174759623829 : True := trivial
theorem top.tw6286779285267259847 : True := trivial
theorem top.tw9759319705405543751 : True := trivial
theorem top.tw16840627104734473223 : True := trivial
theorem top.tw11279390925490393535 : True := trivial
theorem top.tw14459580976405569124 : True := trivial
theorem top.tw11466170419677230873 : True := trivial
theorem top.tw16325430554902658873 : True := trivial
theorem top.tw14533951869480809633 : True := trivial
theorem top.tw12501917291106330125 : True := trivial
theorem top.tw16821654228018055803 : True := trivial
theorem top.tw8645369167282567922 : True := trivial
theorem top.tw17486766287000646611 : True := trivial
theorem top.tw11613256710310857696 : True := trivial
theorem top.tw8729362747519067210 : True := trivial
theorem top.tw15499459402589274338 : True := trivial
theorem top.tw5476889619067714990 : True := trivial
theorem top.tw1149218181149386328 : True := trivial
theorem top.tw8538268897159353584 : True := trivial
theorem top.tw11762496359356365647 : True := trivial
theorem top.tw9378254376102152143 : True := trivial
theorem top.tw12787338502077490372 : True := trivial
theorem top.tw9631074621892390191 : True := trivial
theorem top.tw6211089042160764376 : True := trivial
theorem top.tw10090393231696489298 : True := trivial
theorem top.tw7847650389618582240 : True := trivial
theorem top.tw16420938139371093754 : True := trivial
theorem top.tw2601027998652028288 : True := trivial
theorem top.tw864819663365544661 : True := trivial
theorem top.tw17699833187948243897 : True := trivial
theorem top.tw4321519831107876412 : True := trivial
theorem top.tw2462062305354472974 : True := trivial
theorem top.tw72247145696351765 : True := trivial
theorem top.tw8184561461823581802 : True := trivial
theorem top.tw15985961358823992270 : True := trivial
theorem top.tw14390669486469195807 : True := trivial
theorem top.tw9514973924220054061 : True := trivial
theorem top.tw3776753064480771068 : True := trivial
theorem top.tw8410488445778877200 : True := trivial
theorem top.tw3531060308782635638 : True := trivial
theorem top.tw11459358961799972967 : True := trivial
theorem top.tw4076138812419527698 : True := trivial
theorem top.tw8345894832289464959 : True := trivial
theorem top.tw13120753694373217308 : True := trivial
theorem top.tw13664746368384525793 : True := trivial
theorem top.tw216529984938456764 : True := trivial
theorem top.tw2985252069258134486 : True := trivial
theorem top.tw4656485037274611717 : True := trivial
theorem top.tw16196420915677631385 : True := trivial
theorem top.tw2057334267981633021 : True := trivial
theorem top.tw12643491718579748851 : True := trivial
theorem top.tw5523086135645875356 : True := trivial
theorem top.tw4159251561096739476 : True := trivial
theorem top.tw2924597203103170677 : True := trivial
theorem top.tw4597200072644226624 : True := trivial
theorem top.tw9063741608606530840 : True := trivial
theorem top.tw4784893810139332661 : True := trivial
theorem top.tw4671429814451907529 : True := trivial
theorem top.tw4213018616267185653 : True := trivial
theorem top.tw15918733279669447828 : True := trivial
theorem top.tw6624316729101989866 : True := trivial
theorem top.tw15515614520234409546 : True := trivial
theorem top.tw8507776931139520737 : True := trivial
theorem top.tw16174758807025615021 : True := trivial
theorem top.tw11430207588045935325 : True := trivial
theorem top.tw14796646475526232899 : True := trivial
theorem top.tw4571971715460732019 : True := trivial
theorem top.tw14218365931652832948 : True := trivial
theorem top.tw1814787853859245837 : True := trivial
theorem top.tw728428047077509346 : True := trivial
theorem top.tw8810280945414196856 : True := trivial
theorem top.tw517144808224063464 : True := trivial
theorem top.tw10448899703829047738 : True := trivial
theorem top.tw14632489290957082403 : True := trivial
theorem top.tw15503665604740900718 : True := trivial
theorem top.tw16044733080236030384 : True := trivial
theorem top.tw256736037520128854 : True := trivial
theorem top.tw10548783162686979305 : True := trivial
theorem top.tw17323899518341599180 : True := trivial
theorem top.tw13090165191389475591 : True := trivial
theorem top.tw16580785732701462914 : True := trivial
theorem top.tw2731995056826638727 : True := trivial
theorem top.tw6812286434817487243 : True := trivial
theorem top.tw3195968871104189447 : True := trivial
theorem top.tw11203750815551599093 : True := trivial
theorem top.tw16204670001084760307 : True := trivial
theorem top.tw7809542927614979858 : True := trivial
theorem top.tw8363718466572441477 : True := trivial
theorem top.tw12540527436937284434 : True := trivial
theorem top.tw788273225186049534 : True := trivial
theorem top.tw9259421805112917234 : True := trivial
theorem top.tw17799576838397608077 : True := trivial
theorem top.tw14697636140705633519 : True := trivial
theorem top.tw14789260269991461300 : True := trivial
theorem top.tw10008474027749305400 : True := trivial
theorem top.tw390997316461189296 : True := trivial
theorem top.tw17428532607074087071 : True := trivial
theorem top.tw13889484949932952446 : True := trivial
theorem top.tw342308947776675178 : True := trivial
theorem top.tw6919701780365589675 : True := trivial
theorem top.tw9382581127745807760 : True := trivial
theorem top.tw7830913209206220567 : True := trivial
theorem top.tw2867133514656366558 : True := trivial
theorem top.tw6189502492464219833 : True := trivial
theorem top.tw15240379268576122478 : True := trivial
theorem top.tw14611434983143301774 : True := trivial
theorem top.tw11050204614295066529 : True := trivial
theorem top.tw15088979973893423861 : True := trivial
theorem top.tw6883741973766446791 : True := trivial
theorem top.tw7566564660964508370 : True := trivial
theorem top.tw10006222313960134694 : True := trivial
theorem top.tw1492452104121835379 : True := trivial
theorem top.tw16405686840318294130 : True := trivial
theorem top.tw16058212318047004132 : True := trivial
theorem top.tw13264354339760550358 : True := trivial
theorem top.tw18008055252877512497 : True := trivial
theorem top.tw4713442408853163898 : True := trivial
theorem top.tw8143265674769528471 : True := trivial
theorem top.tw18245740138792012028 : True := trivial
theorem top.tw6042063481754889096 : True := trivial
theorem top.tw4166218997396506358 : True := trivial
theorem top.tw4275359752975004317 : True := trivial

section
theorem kw_head : True := by
  k_with "o114" => skip
  k_with "o80" => skip
  k_with "o79" => skip
  k_with "xk_head" => o_head (kHook Mine.h0.heap_1 [2, 3, 39, 41, 42, 44, 45, 46, 47, 48, 49, 50, 53, 54, 55, 57, 58, 60, 61, 62, 64, 65, 67, 68, 76, 78, 79, 81, 82, 83, 85, 86, 88, 89, 90, 91, 92, 93, 94, 97, 99, 100, 102, 103, 104, 106, 107, 109, 110, 111, 113, 114, 116, 117, 121, 122, 126, 127, 128, 135, 136, 137, 138, 141, 148, 150, 151, 153, 154, 155, 156, 157, 160, 167, 169, 170, 172, 173, 174, 175, 176, 179, 186, 188, 189, 191, 192, 193, 194, 195, 198, 205, 206, 207, 210, 212, 213, 215, 216, 217, 219, 220, 222, 223, 224, 227, 228, 229, 232, 233, 234, 236, 237, 239, 240, 241, 244, 245, 246, 249, 250, 251, 254, 255] (fun _ => by kernel_rfl))
  trivial
theorem walk.tw7809542927614979858 : True := trivial
set_option Elab.async true in
theorem walk : WalkO view [Str.ofString "UNKNOWN", Str.ofString "_twin_re_1", Str.ofString "_twin_re_2"] (XL view []) (kHook Mine.h0.heap_1 [2, 3, 39, 41, 42, 44, 45, 46, 47, 48, 49, 50, 53, 54, 55, 57, 58, 60, 61, 62, 64, 65, 67, 68, 76, 78, 79, 81, 82, 83, 85, 86, 88, 89, 90, 91, 92, 93, 94, 97, 99, 100, 102, 103, 104, 106, 107, 109, 110, 111, 113, 114, 116, 117, 121, 122, 126, 127, 128, 135, 136, 137, 138, 141, 148, 150, 151, 153, 154, 155, 156, 157, 160, 167, 169, 170, 172, 173, 174, 175, 176, 179, 186, 188, 189, 191, 192, 193, 194, 195, 198, 205, 206, 207, 210, 212, 213, 215, 216, 217, 219, 220, 222, 223, 224, 227, 228, 229, 232, 233, 234, 236, 237, 239, 240, 241, 244, 245, 246, 249, 250, 251, 254, 255] (fun _ => by kernel_rfl)).says PySem.Challenge.rw_xc0016_01.row.toRowW lawD [] (fun f vs => PySem.call f vs) := by
  k_go0
  all_goals (try k_fold)
  rename_i hI hr9 hc1 hc2 K0 hD h1 tk1 F o3 o2 o1 d3 d2 d1 N0 X0
  refine enter_eq (A' := arW _ _ 302 7 (some []) _ []) (l' := lawB) (env' := envW _ _ _) (law_body K0 F (by assumption) N0 (by assumption) (by assumption) hI (by omega) d1 d2 d3 (by decide) (by decide) ?_) (by rfl) (by rfl) (by rfl)
  intro s9 k9
  refine good_bool k9.1 k9.2.1 (k9.2.2.trans (by assumption)) (raisesW_false ?_) ?_
  · wrow_none_raised
  · wrow_post

set_option Elab.async true in
set_option maxRecDepth 100000 in
set_option maxHeartbeats 8000000 in
theorem top : PySem.Challenge.rw_xc0016_01.Holds := by
  w_on; o_law; k_head; (case hw => w_witness2)
  exact walk
end
end Mine
theorem PySem.Challenge.cw_xc0016_01_holds : PySem.Challenge.rw_xc0016_01.Holds := by
  exact Mine.top
