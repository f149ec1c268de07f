import PyProof.Rows.All
import Wide.All
import OpenK.AllK
import Wide.FinOn
import PySem.Challenge.RW_pm0033_01
open PySem PySem.W PyProof.Rows
set_option Elab.async false
set_option maxRecDepth 100000
set_option maxHeartbeats 8000000
set_option linter.unusedVariables false
set_option linter.unusedSimpArgs false
set_option compiler.extract_closed false
namespace Mine
local macro_rules | `(tactic| omega) => `(tactic| first | lia | omega +splitDisjunctions)
section
open_top hd for PySem.Challenge.rw_pm0033_01
end
local macro_rules | `(tactic| walk_at $s:str) => `(tactic| k_extra $s)
theorem top_off : True := by
  w_top off
  exact True.intro
section
abbrev PG : Program := PySem.Challenge.rw_pm0033_01.row.prog

section
variable {prog : Program} {w : World} {A₀ A : Around} {s : Shared} {base h₀ : Heap} {outer : List Env} {L : Addr} {m mg mb : PySem.Str → Option Value} {env : Env} {K : Frag} {p : Program} {loose : List PySem.Str} {mean : ExcName → Option Value}
  {R : Result → Shared → Prop} {name qual : PySem.Str} {params : Arguments} {body : List Stmt} {scope : Scope} {dV kV doc pm cdv ct oc : Value} {an od : Option Addr} {osl : Array (Option Value)} {f : Addr} {args : Args} {binds : List (PySem.Str × Value)}

/-- a def called for reading: all that the caller's heap holds is the ground of the call -/
theorem codeR (B : Below A₀ base outer h₀) (F : Fr h₀ L s.heap m) (X₀ : K.In h₀) (T : Top p loose mean mg mb h₀) (hA : A.frames = some (env :: outer)) (hf : env.frame = some L) (hke : env.scope.kind = .function)
    (ho : K.lookup f = some ⟨oc, od, .func (fnOf name qual params body scope dV kV doc pm an cdv ct), osl⟩) (hcd : codeIn K cdv qual = true) (hroom : A.depth < recursionLimit)
    (hbind : PySem.BindsTo s (fnOf name qual params body scope dV kV doc pm an cdv ct) args binds) (hloc : ∀ y ∈ binds, scope.names.lookup y.1 = some .local)
    (h : ∀ L' h₁, Fr s.heap L' h₁ (fun y => binds.reverse.lookup y) → News s.heap L' h₁ [] → Below A base (env :: outer) s.heap → K.In s.heap → Top p loose mean mg mb s.heap →
      wpAny (model prog w) (A.deeper (envOf qual scope L' f cdv)) (execs body (envOf qual scope L' f cdv))
        (fun fl s' => LeaveK h₀ L m s.heap R (match fl with | .ret v => v | _ => .none) s')
        (fun e s' => wpAny (model prog w) (A.deeper (envOf qual scope L' f cdv)) (leaving (envOf qual scope L' f cdv) e) (fun _ s'' => R (.error e) s'') (fun e' s'' => R (.error e') s'') s')
        { s with heap := h₁, toks := s.toks + binds.length })
    (hco : scope.isCoroutine = false) (hgen : scope.isGenerator = false) (hk : scope.kind = .function)
    (hcell : ∀ x ∈ scope.names, x.2 ≠ .cell) : codeAny (model prog w) A (.call (.ref f) args) R s := by
  obtain ⟨_, BG, _, lv⟩ := groundX (R := R) B F News.nil hA hf hke
  have X := X₀.keeps F.keep
  refine PySem.codeAny_call_def (fd := fnOf name qual params body scope dV kV doc pm an cdv ct) (body := body) (binds := binds) hroom (X _ _ ho) rfl (T.nolimit.keeps F.keep) (codeRec_of X hcd) rfl hbind hcell hloc (fun h₁ hns hk₁ => ?_) hco hgen hk
  exact wpAny_mono (h s.heap.objs.size h₁ ⟨hns, hk₁, Nat.le_refl _⟩ News.nil BG X (T.keeps F.keep)) (fun fl s' hl => lv _ _ hl) fun _ _ y => y
end

/-- what a call of the def at f for these arguments gives: the old objects stand, post says of the value -/
abbrev RC (n : Nat) (w : World) (p : Program) (loose : List PySem.Str) (mean : ExcName → Option Value) (mg mb : PySem.Str → Option Value) (f : Addr) (args : List Value) (pre : Heap → Prop) (post : Heap → Heap → Value → Prop) : Prop :=
  ∀ (dp un : Nat) (gd : Option (List Code)) (cn : PySem.Str) (cs : Scope) (a : Addr) (ccd : Value) (cl : List (PySem.Str × Addr)) (outer : List Env) (A₀ : Around) (base h₀ : Heap) (L : Addr) (m : PySem.Str → Option Value)
    (g : Heap) (gens : Array GenState) (drawn : Drawn) (tk : Nat) (os : OsState) (Q E : Value → Shared → Prop),
    Below A₀ base outer h₀ → Fr h₀ L g m → (hd.heap_39 w.params).In h₀ → Top p loose mean mg mb h₀ → cs.kind = .function → dp + n < recursionLimit → un + 10 * n < cLine → pre g →
    (∀ r h' tk', Fr h₀ L h' m → (∀ b o, g.get? b = some o → h'.get? b = some o) → post g h' r → Q r { heap := h', gens := gens, drawn := drawn, toks := tk', os := os }) →
    wpAny (model PG w) (ktrTop dp un gd cn cs L a ccd cl outer) (call (.ref f) args) Q E { heap := g, gens := gens, drawn := drawn, toks := tk, os := os }
theorem nkeep {h₀ h h' : Heap} {L : Addr} {news : List (Addr × Obj)} (N : News h₀ L h news) (k : ∀ b o, h.get? b = some o → h'.get? b = some o) : News h₀ L h' news := fun p hp => ⟨k _ _ (N p hp).1, (N p hp).2⟩
def theBody (k : Nat) : List Stmt := match PySem.Challenge.pw_pm0033_01.main.body.drop k with | (.FunctionDef _ _ b _ _ _ _ _ _ _) :: _ => b | _ => []
def theScope (k : Nat) : Scope := match PySem.Challenge.pw_pm0033_01.main.body.drop k with | (.FunctionDef _ _ _ _ _ _ sc _ _ _) :: _ => sc | _ => default
theorem fr_kst {h₀ h : Heap} {L : Addr} {m : PySem.Str → Option Value} (F : Fr h₀ L h m) (ps : List (PySem.Str × Value)) (hp : ∀ p ∈ ps, m p.1 = some p.2) : Fr h₀ L h (kstB m ps) := by
  have e : kstB m ps = m := funext fun z => kstB_eq hp fun _ => rfl
  rw [e]; exact F
def Stop (P : Prop) : Prop := P
theorem stop {P : Prop} (h : Stop P) : P := h
end
section
def sgn (i : Int) : Nat := (#[97, 65, 98, 66, 99, 67] : Array Nat).getD i.toNat 0
def tx (ns : List Int) : PySem.Str := ⟨(ns.map sgn).toArray⟩
def Sg (ns : List Int) : Prop := ∀ n ∈ ns, 0 ≤ n ∧ n < 6
theorem Sg.at {ns : List Int} {n : Int} (h : Sg ns) (m : n ∈ ns) : 0 ≤ n ∧ n < 6 := h n m
theorem Sg.take {ns : List Int} (h : Sg ns) (k : Nat) : Sg (ns.take k) := fun n m => h n (List.mem_of_mem_take m)
theorem Sg.drop {ns : List Int} (h : Sg ns) (k : Nat) : Sg (ns.drop k) := fun n m => h n (List.mem_of_mem_drop m)
theorem Sg.app {ns ms : List Int} (h : Sg ns) (h' : Sg ms) : Sg (ns ++ ms) := fun n m => (List.mem_append.mp m).elim (h n) (h' n)
theorem Sg.rev {ns : List Int} (h : Sg ns) : Sg ns.reverse := fun n m => h n (List.mem_reverse.mp m)
theorem tx_length (ns : List Int) : (tx ns).length = ns.length := by simp [tx, PySem.Str.length]
theorem tx_list (ns : List Int) : (tx ns).cps.toList = ns.map sgn := by simp [tx]
theorem sgn_dot (i : Int) : sgn i ≠ 46 := by
  unfold sgn
  match i.toNat with
  | 0 | 1 | 2 | 3 | 4 | 5 => decide
  | n + 6 =>
    show (if h : n + 6 < 6 then _ else 0) ≠ 46
    rw [dif_neg (by omega)]; decide
theorem six {P : Int → Prop} (h0 : P 0) (h1 : P 1) (h2 : P 2) (h3 : P 3) (h4 : P 4) (h5 : P 5) {n : Int} (h : 0 ≤ n ∧ n < 6) : P n := by
  obtain ⟨a, b⟩ := h
  have : n = 0 ∨ n = 1 ∨ n = 2 ∨ n = 3 ∨ n = 4 ∨ n = 5 := by omega
  rcases this with rfl | rfl | rfl | rfl | rfl | rfl <;> assumption
theorem sgn_inj {a b : Int} (ha : 0 ≤ a ∧ a < 6) (hb : 0 ≤ b ∧ b < 6) (h : sgn a = sgn b) : a = b := by
  revert h
  refine six (P := fun a => sgn a = sgn b → a = b) ?_ ?_ ?_ ?_ ?_ ?_ ha <;>
  (refine six (P := fun b => sgn _ = sgn b → _ = b) ?_ ?_ ?_ ?_ ?_ ?_ hb <;> decide)
theorem map_sgn_inj : ∀ {a b : List Int}, Sg a → Sg b → a.map sgn = b.map sgn → a = b
  | [], [], _, _, _ => rfl
  | [], _ :: _, _, _, h => by simp at h
  | _ :: _, [], _, _, h => by simp at h
  | x :: a, y :: b, ha, hb, h => by
    simp only [List.map_cons, List.cons.injEq] at h
    rw [sgn_inj (ha x (.head _)) (hb y (.head _)) h.1, map_sgn_inj (fun n m => ha n (.tail _ m)) (fun n m => hb n (.tail _ m)) h.2]
theorem tx_inj {a b : List Int} (ha : Sg a) (hb : Sg b) (h : tx a = tx b) : a = b :=
  map_sgn_inj ha hb (by rw [← tx_list, ← tx_list, h])
theorem str_ext {x y : PySem.Str} (h : x.cps.toList = y.cps.toList) : x = y := Str.ext' (Array.toList_inj.mp h)
theorem tx_append (a b : List Int) : tx (a ++ b) = tx a ++ tx b := str_ext (by rw [Str.cps_append, Array.toList_append, tx_list, tx_list, tx_list, List.map_append])
theorem tx_nil : tx [] = PySem.Str.ofString "" := by decide +kernel
theorem tx_beq {a b : List Int} (ha : Sg a) (hb : Sg b) : (tx a == tx b) = decide (a = b) := by
  by_cases h : a = b
  · simp [h]
  · simp only [h, decide_false, beq_eq_false_iff_ne, ne_eq]
    exact fun e => h (tx_inj ha hb e)

def dots : PySem.Str := PySem.Str.ofString "..."
theorem dots_is : (PySem.Str.ofString "...") = ⟨#[46, 46, 46]⟩ := by decide +kernel
theorem glued_list (H T : List Int) : (tx H ++ PySem.Str.ofString "..." ++ tx T).cps.toList = H.map sgn ++ [46, 46, 46] ++ T.map sgn := by
  rw [Str.cps_append, Str.cps_append, Array.toList_append, Array.toList_append, tx_list, tx_list, dots_is]
theorem glued_length (H T : List Int) : (tx H ++ PySem.Str.ofString "..." ++ tx T).length = H.length + 3 + T.length := by
  show (tx H ++ PySem.Str.ofString "..." ++ tx T).cps.size = _
  rw [← Array.length_toList, glued_list]; simp; omega
theorem dot_at {H T : List Int} {k : Nat} (h : (H.map sgn ++ [46, 46, 46] ++ T.map sgn)[k]? = some 46) : H.length ≤ k ∧ k < H.length + 3 := by
  constructor
  · apply Nat.le_of_not_lt
    intro hk
    rw [List.append_assoc, List.getElem?_append_left (by simpa using hk), List.getElem?_map] at h
    obtain ⟨a, _, e⟩ := Option.map_eq_some_iff.mp h
    exact sgn_dot a e
  · apply Nat.lt_of_not_le
    intro hk
    rw [List.getElem?_append_right (by simpa using hk), List.getElem?_map] at h
    obtain ⟨a, _, e⟩ := Option.map_eq_some_iff.mp h
    exact sgn_dot a e
theorem dots_sub {H T : List Int} {k : Nat} (h : Builtin.Str.subAt (tx H ++ PySem.Str.ofString "..." ++ tx T) (PySem.Str.ofString "...") k = true) : k = H.length := by
  rw [StrLaws.subAt_eq, glued_list, beq_iff_eq, dots_is] at h
  have h : ((H.map sgn ++ [46, 46, 46] ++ T.map sgn).drop k).take 3 = [46, 46, 46] := h
  have g0 : (((H.map sgn ++ [46, 46, 46] ++ T.map sgn).drop k).take 3)[0]? = some 46 := by rw [h]; rfl
  have g2 : (((H.map sgn ++ [46, 46, 46] ++ T.map sgn).drop k).take 3)[2]? = some 46 := by rw [h]; rfl
  rw [List.getElem?_take_of_lt (by decide), List.getElem?_drop] at g0 g2
  have := (dot_at g0).1
  have := (dot_at g2).2
  omega
theorem dots_here (H T : List Int) : Builtin.Str.subAt (tx H ++ PySem.Str.ofString "..." ++ tx T) (PySem.Str.ofString "...") H.length = true := by
  rw [StrLaws.subAt_eq, glued_list, beq_iff_eq, dots_is]
  show ((H.map sgn ++ [46, 46, 46] ++ T.map sgn).drop H.length).take 3 = [46, 46, 46]
  rw [List.append_assoc, List.drop_append_of_le_length (by simp), List.drop_of_length_le (by simp)]
  rfl
theorem dots_len : (PySem.Str.ofString "...").length = 3 := by rw [dots_is]; rfl
theorem dots_occ (H T : List Int) : Builtin.Str.occurrences (tx H ++ PySem.Str.ofString "..." ++ tx T) (PySem.Str.ofString "...") 0 (tx H ++ PySem.Str.ofString "..." ++ tx T).length ((tx H ++ PySem.Str.ofString "..." ++ tx T).length + 1) = [H.length] := by
  obtain ⟨f, hc, hn⟩ := StrLaws.occ_tight (tx H ++ PySem.Str.ofString "..." ++ tx T) (PySem.Str.ofString "...") (by rw [dots_len]; decide)
  revert hc
  generalize Builtin.Str.occurrences (tx H ++ PySem.Str.ofString "..." ++ tx T) (PySem.Str.ofString "...") 0 (tx H ++ PySem.Str.ofString "..." ++ tx T).length ((tx H ++ PySem.Str.ofString "..." ++ tx T).length + 1) = l
  intro hc
  have here : StrLaws.At (tx H ++ PySem.Str.ofString "..." ++ tx T) (PySem.Str.ofString "...") (tx H ++ PySem.Str.ofString "..." ++ tx T).length H.length := ⟨by rw [glued_length, dots_len]; omega, dots_here H T⟩
  cases l with
  | nil =>
    have e : f = 0 := hc
    exact absurd here (hn _ (by omega))
  | cons c r =>
    obtain ⟨_, hA, _, hr⟩ := hc
    have ec := dots_sub hA.2
    cases r with
    | nil => rw [ec]
    | cons d r =>
      obtain ⟨h1, hA', _⟩ := hr
      have ed := dots_sub hA'.2
      rw [dots_len] at h1
      omega
theorem dots_split (H T : List Int) : Txt.split (tx H ++ PySem.Str.ofString "..." ++ tx T) (PySem.Str.ofString "...") = [tx H, tx T] := by
  unfold Txt.split
  have k3 : Builtin.Str.strKind (PySem.Str.ofString "...") = 1 := by rw [dots_is]; decide +kernel
  have k1 : ∀ x : PySem.Str, 1 ≤ Builtin.Str.strKind x := fun x => by unfold Builtin.Str.strKind; (repeat' split) <;> omega
  rw [if_neg (by
    rw [Bool.or_eq_true, decide_eq_true_eq, decide_eq_true_eq, glued_length, dots_len, k3]
    have := k1 (tx H ++ PySem.Str.ofString "..." ++ tx T)
    omega), dots_occ, if_neg (by simp)]
  unfold Builtin.Str.partsBetween
  rw [dots_len]
  show [Builtin.Str.strSub _ 0 H.length, Builtin.Str.strSub _ (H.length + 3) _] = _
  congr 1
  · refine str_ext ?_
    rw [StrLaws.strSub_toList, glued_list, tx_list]
    simp [List.append_assoc]
  · congr 1
    refine str_ext ?_
    rw [StrLaws.strSub_toList, glued_list, glued_length, tx_list, List.drop_append, List.drop_of_length_le (by simp)]
    simp [List.take_of_length_le]
theorem dots_found (H T : List Int) : (Builtin.Str.occurrences (tx H ++ PySem.Str.ofString "..." ++ tx T) (PySem.Str.ofString "...") 0 (tx H ++ PySem.Str.ofString "..." ++ tx T).length 1).isEmpty = false := by
  have h := (StrLaws.found_iff (tx H ++ PySem.Str.ofString "..." ++ tx T) (PySem.Str.ofString "...")).mpr ⟨H.length, by rw [glued_length, dots_len]; omega, dots_here H T⟩
  simpa using h
open PySem.Builtin PySem.Builtin.Str
theorem gives_find_range (x y : PySem.Str) (i j : Int) (t u v v' : Tok) : Gives (Builtin.«str.find» ⟨[.str x t, .str y u, .int i v, .int j v'], []⟩) (.int (match occurrences x y (fromIndex x.length i) (min (fromIndex x.length j) x.length) 1 with | k :: _ => (k : Int) | [] => -1)) := by
  show Gives (match occurrences x y (fromIndex x.length i) (min (fromIndex x.length j) x.length) 1 with | k :: _ => retInt k | [] => (do rule "str.find.not-found"; retInt (-1))) _
  cases occurrences x y (fromIndex x.length i) (min (fromIndex x.length j) x.length) 1 with
  | nil => exact .rule (.of_eq rfl)
  | cons k _ => exact .of_eq rfl
theorem occ_empty (x y : PySem.Str) (lo hi : Nat) (hy : y.cps = #[]) (h : lo ≤ hi) (hx : hi ≤ x.length) : (match occurrences x y lo hi 1 with | k :: _ => (k : Int) | [] => -1) = (lo : Int) := by
  have key : (occurrences x y lo hi 1)[0]? = some lo := by
    rw [StrLaws.occ_eq]
    obtain ⟨m, hm⟩ : ∃ m, hi + 1 - lo = m + 1 := ⟨hi - lo, by omega⟩
    rw [hm, List.range'_succ, List.forIn_cons]
    have hy0 : y.length = 0 := by show y.cps.size = 0; rw [hy]; rfl
    have hs : subAt x y lo = true := by rw [StrLaws.subAt_eq, hy0, hy]; simp
    unfold StrLaws.occBody
    rw [if_pos (by simp [hy0, hs, h])]
    have := StrLaws.occ_head_keeps x y hi 1 lo (List.range' (lo + 1) m) (#[lo], lo + y.length) (by simp)
    rw [← Array.getElem?_toList] at this
    exact this
  revert key
  cases occurrences x y lo hi 1 with
  | nil => intro h; simp at h
  | cons k r => intro h; simp at h; rw [h]
theorem find_range_call {prog : Program} {w : World} {A : Around} {E : Value → Shared → Prop} {s : Shared} {x y : PySem.Str} {t u v v' : Tok} {i j : Int} {Q : Value → Shared → Prop}
    (hq : Q (.int (match occurrences x y (fromIndex x.length i) (min (fromIndex x.length j) x.length) 1 with | k :: _ => (k : Int) | [] => -1) s.toks) { s with toks := s.toks + 1 }) :
    wpAny (model prog w) A (call (.builtin "str.find") [.str x t, .str y u, .int i v, .int j v']) Q E s :=
  PySem.call_gives F.slot_str_find (typeIs_str _ _ _) F.entry_str_find (F.args_str_find_4 _ _ _ _) (gives_find_range x y i j t u v v') hq
/-- the empty text is found where the search starts -/
theorem find_empty {prog : Program} {w : World} {A : Around} {E : Value → Shared → Prop} {s : Shared} {x y : PySem.Str} {t u v v' : Tok} {i j : Int} {Q : Value → Shared → Prop} (hy : y.length = 0) (h0 : 0 ≤ i) (hij : i ≤ j) (hj : j ≤ (x.length : Int))
    (hq : Q (.int i s.toks) { s with toks := s.toks + 1 }) :
    wpAny (model prog w) A (call (.builtin "str.find") [.str x t, .str y u, .int i v, .int j v']) Q E s := by
  refine find_range_call ?_
  rw [occ_empty x y _ _ (Array.eq_empty_of_size_eq_zero hy) (by unfold fromIndex; rw [if_neg (by omega), if_neg (by omega)]; omega) (Nat.min_le_right _ _)]
  unfold fromIndex
  rw [if_neg (by omega), show (((max 0 i).toNat : Nat) : Int) = i by omega]
  exact hq
end
section
/-! plain law: edit alignments; no program in sight -/
/-- the price of a sign put for another: nothing, its other size, another letter -/
def sc (x y : Int) : Int := if x = y then 0 else if x.fdiv 2 = y.fdiv 2 then 1 else 2
theorem sc_self (x : Int) : sc x x = 0 := by simp [sc]
theorem sc_comm (x y : Int) : sc x y = sc y x := by
  unfold sc
  by_cases h : x = y
  · subst h; rfl
  · rw [if_neg h, if_neg (Ne.symm h)]
    by_cases h2 : x.fdiv 2 = y.fdiv 2
    · rw [if_pos h2, if_pos h2.symm]
    · rw [if_neg h2, if_neg (Ne.symm h2)]
theorem sc_nonneg (x y : Int) : 0 ≤ sc x y := by unfold sc; (repeat' split) <;> omega
theorem sc_le (x y : Int) : sc x y ≤ 2 := by unfold sc; (repeat' split) <;> omega

inductive Al : List Int → List Int → Int → Prop
  | nil : Al [] [] 0
  | del (x : Int) {a b : List Int} {c : Int} : Al a b c → Al (x :: a) b (c + 2)
  | ins (y : Int) {a b : List Int} {c : Int} : Al a b c → Al a (y :: b) (c + 2)
  | sub (x y : Int) {a b : List Int} {c : Int} : Al a b c → Al (x :: a) (y :: b) (c + sc x y)

theorem Al.cast {a b : List Int} {c c' : Int} (h : Al a b c) (e : c = c') : Al a b c' := e ▸ h
theorem Al.nonneg {a b : List Int} {c : Int} (h : Al a b c) : 0 ≤ c := by
  induction h with
  | nil => exact Int.le_refl _
  | del x _ ih => omega
  | ins y _ ih => omega
  | sub x y _ ih => have := sc_nonneg x y; omega
theorem Al.symm {a b : List Int} {c : Int} (h : Al a b c) : Al b a c := by
  induction h with
  | nil => exact .nil
  | del x _ ih => exact .ins x ih
  | ins y _ ih => exact .del y ih
  | sub x y _ ih => rw [sc_comm]; exact .sub y x ih
theorem Al.app {a b a' b' : List Int} {c c' : Int} (h : Al a b c) (h' : Al a' b' c') : Al (a ++ a') (b ++ b') (c + c') := by
  induction h with
  | nil => exact h'.cast (by omega)
  | del x _ ih => exact (Al.del x ih).cast (by omega)
  | ins y _ ih => exact (Al.ins y ih).cast (by omega)
  | sub x y _ ih => exact (Al.sub x y ih).cast (by omega)
theorem Al.rev {a b : List Int} {c : Int} (h : Al a b c) : Al a.reverse b.reverse c := by
  induction h with
  | nil => exact .nil
  | del x _ ih =>
    rw [List.reverse_cons]
    have := ih.app (Al.del x Al.nil)
    rw [List.append_nil] at this
    exact this.cast (by omega)
  | ins y _ ih =>
    rw [List.reverse_cons]
    have := ih.app (Al.ins y Al.nil)
    rw [List.append_nil] at this
    exact this.cast (by omega)
  | sub x y _ ih =>
    rw [List.reverse_cons, List.reverse_cons]
    exact (ih.app (Al.sub x y Al.nil)).cast (by omega)
theorem Al.refl : ∀ a : List Int, Al a a 0
  | [] => .nil
  | x :: a => (Al.sub x x (Al.refl a)).cast (by rw [sc_self]; rfl)
theorem al_nil : ∀ b : List Int, Al [] b (2 * (b.length : Int))
  | [] => .nil
  | y :: b => (Al.ins y (al_nil b)).cast (by rw [List.length_cons]; omega)
theorem al_nil_is {b : List Int} {c : Int} (h : Al [] b c) : c = 2 * (b.length : Int) := by
  generalize e : ([] : List Int) = a at h
  induction h with
  | nil => rfl
  | del x _ _ => cases e
  | ins y _ ih => rw [ih e, List.length_cons]; omega
  | sub x y _ _ => cases e
theorem Al.len {a b : List Int} {c : Int} (h : Al a b c) : 2 * ((b.length : Int) - (a.length : Int)) ≤ c := by
  induction h with
  | nil => exact Int.le_refl _
  | del x _ ih => simp only [List.length_cons]; omega
  | ins y _ ih => simp only [List.length_cons]; omega
  | sub x y _ ih => have := sc_nonneg x y; simp only [List.length_cons]; omega
/-- a sign less costs two at most -/
theorem Al.less {a b b' : List Int} {c y : Int} (h : Al a b' c) (e : b' = y :: b) : ∃ c', Al a b c' ∧ c' ≤ c + 2 := by
  induction h generalizing b with
  | nil => cases e
  | del x _ ih => obtain ⟨c', h1, h2⟩ := ih e; exact ⟨_, .del x h1, by omega⟩
  | ins z h ih => cases e; exact ⟨_, h, by omega⟩
  | sub x z h ih => cases e; have := sc_nonneg x y; exact ⟨_, .del x h, by omega⟩
theorem Al.less' {a b : List Int} {c x : Int} (h : Al (x :: a) b c) : ∃ c', Al a b c' ∧ c' ≤ c + 2 := by
  obtain ⟨c', h1, h2⟩ := h.symm.less rfl
  exact ⟨c', h1.symm, h2⟩
/-- an alignment parted at a place of the second text -/
theorem Al.part {a b : List Int} {c : Int} (h : Al a b c) : ∀ i, i ≤ b.length → ∃ j c1 c2, j ≤ a.length ∧ Al (a.take j) (b.take i) c1 ∧ Al (a.drop j) (b.drop i) c2 ∧ c = c1 + c2 := by
  induction h with
  | nil => intro i hi; exact ⟨0, 0, 0, Nat.le_refl _, by simpa using Al.nil, by simpa using Al.nil, rfl⟩
  | @del x a b c h ih =>
    intro i hi
    obtain ⟨j, c1, c2, hj, h1, h2, e⟩ := ih i hi
    exact ⟨j + 1, c1 + 2, c2, by simpa using hj, by simpa using Al.del x h1, by simpa using h2, by omega⟩
  | @ins y a b c h ih =>
    intro i hi
    cases i with
    | zero => exact ⟨0, 0, _, Nat.zero_le _, by simpa using Al.nil, by simpa using Al.ins y h, by omega⟩
    | succ i =>
      obtain ⟨j, c1, c2, hj, h1, h2, e⟩ := ih i (by simpa using hi)
      exact ⟨j, c1 + 2, c2, hj, by simpa using Al.ins y h1, by simpa using h2, by omega⟩
  | @sub x y a b c h ih =>
    intro i hi
    cases i with
    | zero => exact ⟨0, 0, _, Nat.zero_le _, by simpa using Al.nil, by simpa using Al.sub x y h, by omega⟩
    | succ i =>
      obtain ⟨j, c1, c2, hj, h1, h2, e⟩ := ih i (by simpa using hi)
      exact ⟨j + 1, c1 + sc x y, c2, by simpa using hj, by simpa using Al.sub x y h1, by simpa using h2, by omega⟩

/-- the edit distance -/
def Dist (a b : List Int) (d : Int) : Prop := Al a b d ∧ ∀ c, Al a b c → d ≤ c
theorem Dist.uniq {a b : List Int} {d d' : Int} (h : Dist a b d) (h' : Dist a b d') : d = d' := Int.le_antisymm (h.2 _ h'.1) (h'.2 _ h.1)
theorem Dist.symm {a b : List Int} {d : Int} (h : Dist a b d) : Dist b a d := ⟨h.1.symm, fun c hc => h.2 c hc.symm⟩
theorem Dist.rev {a b : List Int} {d : Int} (h : Dist a b d) : Dist a.reverse b.reverse d :=
  ⟨h.1.rev, fun c hc => h.2 c (by simpa using hc.rev)⟩
theorem dist_nil (b : List Int) : Dist [] b (2 * (b.length : Int)) := ⟨al_nil b, fun c hc => Int.le_of_eq (al_nil_is hc).symm⟩
theorem dist_nil' (a : List Int) : Dist a [] (2 * (a.length : Int)) := (dist_nil a).symm
theorem dist_self (a : List Int) : Dist a a 0 := ⟨Al.refl a, fun _ hc => hc.nonneg⟩
theorem dist_cons {a b : List Int} {x y d1 d2 d3 : Int} (h1 : Dist a b d1) (h2 : Dist (x :: a) b d2) (h3 : Dist a (y :: b) d3) :
    Dist (x :: a) (y :: b) (min (min d2 d3 + 2) (d1 + sc x y)) := by
  constructor
  · rcases Int.le_total (d1 + sc x y) (min d2 d3 + 2) with h | h
    · rw [Int.min_eq_right h]; exact .sub x y h1.1
    · rw [Int.min_eq_left h]
      rcases Int.le_total d2 d3 with h' | h'
      · rw [Int.min_eq_left h']; exact .ins y h2.1
      · rw [Int.min_eq_right h']; exact .del x h3.1
  · intro c hc
    cases hc with
    | del _ h => have := h3.2 _ h; omega
    | ins _ h => have := h2.2 _ h; omega
    | sub _ _ h => have := h1.2 _ h; omega
theorem dist_snoc {a b : List Int} {x y d1 d2 d3 : Int} (h1 : Dist a b d1) (h2 : Dist (a ++ [x]) b d2) (h3 : Dist a (b ++ [y]) d3) :
    Dist (a ++ [x]) (b ++ [y]) (min (min d2 d3 + 2) (d1 + sc x y)) := by
  have := (dist_cons (x := x) (y := y) h1.rev (by simpa using h2.rev) (by simpa using h3.rev)).rev
  simpa using this
theorem dist_pre1 {a b : List Int} {d : Int} (x : Int) (h : Dist a b d) : Dist (x :: a) (x :: b) d := by
  constructor
  · exact (Al.sub x x h.1).cast (by rw [sc_self]; omega)
  · intro c hc
    cases hc with
    | del _ q => obtain ⟨c', h1, h2⟩ := q.less rfl; have := h.2 _ h1; omega
    | ins _ q => obtain ⟨c', h1, h2⟩ := q.less'; have := h.2 _ h1; omega
    | sub _ _ q => have := h.2 _ q; rw [sc_self]; omega
theorem dist_pre {a b : List Int} {d : Int} (h : Dist a b d) : ∀ p : List Int, Dist (p ++ a) (p ++ b) d
  | [] => h
  | x :: p => dist_pre1 x (dist_pre h p)
theorem dist_post {a b : List Int} {d : Int} (h : Dist a b d) (q : List Int) : Dist (a ++ q) (b ++ q) d := by
  have := (dist_pre h.rev q.reverse).rev
  simpa using this
theorem dist_ex : ∀ a b : List Int, ∃ d, Dist a b d
  | [], b => ⟨_, dist_nil b⟩
  | a, [] => ⟨_, dist_nil' a⟩
  | x :: a, y :: b =>
    let ⟨_, h1⟩ := dist_ex a b
    let ⟨_, h2⟩ := dist_ex (x :: a) b
    let ⟨_, h3⟩ := dist_ex a (y :: b)
    ⟨_, dist_cons h1 h2 h3⟩
end
section
/-! plain law: the one-row table of _levenshtein_distance -/
theorem take_snoc {a : List Int} {j : Nat} {x : Int} (h : a[j]? = some x) : a.take (j + 1) = a.take j ++ [x] := by
  rw [List.take_add_one, h]; rfl
def RowIn (as bs : List Int) (i j : Nat) (row : List Int) : Prop :=
  row.length = as.length ∧ (∀ q, q < j → ∀ v, row[q]? = some v → Dist (as.take (q + 1)) (bs.take (i + 1)) v) ∧ (∀ q, j ≤ q → ∀ v, row[q]? = some v → Dist (as.take (q + 1)) (bs.take i) v)
def InP (as bs : List Int) (i j : Nat) (row : List Int) (dist res mn : Int) : Prop :=
  RowIn as bs i j row ∧ Dist (as.take j) (bs.take i) dist ∧ (j = 0 → res = 2 * (i : Int)) ∧ (0 < j → Dist (as.take j) (bs.take (i + 1)) res) ∧ ∀ q, q < j → ∀ v, row[q]? = some v → mn ≤ v
def OutP (as bs : List Int) (i : Nat) (row : List Int) (res : Int) : Prop :=
  RowIn as bs i 0 row ∧ (0 < i → Dist as (bs.take i) res)

theorem in_start {as bs : List Int} {i : Nat} {row : List Int} {res mn : Int} (h : OutP as bs i row res) (hi : i ≤ bs.length) : InP as bs i 0 row (2 * (i : Int)) (2 * (i : Int)) mn := by
  refine ⟨h.1, ?_, fun _ => rfl, fun h => absurd h (Nat.lt_irrefl 0), fun q hq => absurd hq (Nat.not_lt_zero q)⟩
  have := dist_nil (bs.take i)
  rw [List.length_take, Nat.min_eq_left hi] at this
  simpa using this
theorem in_step {as bs : List Int} {i j : Nat} {row : List Int} {dist res mn x y d r mn' : Int} (h : InP as bs i j row dist res mn) (hi : i ≤ bs.length) (hx : as[j]? = some x) (hy : bs[i]? = some y) (hd : row[j]? = some d)
    (hr : r = min (min res d + 2) (dist + sc x y)) (hm : mn' ≤ mn ∧ mn' ≤ r) : InP as bs i (j + 1) (row.set j r) d r mn' := by
  obtain ⟨⟨hl, hnew, hold⟩, hdist, hres0, hres, hmn⟩ := h
  have hjl : j < as.length := (List.getElem?_eq_some_iff.mp hx).1
  have hjr : j < row.length := by omega +splitDisjunctions
  have hd' : Dist (as.take (j + 1)) (bs.take i) d := hold j (Nat.le_refl _) d hd
  have hR : Dist (as.take (j + 1)) (bs.take (i + 1)) r := by
    rw [take_snoc hx, take_snoc hy]
    rw [take_snoc hx] at hd'
    by_cases h0 : j = 0
    · subst h0
      have e0 := dist_nil (bs.take i ++ [y])
      have e1 : (bs.take i ++ [y]).length = i + 1 := by rw [List.length_append, List.length_take, Nat.min_eq_left hi]; rfl
      rw [e1] at e0
      have e2 := dist_nil (bs.take i)
      rw [List.length_take, Nat.min_eq_left hi] at e2
      have e3 : dist = 2 * (i : Int) := hdist.uniq (by simpa using e2)
      have key := dist_snoc (x := x) (y := y) hdist hd' (by simpa using e0)
      have e4 : r = min (min d (2 * ((i + 1 : Nat) : Int)) + 2) (dist + sc x y) := by
        rw [hr, hres0 rfl, e3]
        have := sc_le x y
        have := sc_nonneg x y
        omega +splitDisjunctions
      rw [e4]; exact key
    · have h1 := hres (Nat.pos_of_ne_zero h0)
      rw [take_snoc hy] at h1
      have key := dist_snoc (x := x) (y := y) hdist hd' h1
      rw [hr, Int.min_comm res d]; exact key
  refine ⟨⟨by rw [List.length_set]; exact hl, fun q hq v hv => ?_, fun q hq v hv => ?_⟩, hd', fun h => absurd h (Nat.succ_ne_zero j), fun _ => hR, fun q hq v hv => ?_⟩
  · by_cases e : q = j
    · subst e; rw [List.getElem?_set_self hjr] at hv; cases hv; exact hR
    · rw [List.getElem?_set_ne (Ne.symm e)] at hv; exact hnew q (by omega +splitDisjunctions) v hv
  · rw [List.getElem?_set_ne (by omega +splitDisjunctions)] at hv; exact hold q (by omega +splitDisjunctions) v hv
  · by_cases e : q = j
    · subst e; rw [List.getElem?_set_self hjr] at hv; cases hv; exact hm.2
    · rw [List.getElem?_set_ne (Ne.symm e)] at hv; exact Int.le_trans hm.1 (hmn q (by omega +splitDisjunctions) v hv)
theorem in_end {as bs : List Int} {i : Nat} {row : List Int} {dist res mn : Int} (h : InP as bs i as.length row dist res mn) (ha : 0 < as.length) : OutP as bs (i + 1) row res := by
  obtain ⟨⟨hl, hnew, _⟩, _, _, hres, _⟩ := h
  refine ⟨⟨hl, fun q hq => absurd hq (Nat.not_lt_zero q), fun q _ v hv => hnew q (by have := (List.getElem?_eq_some_iff.mp hv).1; omega) v hv⟩, fun _ => ?_⟩
  have := hres ha
  rwa [List.take_length] at this
theorem in_bail {as bs : List Int} {i : Nat} {row : List Int} {dist res mn c d : Int} (h : InP as bs i as.length row dist res mn) (ha : 0 < as.length) (hi : i < bs.length) (hc : c < mn) (hd : Dist as bs d) : c < d := by
  obtain ⟨⟨hl, hnew, _⟩, _, _, _, hmn⟩ := h
  obtain ⟨j, c1, c2, hj, h1, h2, e⟩ := hd.1.part (i + 1) hi
  have := h2.nonneg
  have one : ∀ q, q < as.length → ∃ v, Dist (as.take (q + 1)) (bs.take (i + 1)) v ∧ c < v := fun q hq => by
    have hv : row[q]? = some (row[q]'(by omega)) := List.getElem?_eq_getElem (by omega)
    exact ⟨_, hnew q hq _ hv, by have := hmn q hq _ hv; omega⟩
  cases j with
  | succ j =>
    obtain ⟨v, h3, h4⟩ := one j (by omega)
    have := h3.2 _ h1
    omega
  | zero =>
    rw [List.take_zero] at h1
    have e1 := al_nil_is h1
    rw [List.length_take, Nat.min_eq_left (by omega)] at e1
    obtain ⟨v, h3, h4⟩ := one 0 ha
    obtain ⟨x, hx⟩ : ∃ x, as[0]? = some x := ⟨as[0], List.getElem?_eq_getElem ha⟩
    obtain ⟨y, hy⟩ : ∃ y, bs[i]? = some y := ⟨bs[i], List.getElem?_eq_getElem hi⟩
    have q1 := (al_nil (bs.take i)).app (Al.sub x y Al.nil)
    rw [List.length_take, Nat.min_eq_left (by omega)] at q1
    rw [take_snoc hx, take_snoc hy] at h3
    have := h3.2 _ (by simpa using q1)
    have := sc_le x y
    omega
theorem out_start {as : List Int} (bs : List Int) {row : List Int} (hl : row.length = as.length) (hr : ∀ (q : Nat) (v : Int), row[q]? = some v → v = 2 * ((q : Int) + 1)) : OutP as bs 0 row 0 := by
  refine ⟨⟨hl, fun q hq => absurd hq (Nat.not_lt_zero q), fun q _ v hv => ?_⟩, fun h => absurd h (Nat.lt_irrefl 0)⟩
  rw [hr q v hv, List.take_zero]
  have := dist_nil' (as.take (q + 1))
  have hq := (List.getElem?_eq_some_iff.mp hv).1
  rw [List.length_take, Nat.min_eq_left (by omega)] at this
  simpa using this
/-- what _levenshtein_distance gives back -/
def LevSays (as bs : List Int) (c r : Int) : Prop := ∃ d, Dist as bs d ∧ (r = d ∨ (r = c + 1 ∧ c < d))
theorem out_end {as bs : List Int} {row : List Int} {res c : Int} (h : OutP as bs bs.length row res) (hb : 0 < bs.length) : LevSays as bs c res := by
  have := h.2 hb
  rw [List.take_length] at this
  exact ⟨res, this, .inl rfl⟩
theorem says_over {as bs : List Int} {c : Int} (h : ∀ d, Dist as bs d → c < d) : LevSays as bs c (c + 1) := by
  obtain ⟨d, hd⟩ := dist_ex as bs
  exact ⟨d, hd, .inr ⟨rfl, h d hd⟩⟩
theorem LevSays.symm {as bs : List Int} {c r : Int} (h : LevSays as bs c r) : LevSays bs as c r := let ⟨d, h1, h2⟩ := h; ⟨d, h1.symm, h2⟩
theorem says_pre {as bs as' bs' p : List Int} {c r : Int} (h : LevSays as bs c r) (ea : as' = p ++ as) (eb : bs' = p ++ bs) : LevSays as' bs' c r := by
  obtain ⟨d, h1, h2⟩ := h
  rw [ea, eb]
  exact ⟨d, dist_pre h1 p, h2⟩
theorem says_post {as bs as' bs' q : List Int} {c r : Int} (h : LevSays as bs c r) (ea : as' = as ++ q) (eb : bs' = bs ++ q) : LevSays as' bs' c r := by
  obtain ⟨d, h1, h2⟩ := h
  rw [ea, eb]
  exact ⟨d, dist_post h1 q, h2⟩
end
section
def subC (x y : PySem.Str) : Int := if x = y then 0 else if Txt.lower x = Txt.lower y then 1 else 2
theorem subC_cases : ∀ a b : Fin 6, subC (tx [(a.val : Int)]) (tx [(b.val : Int)]) = sc (b.val : Int) (a.val : Int) := by decide +kernel
theorem subC_sc {x y : Int} (hx : 0 ≤ x ∧ x < 6) (hy : 0 ≤ y ∧ y < 6) : subC (tx [y]) (tx [x]) = sc x y := by
  have := subC_cases ⟨y.toNat, by omega⟩ ⟨x.toNat, by omega⟩
  have ey : ((y.toNat : Nat) : Int) = y := by omega
  have ex : ((x.toNat : Nat) : Int) = x := by omega
  simpa only [ex, ey] using this
theorem item_tx {ns : List Int} {i x : Int} (h0 : 0 ≤ i) (hx : ns[i.toNat]? = some x) : Txt.item (tx ns) i = tx [x] := by
  have hl := (List.getElem?_eq_some_iff.mp hx).1
  unfold Txt.item Txt.charAt seqIndex?
  have e : (tx ns).cps[i.toNat]? = some (sgn x) := by
    rw [← Array.getElem?_toList, tx_list, List.getElem?_map, hx]; rfl
  have hl' : i.toNat < (tx ns).length := by rw [tx_length]; exact hl
  dsimp only
  rw [if_neg (show ¬ i < 0 by omega), if_pos (by rw [Bool.and_eq_true, decide_eq_true_eq, decide_eq_true_eq]; omega)]
  show (⟨#[((some i.toNat).bind fun x => (tx ns).cps[x]?).getD 0]⟩ : PySem.Str) = tx [x]
  rw [Option.bind_some, e]
  rfl
theorem sub_at {as bs : List Int} {i j x y : Int} (hsa : Sg as) (hsb : Sg bs) (hi : 0 ≤ i) (hj : 0 ≤ j) (hx : as[i.toNat]? = some x) (hy : bs[j.toNat]? = some y) :
    subC (Txt.item (tx bs) j) (Txt.item (tx as) i) = sc x y := by
  rw [item_tx hi hx, item_tx hj hy]
  exact subC_sc (hsa x (List.mem_of_getElem? hx)) (hsb y (List.mem_of_getElem? hy))
theorem in_startK {as bs pre : List Int} {kN : Int} {row : List Int} {res dist res' mn : Int} {z : List Int} (h : OutP as bs pre.length row res) (hk : kN = 0 + (pre.length : Int)) (hlt : pre.length ≤ bs.length) (hz : z = []) (hd : dist = kN * 2) (hr : res' = kN * 2) :
    InP as bs kN.toNat z.length row dist res' mn := by
  subst hz
  have e : kN.toNat = pre.length := by omega
  rw [e, hd, hr, hk]
  have := in_start (mn := mn) h hlt
  rw [show (0 + (pre.length : Int)) * 2 = 2 * (pre.length : Int) by omega]
  exact this
theorem in_stepK {as bs pre row : List Int} {bi kN dist res mn mn' r : Int} (hsa : Sg as) (hsb : Sg bs) (h : InP as bs bi.toNat pre.length row dist res mn) (hl : row.length = as.length) (hk : kN = 0 + (pre.length : Int)) (hlt : pre.length < as.length) (hb0 : 0 ≤ bi) (hb1 : bi < (bs.length : Int))
    (hr : r = (if dist + subC (Txt.item (tx bs) bi) (Txt.item (tx as) kN) < (if row.getD kN.toNat 0 < res then row.getD kN.toNat 0 else res) + 2 then dist + subC (Txt.item (tx bs) bi) (Txt.item (tx as) kN) else (if row.getD kN.toNat 0 < res then row.getD kN.toNat 0 else res) + 2))
    (hm : mn' ≤ mn ∧ mn' ≤ r) : (row.set kN.toNat r).length = as.length ∧ InP as bs bi.toNat (pre ++ [kN]).length (row.set kN.toNat r) (row.getD kN.toNat 0) r mn' := by
  have ek : kN.toNat = pre.length := by omega
  obtain ⟨x, hx⟩ : ∃ x, as[kN.toNat]? = some x := ⟨_, List.getElem?_eq_getElem (by omega)⟩
  obtain ⟨y, hy⟩ : ∃ y, bs[bi.toNat]? = some y := ⟨_, List.getElem?_eq_getElem (by omega)⟩
  rw [sub_at hsa hsb (by omega) hb0 hx hy] at hr
  have hd : row[kN.toNat]? = some (row.getD kN.toNat 0) := by
    rw [List.getD_eq_getElem?_getD, List.getElem?_eq_getElem (by omega)]; rfl
  refine ⟨by rw [List.length_set]; exact hl, ?_⟩
  rw [ek] at hx hd hr ⊢
  rw [List.length_append, List.length_singleton]
  refine in_step h (by omega) hx hy hd ?_ hm
  rw [hr, Int.min_def, Int.min_def]
  (repeat' split) <;> omega
theorem in_endK {as bs pre row : List Int} {kN dist res mn : Int} {n : Nat} (h : InP as bs kN.toNat (rangeKs 0 n).length row dist res mn) (hn : n = as.length) (hk : kN = 0 + (pre.length : Int)) (ha : 0 < as.length) : OutP as bs (pre ++ [kN]).length row res := by
  rw [rangeKs_length, hn, show kN.toNat = pre.length by omega] at h
  rw [List.length_append, List.length_singleton]
  exact in_end h ha
theorem in_bailK {as bs pre row : List Int} {kN dist res mn c : Int} {n : Nat} (h : InP as bs kN.toNat (rangeKs 0 n).length row dist res mn) (hn : n = as.length) (hk : kN = 0 + (pre.length : Int)) (ha : 0 < as.length) (hp : pre.length < bs.length) (hc : mn > c) : LevSays as bs c (c + 1) := by
  rw [rangeKs_length, hn, show kN.toNat = pre.length by omega] at h
  exact says_over fun d hd => in_bail h ha hp hc hd
theorem out_endK {as bs row : List Int} {res c : Int} {n : Nat} (h : OutP as bs (rangeKs 0 n).length row res) (hn : n = bs.length) (hb : 0 < bs.length) : LevSays as bs c res := by
  rw [rangeKs_length, hn] at h
  exact out_end h hb
end
section
theorem mk_tx {l : List Nat} {ns : List Int} (h : l = ns.map sgn) : (⟨l.toArray⟩ : PySem.Str) = tx ns := by rw [h]; rfl
theorem slice_to {as : List Int} {j : Int} (h0 : 0 ≤ j) (h : j ≤ (as.length : Int)) : Txt.slice (tx as) none (some j) = tx (as.take j.toNat) := by
  have := slice_closes_toL (x := tx as) h0 (by rw [tx_length]; exact h)
  rw [beq_iff_eq.mp this]
  refine mk_tx ?_
  rw [tx_list, show (j - 0) = j by omega, show (0 : Int).toNat = 0 from rfl, List.drop_zero, List.map_take]
theorem slice_from {as : List Int} {i : Int} (h0 : 0 ≤ i) (h : i ≤ (as.length : Int)) : Txt.slice (tx as) (some i) none = tx (as.drop i.toNat) := by
  have := slice_closes_fromL (x := tx as) h0 (by rw [tx_length]; exact h) rfl
  rw [beq_iff_eq.mp this]
  refine mk_tx ?_
  rw [tx_list, tx_length, List.map_drop, List.take_of_length_le (by simp; omega)]
theorem slice_to_neg {as : List Int} {j : Int} (h0 : j < 0) (h : -(as.length : Int) ≤ j) : Txt.slice (tx as) none (some j) = tx (as.take (j + as.length).toNat) := by
  have := slice_closes_to_neg (x := tx as) h0 (by rw [tx_length]; exact h) rfl
  rw [beq_iff_eq.mp this]
  refine mk_tx ?_
  rw [tx_list, tx_length]
  simp [List.map_take]
theorem slice_nn (x : PySem.Str) : Txt.slice x none none = x := by
  unfold Txt.slice
  rw [if_pos]
  simp [Builtin.Str.strSliceIndices, sliceRange]
  omega
section
variable {prog : Program} {w : World} {A : Around} {E : Value → Shared → Prop} {s : Shared} {h₀ : Heap} {L : Addr} {m : PySem.Str → Option Value} {news : List (Addr × Obj)} {as : List Int} {t : Tok} {value slice : PySem.Expr} {Q : Value → Shared → Prop}
theorem sl_nn (hF : Fr h₀ L s.heap m) (hN : News h₀ L s.heap news) (hz : (tx as).length ≤ 1000) (h : ∀ h' t' k, Fr h₀ L h' m → News h₀ L h' news → Q (.str (tx as) t') { s with heap := h', toks := k })
    (hs : subscripted slice false (.str (tx as) t) (.ref s.heap.objs.size) = operate [.ref s.heap.objs.size, .str (tx as) t] (getItem (.str (tx as) t) (.ref s.heap.objs.size)) := by with_unfolding_all rfl)
    (ht : ∀ r, letTemporaryGo value (.str (tx as) t) r = pure () := by intro _; with_unfolding_all rfl) :
    wpAny (model prog w) A (subscriptTail value slice (.str (tx as) t) (.ref s.heap.objs.size)) Q E { s with heap := s.heap.push { cls := .type "slice", data := .fields #[.none, .none, .none] } } :=
  slice_strN_nn hF hN (fun h' t' k a b => by rw [slice_nn]; exact h h' t' k a b) hs ht (by rw [PySem.sizeLine_eq]; omega)
theorem sl_ns_neg {j : Int} {uj : Tok} (hF : Fr h₀ L s.heap m) (hN : News h₀ L s.heap news) (hz : (tx as).length ≤ 1000) (h0 : j < 0) (h1 : -(as.length : Int) ≤ j) (h : ∀ h' t' k, Fr h₀ L h' m → News h₀ L h' news → ((tx (as.take (j + as.length).toNat)).length : Int) = j + as.length → Q (.str (tx (as.take (j + as.length).toNat)) t') { s with heap := h', toks := k })
    (hs : subscripted slice false (.str (tx as) t) (.ref s.heap.objs.size) = operate [.ref s.heap.objs.size, .str (tx as) t] (getItem (.str (tx as) t) (.ref s.heap.objs.size)) := by with_unfolding_all rfl)
    (ht : ∀ r, letTemporaryGo value (.str (tx as) t) r = pure () := by intro _; with_unfolding_all rfl) :
    wpAny (model prog w) A (subscriptTail value slice (.str (tx as) t) (.ref s.heap.objs.size)) Q E { s with heap := s.heap.push { cls := .type "slice", data := .fields #[.none, .int j uj, .none] } } :=
  slice_strN_ns hF hN (fun h' t' k a b => by rw [slice_to_neg h0 h1]; exact h h' t' k a b (by rw [tx_length, List.length_take]; omega)) hs ht (by rw [PySem.sizeLine_eq]; omega)
theorem sl_sn {j : Int} {uj : Tok} (hF : Fr h₀ L s.heap m) (hN : News h₀ L s.heap news) (hz : (tx as).length ≤ 1000) (h0 : 0 ≤ j) (h1 : j ≤ (as.length : Int)) (h : ∀ h' t' k, Fr h₀ L h' m → News h₀ L h' news → ((tx (as.drop j.toNat)).length : Int) = as.length - j → Q (.str (tx (as.drop j.toNat)) t') { s with heap := h', toks := k })
    (hs : subscripted slice false (.str (tx as) t) (.ref s.heap.objs.size) = operate [.ref s.heap.objs.size, .str (tx as) t] (getItem (.str (tx as) t) (.ref s.heap.objs.size)) := by with_unfolding_all rfl)
    (ht : ∀ r, letTemporaryGo value (.str (tx as) t) r = pure () := by intro _; with_unfolding_all rfl) :
    wpAny (model prog w) A (subscriptTail value slice (.str (tx as) t) (.ref s.heap.objs.size)) Q E { s with heap := s.heap.push { cls := .type "slice", data := .fields #[.int j uj, .none, .none] } } :=
  slice_strN_sn hF hN (fun h' t' k a b => by rw [slice_from h0 h1]; exact h h' t' k a b (by rw [tx_length, List.length_drop]; omega)) hs ht (by rw [PySem.sizeLine_eq]; omega)
end
theorem item_tx_neg {ns : List Int} {i x : Int} (h0 : i < 0) (h1 : -(ns.length : Int) ≤ i) (hx : ns[(i + ns.length).toNat]? = some x) : Txt.item (tx ns) i = tx [x] := by
  have hl := (List.getElem?_eq_some_iff.mp hx).1
  unfold Txt.item Txt.charAt seqIndex?
  have e : (tx ns).cps[(i + ns.length).toNat]? = some (sgn x) := by
    rw [← Array.getElem?_toList, tx_list, List.getElem?_map, hx]; rfl
  dsimp only
  rw [if_pos h0, tx_length, if_pos (by rw [Bool.and_eq_true, decide_eq_true_eq, decide_eq_true_eq]; omega)]
  show (⟨#[((some (i + ns.length).toNat).bind fun x => (tx ns).cps[x]?).getD 0]⟩ : PySem.Str) = tx [x]
  rw [Option.bind_some, e]
  rfl
theorem trim_post {as bs : List Int} {k : Int} (hsa : Sg as) (hsb : Sg bs) (h0 : k ≤ 0) (ha : -(as.length : Int) ≤ k - 1) (hb : -(bs.length : Int) ≤ k - 1) (hq : as.drop (k + as.length).toNat = bs.drop (k + bs.length).toNat)
    (he : (Txt.item (tx as) (k - 1) == Txt.item (tx bs) (k - 1)) = true) :
    k - 1 ≤ 0 ∧ -(as.length : Int) ≤ k - 1 ∧ -(bs.length : Int) ≤ k - 1 ∧ as.drop (k - 1 + as.length).toNat = bs.drop (k - 1 + bs.length).toNat := by
  refine ⟨by omega, ha, hb, ?_⟩
  obtain ⟨x, hx⟩ : ∃ x, as[(k - 1 + as.length).toNat]? = some x := ⟨_, List.getElem?_eq_getElem (by omega)⟩
  obtain ⟨y, hy⟩ : ∃ y, bs[(k - 1 + bs.length).toNat]? = some y := ⟨_, List.getElem?_eq_getElem (by omega)⟩
  rw [item_tx_neg (by omega) ha hx, item_tx_neg (by omega) hb hy, beq_iff_eq] at he
  have e : x = y := by
    have := tx_inj (a := [x]) (b := [y]) (fun n m => by rw [List.mem_singleton.mp m]; exact hsa x (List.mem_of_getElem? hx)) (fun n m => by rw [List.mem_singleton.mp m]; exact hsb y (List.mem_of_getElem? hy)) he
    exact (List.cons.inj this).1
  obtain ⟨ha1, ha2⟩ := List.getElem?_eq_some_iff.mp hx
  obtain ⟨hb1, hb2⟩ := List.getElem?_eq_some_iff.mp hy
  rw [List.drop_eq_getElem_cons ha1, List.drop_eq_getElem_cons hb1, ha2, hb2, e, show (k - 1 + (as.length : Int)).toNat + 1 = (k + as.length).toNat by omega, show (k - 1 + (bs.length : Int)).toNat + 1 = (k + bs.length).toNat by omega, hq]
theorem trim_pre {as bs : List Int} {k : Int} (hsa : Sg as) (hsb : Sg bs) (h0 : 0 ≤ k) (ha : k < (as.length : Int)) (hb : k < (bs.length : Int)) (hq : as.take k.toNat = bs.take k.toNat)
    (he : (Txt.item (tx as) k == Txt.item (tx bs) k) = true) :
    0 ≤ k + 1 ∧ k + 1 ≤ (as.length : Int) ∧ k + 1 ≤ (bs.length : Int) ∧ as.take (k + 1).toNat = bs.take (k + 1).toNat := by
  refine ⟨by omega, by omega, by omega, ?_⟩
  obtain ⟨x, hx⟩ : ∃ x, as[k.toNat]? = some x := ⟨_, List.getElem?_eq_getElem (by omega)⟩
  obtain ⟨y, hy⟩ : ∃ y, bs[k.toNat]? = some y := ⟨_, List.getElem?_eq_getElem (by omega)⟩
  rw [item_tx h0 hx, item_tx h0 hy, beq_iff_eq] at he
  have e : x = y := by
    have := tx_inj (a := [x]) (b := [y]) (fun n m => by rw [List.mem_singleton.mp m]; exact hsa x (List.mem_of_getElem? hx)) (fun n m => by rw [List.mem_singleton.mp m]; exact hsb y (List.mem_of_getElem? hy)) he
    exact (List.cons.inj this).1
  rw [show (k + 1).toNat = k.toNat + 1 by omega, take_snoc hx, take_snoc hy, hq, e]
end
section
/-! plain law: the table of _law_least -/
theorem al_max : ∀ a b : List Int, ∃ c, Al a b c ∧ c ≤ 2 * max (a.length : Int) (b.length : Int)
  | [], b => ⟨_, al_nil b, by rw [List.length_nil]; omega⟩
  | x :: a, [] => ⟨_, (al_nil (x :: a)).symm, by rw [List.length_nil]; omega⟩
  | x :: a, y :: b => by
    obtain ⟨c, h1, h2⟩ := al_max a b
    refine ⟨_, .sub x y h1, ?_⟩
    have := sc_le x y
    simp only [List.length_cons]
    omega
theorem sc_cheap {x y : Int} (h : sc x y < 2) : x.fdiv 2 = y.fdiv 2 := by
  unfold sc at h
  by_cases e : x = y
  · rw [e]
  · rw [if_neg e] at h
    by_cases f : x.fdiv 2 = y.fdiv 2
    · exact f
    · rw [if_neg f] at h; omega
theorem sc_abs {x y : Int} (h : x.fdiv 2 = y.fdiv 2) : sc x y = ((x - y).natAbs : Int) := by
  unfold sc
  rw [Int.fdiv_eq_ediv_of_nonneg _ (by decide), Int.fdiv_eq_ediv_of_nonneg _ (by decide)] at *
  by_cases e : x = y
  · rw [if_pos e]; omega
  · rw [if_neg e, if_pos h]; omega
theorem al_first {a b : List Int} {c : Int} (h : Al a b c) : 2 * max (a.length : Int) (b.length : Int) ≤ c ∨
    ∃ k m x y c0, a[k]? = some x ∧ b[m]? = some y ∧ sc x y < 2 ∧ Al (a.drop (k + 1)) (b.drop (m + 1)) c0 ∧ c0 + sc x y + 2 * max (k : Int) (m : Int) ≤ c := by
  induction h with
  | nil => left; simp
  | del x _ ih =>
    rcases ih with ih | ⟨k, m, u, v, c0, h1, h2, h3, h4, h5⟩
    · left; simp only [List.length_cons]; omega
    · right; exact ⟨k + 1, m, u, v, c0, by simpa using h1, h2, h3, by simpa using h4, by omega⟩
  | ins y _ ih =>
    rcases ih with ih | ⟨k, m, u, v, c0, h1, h2, h3, h4, h5⟩
    · left; simp only [List.length_cons]; omega
    · right; exact ⟨k, m + 1, u, v, c0, h1, by simpa using h2, h3, by simpa using h4, by omega⟩
  | @sub x y a b c h ih =>
    by_cases hc : sc x y < 2
    · right; exact ⟨0, 0, x, y, c, rfl, rfl, hc, by simpa using h, by simp⟩
    · have := sc_le x y
      rcases ih with ih | ⟨k, m, u, v, c0, h1, h2, h3, h4, h5⟩
      · left; simp only [List.length_cons]; omega
      · right; exact ⟨k + 1, m + 1, u, v, c0, by simpa using h1, by simpa using h2, h3, by simpa using h4, by omega⟩
theorem drop_rev {a : List Int} {k : Nat} (h : k < a.length) : (a.reverse.drop (k + 1)).reverse = a.take (a.length - 1 - k) := by
  rw [List.drop_reverse, List.reverse_reverse]
  congr 1
  omega
theorem al_last {a b : List Int} {c : Int} (h : Al a b c) : 2 * max (a.length : Int) (b.length : Int) ≤ c ∨
    ∃ k m x y c0, a[k]? = some x ∧ b[m]? = some y ∧ sc x y < 2 ∧ Al (a.take k) (b.take m) c0 ∧ c0 + sc x y + 2 * max ((a.length : Int) - k) ((b.length : Int) - m) - 2 ≤ c := by
  rcases al_first h.rev with h1 | ⟨k, m, x, y, c0, h1, h2, h3, h4, h5⟩
  · left; simpa using h1
  · right
    have hk : k < a.length := by have := (List.getElem?_eq_some_iff.mp h1).1; simpa using this
    have hm : m < b.length := by have := (List.getElem?_eq_some_iff.mp h2).1; simpa using this
    rw [List.getElem?_reverse hk] at h1
    rw [List.getElem?_reverse hm] at h2
    have h6 := h4.rev
    rw [drop_rev hk, drop_rev hm] at h6
    exact ⟨_, _, x, y, c0, h1, h2, h3, h6, by omega⟩
def LInv (as bs : List Int) (i j k m : Nat) (c : Int) : Prop :=
  c ≤ 2 * max (i : Int) (j : Int) ∧
  (∀ k' m' x y d, (k' < k ∧ m' < j ∨ k' = k ∧ m' < m) → as[k']? = some x → bs[m']? = some y → sc x y < 2 → Dist (as.take k') (bs.take m') d → c ≤ d + sc x y + 2 * max ((i : Int) - k') ((j : Int) - m') - 2) ∧
  ∃ c', Al (as.take i) (bs.take j) c' ∧ c' ≤ c
theorem linv_start {as bs : List Int} {i j : Nat} (hi : i ≤ as.length) (hj : j ≤ bs.length) : LInv as bs i j 0 0 (2 * max (i : Int) (j : Int)) := by
  refine ⟨Int.le_refl _, fun k' m' _ _ _ h => by omega, ?_⟩
  obtain ⟨c, h1, h2⟩ := al_max (as.take i) (bs.take j)
  rw [List.length_take, List.length_take, Nat.min_eq_left hi, Nat.min_eq_left hj] at h2
  exact ⟨c, h1, h2⟩
theorem linv_no {as bs : List Int} {i j k m : Nat} {c x y : Int} (h : LInv as bs i j k m c) (hx : as[k]? = some x) (hy : bs[m]? = some y) (hn : x.fdiv 2 ≠ y.fdiv 2) : LInv as bs i j k (m + 1) c := by
  refine ⟨h.1, fun k' m' u v d hc hu hv hs hd => ?_, h.2.2⟩
  by_cases e : k' = k ∧ m' = m
  · obtain ⟨rfl, rfl⟩ := e
    rw [hx] at hu; rw [hy] at hv; cases hu; cases hv
    exact absurd (sc_cheap hs) hn
  · exact h.2.1 k' m' u v d (by omega) hu hv hs hd
theorem linv_yes {as bs : List Int} {i j k m : Nat} {c c1 x y d : Int} (h : LInv as bs i j k m c) (hi : i ≤ as.length) (hj : j ≤ bs.length) (hk : k < i) (hm : m < j) (hx : as[k]? = some x) (hy : bs[m]? = some y) (he : x.fdiv 2 = y.fdiv 2)
    (hd : Dist (as.take k) (bs.take m) d) (hc1 : c1 = min c (d + ((x - y).natAbs : Int) + 2 * max ((i : Int) - k) ((j : Int) - m) - 2)) : LInv as bs i j k (m + 1) c1 := by
  rw [← sc_abs he] at hc1
  obtain ⟨h1, h2, c', h3, h4⟩ := h
  refine ⟨by omega, fun k' m' u v d' hc hu hv hs hd' => ?_, ?_⟩
  · by_cases e : k' = k ∧ m' = m
    · obtain ⟨rfl, rfl⟩ := e
      rw [hx] at hu; rw [hy] at hv; cases hu; cases hv
      rw [hd.uniq hd'] at hc1
      omega
    · have := h2 k' m' u v d' (by omega) hu hv hs hd'
      omega
  · rcases Int.le_total c (d + sc x y + 2 * max ((i : Int) - k) ((j : Int) - m) - 2) with hl | hl
    · exact ⟨c', h3, by omega⟩
    · obtain ⟨c2, h5, h6⟩ := al_max ((as.take i).drop (k + 1)) ((bs.take j).drop (m + 1))
      rw [List.length_drop, List.length_drop, List.length_take, List.length_take, Nat.min_eq_left hi, Nat.min_eq_left hj] at h6
      have h7 := (hd.1.app (Al.sub x y Al.nil)).app h5
      have ea : (as.take k ++ [x]) ++ (as.take i).drop (k + 1) = as.take i := by
        rw [← take_snoc hx]
        have : as.take (k + 1) = (as.take i).take (k + 1) := by rw [List.take_take, Nat.min_eq_left (by omega)]
        rw [this, List.take_append_drop]
      have eb : (bs.take m ++ [y]) ++ (bs.take j).drop (m + 1) = bs.take j := by
        rw [← take_snoc hy]
        have : bs.take (m + 1) = (bs.take j).take (m + 1) := by rw [List.take_take, Nat.min_eq_left (by omega)]
        rw [this, List.take_append_drop]
      rw [ea, eb] at h7
      exact ⟨_, h7, by omega⟩
theorem linv_row {as bs : List Int} {i j k : Nat} {c : Int} (h : LInv as bs i j k j c) : LInv as bs i j (k + 1) 0 c :=
  ⟨h.1, fun k' m' x y d hc => h.2.1 k' m' x y d (by omega), h.2.2⟩
theorem linv_end {as bs : List Int} {i j : Nat} {c : Int} (h : LInv as bs i j i 0 c) (hi : i ≤ as.length) (hj : j ≤ bs.length) : Dist (as.take i) (bs.take j) c := by
  obtain ⟨h1, h2, c', h3, h4⟩ := h
  have low : ∀ e, Al (as.take i) (bs.take j) e → c ≤ e := fun e he => by
    rcases al_last he with q | ⟨k, m, x, y, c0, q1, q2, q3, q4, q5⟩
    · rw [List.length_take, List.length_take, Nat.min_eq_left hi, Nat.min_eq_left hj] at q
      omega
    · have hk : k < i := by have := (List.getElem?_eq_some_iff.mp q1).1; rw [List.length_take] at this; omega
      have hm : m < j := by have := (List.getElem?_eq_some_iff.mp q2).1; rw [List.length_take] at this; omega
      rw [List.getElem?_take_of_lt hk] at q1
      rw [List.getElem?_take_of_lt hm] at q2
      rw [List.take_take, List.take_take, Nat.min_eq_left (by omega), Nat.min_eq_left (by omega)] at q4
      rw [List.length_take, List.length_take, Nat.min_eq_left hi, Nat.min_eq_left hj] at q5
      obtain ⟨d, hd⟩ := dist_ex (as.take k) (bs.take m)
      have := h2 k m x y d (.inl ⟨hk, hm⟩) q1 q2 q3 hd
      have := hd.2 _ q4
      omega
  have : c' = c := Int.le_antisymm h4 (low _ h3)
  exact ⟨this ▸ h3, low⟩
end
section
section
variable {prog : Program} {w : World} {A : Around} {E : Value → Shared → Prop} {s : Shared} {env : Env} {h₀ : Heap} {x : PySem.Str} {body : List Stmt} {Q : Flow → Shared → Prop}
/-- a turn's end: the iterator stands, J holds -/
def TurnEnd (h₀ : Heap) (L I : Addr) (io : Obj) (J : (PySem.Str → Option Value) → List (Addr × Obj) → Prop) (s₁ s₂ : Shared) : Prop :=
  ∃ h' tk m' nx, s₂ = { s₁ with heap := h', toks := tk } ∧ Fr h₀ L h' m' ∧ News h₀ L h' ((I, io) :: nx) ∧ (∀ p ∈ nx, p.1 ≠ I) ∧ J m' nx
def TurnPost (h₀ : Heap) (L I : Addr) (io : Obj) (J : (PySem.Str → Option Value) → List (Addr × Obj) → Prop) (s₁ : Shared) (Q : Flow → Shared → Prop) (f : Flow) (s₂ : Shared) : Prop :=
  match f with
  | .ret v => Q (.ret v) s₂
  | .brk => Q .next s₂
  | _ => TurnEnd h₀ L I io J s₁ s₂
/-- a for over a list of any values, its state J free to grow -/
theorem iter_vals {l : Addr} {vs : List Value} {nn : Nat} {m₀ : PySem.Str → Option Value} {news : List (Addr × Obj)} (J : Nat → (PySem.Str → Option Value) → List (Addr × Obj) → Prop)
    (hh : A.handled = none) (hl : s.heap.get? l = some (W.listOf vs.toArray nn)) (hlL : l ≠ env.locals) (F : Fr h₀ env.locals s.heap m₀) (N : News h₀ env.locals s.heap news) (hj : J 0 m₀ news)
    (hk : ∀ i m nx h', J i m nx → (∀ b o, h₀.get? b = some o → h'.get? b = some o) → News h₀ env.locals h' nx → h'.get? l = some (W.listOf vs.toArray nn))
    (turn : ∀ i v m₁ nx h tk I io, vs[i]? = some v → (∀ p ∈ nx, p.1 ≠ I) → J i m₁ nx → Fr h₀ env.locals h (fun y => if y = x then some v else m₁ y) → News h₀ env.locals h ((I, io) :: nx) →
      wpAny (model prog w) A (execs body env) (TurnPost h₀ env.locals I io (J (i + 1)) { s with heap := h, toks := tk } Q) E { s with heap := h, toks := tk })
    (done : ∀ m₁ nx h tk, J vs.length m₁ nx → Fr h₀ env.locals h m₁ → News h₀ env.locals h nx → Q .next { s with heap := h, toks := tk }) :
    wpAny (model prog w) A (pyIter (.ref l)) (fun it s₂ => LoopAtV prog w A h₀ env x body Q E it s₂) E s := by
  have hls : s.heap.IsList l vs.toArray := ⟨_, hl, rfl, nn, rfl⟩
  have hne : l ≠ s.heap.objs.size := Nat.ne_of_lt (Heap.lt_size hl)
  refine wpAny_pyIter_list hls ?_
  have W := Walks.list (prog := prog) (w := w) hh s.heap.objs.size l hne vs.toArray
  refine ⟨_, _, _, vs.toArray.size, _, _, m₀, news, J, rfl, W, ?_, ?_, ?_, ⟨⟨_, Heap.get?_push_size _ rfl, rfl, rfl⟩, hls.at fun o e => Heap.get?_push_of_some _ e⟩, F.push _, (fun p hp => ⟨Heap.get?_push_of_some _ (N p hp).1, (N p hp).2⟩), hj, ?_, ?_⟩
  · intro hm
    rcases List.mem_cons.mp hm with e | hm
    · exact absurd F.ns.lt (e ▸ Nat.lt_irrefl _)
    · exact hlL (List.mem_singleton.mp hm).symm
  · intro b hb
    rw [List.mem_singleton.mp hb]
    exact next_is_new F
  · intro p hp hI
    exact absurd (Heap.lt_size (N p hp).1) ((List.mem_singleton.mp hI) ▸ Nat.lt_irrefl _)
  · rintro i v m₁ nx s₁ own ⟨h, tk, rfl⟩ hi hv hJ hoff hown hget hall hst F₁ N₁
    obtain ⟨io, hio, _⟩ := hst.1
    have hI : (s.heap.objs.size, io) ∈ own := hall _ (.head _) (next_is_new F) io hio
    have off : ∀ p ∈ nx, p.1 ≠ s.heap.objs.size := fun p hp e => hoff p hp (by rw [e]; exact .head _)
    refine wpAny_mono (turn i v m₁ nx h tk _ io (by simpa using hv) off hJ F₁ (fun p hp => ?_)) (fun f s₂ q => ?_) fun _ _ e => e
    · rcases List.mem_cons.mp hp with rfl | hp
      · exact N₁ _ (List.mem_append_left _ hI)
      · exact N₁ p (List.mem_append_right _ hp)
    · have fin : TurnEnd h₀ env.locals s.heap.objs.size io (J (i + 1)) { s with heap := h, toks := tk } s₂ → LoopStepU h₀ env.locals [s.heap.objs.size] own (J (i + 1)) { s with heap := h, toks := tk } .next s₂ := by
        rintro ⟨h', tk', m', nx', e, F', N', off', hJ'⟩
        refine ⟨rfl, h', tk', m', nx', e, F', fun p hp => ?_, fun p hp hm => off' p hp (List.mem_singleton.mp hm), hJ'⟩
        rcases List.mem_append.mp hp with hp | hp
        · have n := N₁ p (List.mem_append_left _ hp)
          rcases List.mem_cons.mp (hown p hp) with e1 | e1
          · have e2 := hget p hp
            rw [e1] at e2
            have e3 : some p.2 = some io := e2.symm.trans hio
            rw [Option.some.inj e3, e1] at *
            exact N' _ (.head _)
          · have e1 := List.mem_singleton.mp e1
            have e2 := hk _ _ _ _ hJ' F'.keep fun q hq => N' q (.tail _ hq)
            have e3 := hk _ _ _ _ hJ F₁.keep fun q hq => N₁ q (List.mem_append_right _ hq)
            have e4 := hget p hp
            rw [e1] at e4
            have e5 : some p.2 = some _ := e4.symm.trans e3
            refine ⟨?_, n.2⟩
            rw [e1, Option.some.inj e5]; exact e2
        · exact N' p (.tail _ hp)
      cases f with
      | ret v => exact .ret q
      | brk => exact .brk q
      | next => exact .next (fin q)
      | cont => exact .cont (fin q)
  · rintro h' tk m' nx F' N' _ hJ
    exact done m' nx h' tk (by simpa using hJ) F' N'
end
section
variable {M : Model} {A : Around} {E : Value → Shared → Prop} {s : Shared} {env : Env} {pos : Pos} {first : List Value} {Q : Value → Shared → Prop}
/-- a function object of the heap, called: it is kept by its frame -/
theorem callWith_fun {P : Heap → Prop} {f : Addr} {e : PySem.Expr} {rest : List PySem.Expr} (hf : ∀ g, P g → ∃ c d fd sl, g.get? f = some ⟨c, d, .func fd, sl⟩)
    (h : wpAny M A (spliced (backTo pos (starEach (e :: rest) env))) (fun vs s₁ => P s₁.heap ∧ wpAny M A (call (.ref f) (first ++ vs)) Q E s₁) E s)
    (he : starEach (e :: rest) env = (false, eval e env) :: starEach rest env := by rfl) (hplain : (backTo pos (starEach rest env)).any (·.1) = false := by rfl) :
    wpAny M A (callWith pos (.ref f) first (backTo pos (starEach (e :: rest) env)) []) Q E s := by
  rw [he] at h ⊢
  refine callWith_of (P := P) (by show ((false || (backTo pos (starEach rest env)).any (·.1)) || false) = false; rw [hplain]; rfl) (fun g hg => ?_) (PySem.Calls.evalArgs_plain h)
  obtain ⟨c, d, fd, sl, q⟩ := hf g hg
  exact ⟨.frame, .inl rfl, (Looks.ld (part := none) q).andThen .now⟩
end
end
section
variable {w : World} {p : Program} {loose : List PySem.Str} {mean : ExcName → Option Value} {mg mb : PySem.Str → Option Value}
theorem c_sub (x y : PySem.Str) (tx ty : Tok) (hx : x.length ≤ 100) (hy : y.length ≤ 100) :
   RC 2 w p loose mean mg mb 42 [.str x tx, .str y ty] (fun _ => True) (fun _ _ r => ∃ t, r = .int (subC x y) t) := by
  k_with_none
  k_with "r_enter" => (refine wpAny_call ?_; k_dflt (refine' codeR ?k1_q1 ?k2_q1 ?k4_q1 ?k5_q1 ?kA_q1 ?kF_q1 ?kK_q1 ?k6_q1 ?k7_q1 ?k8_q1 ?k9_q1 ?kB_q1 ?_ ?c2_q1 ?c3_q1 ?c4_q1 ?c5_q1; (case kA_q1 => exact rfl); (case kF_q1 => exact rfl); (case kK_q1 => assumption); (case k1_q1 => k_asm); (case k2_q1 => k_asm); (case k4_q1 => k_asm); (case k5_q1 => k_asm); (case k6_q1 => k_is); (case k7_q1 => k_is); (case k8_q1 => ktr_room); (case k9_q1 => exact BindsTo.of_eq rfl); (case c5_q1 => decide); (case kB_q1 => exact locs rfl); (case c2_q1 => exact rfl); (case c3_q1 => exact rfl); (case c4_q1 => exact rfl); k_whole); intro _ _ _ _ B_q1 _ _; (try dsimp only); (try k_lift B_q1); (try k_fold))
  k_with "r_start" => (unfold RC; delta PG; k_fill; intro _ _ _ _ _ _ _ _ _ _ _ _ _ _ _ _ _ _ _ _ _ _ _ _ _ _ _ _ _ _)
  walk_at "r_start"; rename_i hpre hret; walk_at "r_enter"
  k_steps
  all_goals (refine hret _ _ _ (by k_asm) (Fr.keep (by k_asm)) ?_; refine ⟨_, congrArg (fun i => Value.int i _) ?_⟩; simp_all [subC])

def cramV (x : PySem.Str) (n : Int) : PySem.Str :=
  if (x.length : Int) > n then
    (let pre := if (n - 3).fdiv 2 > 0 then (n - 3).fdiv 2 else 0
     let post := if n - 3 - pre > 0 then n - 3 - pre else 0
     Txt.slice x none (some pre) ++ PySem.Str.ofString "..." ++ Txt.slice x (some (x.length - post)) none)
  else x
theorem c_cram (x : PySem.Str) (n : Int) (tx tn : Tok) (hx : x.length ≤ 100) (hn : 0 ≤ n) (hn2 : n ≤ 100) :
   RC 2 w p loose mean mg mb 21 [.str x tx, .int n tn] (fun _ => True) (fun _ _ r => ∃ t, r = .str (cramV x n) t) := by
  k_with_none
  k_with "r_enter" => (refine wpAny_call ?_; k_dflt (refine' codeR ?k1_q3 ?k2_q3 ?k4_q3 ?k5_q3 ?kA_q3 ?kF_q3 ?kK_q3 ?k6_q3 ?k7_q3 ?k8_q3 ?k9_q3 ?kB_q3 ?_ ?c2_q3 ?c3_q3 ?c4_q3 ?c5_q3; (case kA_q3 => exact rfl); (case kF_q3 => exact rfl); (case kK_q3 => assumption); (case k1_q3 => k_asm); (case k2_q3 => k_asm); (case k4_q3 => k_asm); (case k5_q3 => k_asm); (case k6_q3 => k_is); (case k7_q3 => k_is); (case k8_q3 => ktr_room); (case k9_q3 => exact BindsTo.of_eq rfl); (case c5_q3 => decide); (case kB_q3 => exact locs rfl); (case c2_q3 => exact rfl); (case c3_q3 => exact rfl); (case c4_q3 => exact rfl); k_whole); intro _ _ _ _ B_q3 _ _; (try dsimp only); (try k_lift B_q3); (try k_fold))
  k_with "r_start" => (unfold RC; delta PG; k_fill; intro _ _ _ _ _ _ _ _ _ _ _ _ _ _ _ _ _ _ _ _ _ _ _ _ _ _ _ _ _ _)
  walk_at "r_start"; rename_i hpre hret; walk_at "r_enter"
  k_steps
  all_goals (refine hret _ _ _ (by k_asm) (Fr.keep (by k_asm)) ⟨_, congrArg (fun i => Value.str i _) ?_⟩; clear hret; first | exact (if_pos (by omega +splitDisjunctions)).symm | exact (if_neg (by omega +splitDisjunctions)).symm)
end
section
section
theorem one_item {n : Int} (h : 0 ≤ n ∧ n < 6) : Txt.item "aAbBcC" n = tx [n] := by
  have hn : n = 0 ∨ n = 1 ∨ n = 2 ∨ n = 3 ∨ n = 4 ∨ n = 5 := by omega
  rcases hn with rfl | rfl | rfl | rfl | rfl | rfl <;> decide +kernel
theorem tx_join1 : ∀ (ns : List Int), Sg ns → PySem.Str.join "" (ns.map (Txt.item "aAbBcC")) = tx ns
  | [], _ => by decide +kernel
  | [n], h => by
    show Txt.item "aAbBcC" n = tx [n]
    exact one_item (h n (.head _))
  | n :: k :: ns, h => by
    show Txt.item "aAbBcC" n ++ "" ++ PySem.Str.join "" ((k :: ns).map (Txt.item "aAbBcC")) = tx (n :: k :: ns)
    rw [tx_join1 (k :: ns) (fun x hx => h x (.tail _ hx)), one_item (h n (.head _)), show tx (n :: k :: ns) = tx [n] ++ tx (k :: ns) from tx_append [n] (k :: ns)]
    refine str_ext ?_
    rw [Str.cps_append, Str.cps_append, Array.toList_append, Array.toList_append, Str.cps_append, Array.toList_append]
    show _ ++ [] ++ _ = _
    rw [List.append_nil]
theorem tx_join (ns : List Int) (h : Sg ns) : Txt.join "" (ns.map (Txt.item "aAbBcC")) = tx ns := by
  rw [← tx_join1 ns h]
  exact StrLaws.glued_eq_join _ _
local macro_rules | `(tactic| walk_at "subscriptTail") => `(tactic| ((with_reducible show wpAny _ _ (subscriptTail _ _ (Value.str _ _) (Value.int _ _)) _ _ _); (with_reducible rename Sg _ => q6'); (have q7' := Sg.at q6' (by assumption)); (refine KXi.item (by kxi_len) (by omega) (by omega) (by decide) ?_); intro kxiE'))
variable {w : World} {p : Program} {loose : List PySem.Str} {mean : ExcName → Option Value} {mg mb : PySem.Str → Option Value}
theorem c_text (l : Addr) (vs : List Value) (ns : List Int) (hi : IntsAre vs ns) (hl : ns.length ≤ 100) (h6 : Sg ns) :
   RC 2 w p loose mean mg mb 59 [.ref l] (fun g => g.IsList l vs.toArray) (fun _ _ r => ∃ t, r = .str (tx ns) t) := by
  k_with_none
  k_with "r_enter" => (refine wpAny_call ?_; k_dflt (refine' codeR ?k1_q5 ?k2_q5 ?k4_q5 ?k5_q5 ?kA_q5 ?kF_q5 ?kK_q5 ?k6_q5 ?k7_q5 ?k8_q5 ?k9_q5 ?kB_q5 ?_ ?c2_q5 ?c3_q5 ?c4_q5 ?c5_q5; (case kA_q5 => exact rfl); (case kF_q5 => exact rfl); (case kK_q5 => assumption); (case k1_q5 => k_asm); (case k2_q5 => k_asm); (case k4_q5 => k_asm); (case k5_q5 => k_asm); (case k6_q5 => k_is); (case k7_q5 => k_is); (case k8_q5 => ktr_room); (case k9_q5 => exact BindsTo.of_eq rfl); (case c5_q5 => decide); (case kB_q5 => exact locs rfl); (case c2_q5 => exact rfl); (case c3_q5 => exact rfl); (case c4_q5 => exact rfl); k_whole); intro _ _ _ _ B_q5 _ _; (try dsimp only); (try k_lift B_q5); (try k_fold))
  k_with "r_start" => (unfold RC; delta PG; k_fill; intro _ _ _ _ _ _ _ _ _ _ _ _ _ _ _ _ _ _ _ _ _ _ _ _ _ _ _ _ _ _)
  walk_at "r_start"; rename_i hpre hret; walk_at "r_enter"
  k_steps
  refine hret _ _ _ (by k_asm) (Fr.keep (by k_asm)) ?_
  exact ⟨_, by rw [tx_join ns h6]⟩
end
end
section
theorem starts_tx {H Z : List Int} (hH : Sg H) (hZ : Sg Z) : Txt.startswith (tx Z) (tx H) = decide (H <+: Z) := by
  unfold Txt.startswith
  rw [StrLaws.subAt_eq, tx_list, tx_list, tx_length, tx_length, List.drop_zero, ← List.map_take]
  by_cases h : H <+: Z
  · have e := List.prefix_iff_eq_take.mp h
    have hl := h.length_le
    simp only [h, decide_true, Nat.zero_add, hl, Bool.true_and, beq_iff_eq]
    rw [← e]
  · simp only [h, decide_false, Bool.and_eq_false_iff, decide_eq_false_iff_not, beq_eq_false_iff_ne, ne_eq]
    refine .inr fun e => h ?_
    have := map_sgn_inj (hZ.take _) hH e
    rw [← this]
    exact List.take_prefix _ _
theorem ends_tx {H Z : List Int} (hH : Sg H) (hZ : Sg Z) : Txt.endswith (tx Z) (tx H) = decide (H <:+ Z) := by
  unfold Txt.endswith
  rw [StrLaws.subAt_eq, tx_list, tx_list, tx_length, tx_length, Nat.zero_add, ← List.map_drop, ← List.map_take]
  by_cases h : H <:+ Z
  · have e := List.suffix_iff_eq_drop.mp h
    have hl := h.length_le
    simp only [h, decide_true, hl, Bool.true_and, beq_iff_eq]
    rw [← e, List.take_length]
  · simp only [h, decide_false, Bool.and_eq_false_iff, decide_eq_false_iff_not, beq_eq_false_iff_ne, ne_eq]
    by_cases hl : H.length ≤ Z.length
    · refine .inr fun e => h ?_
      have e := map_sgn_inj ((hZ.drop _).take _) hH e
      rw [List.take_of_length_le (by simp; omega)] at e
      rw [← e]
      exact List.drop_suffix _ _
    · exact .inl hl
local macro_rules | `(tactic| walk_at "call builtin:str.split") => `(tactic| (k_here; (refine KSpl.split1 (by k_asm) (by k_asm) (by rw [dots_len]; rfl) ?_ (by rw [glued_length, PySem.sizeLine_eq]; omega)); (intro D' l' h' k' e' a' F' N' l1); (try k_lt l1); (rw [dots_split] at e'); (kspl_open e'); (simp only [strValues, List.map_cons, List.map_nil] at N' a')))
variable {w : World} {p : Program} {loose : List PySem.Str} {mean : ExcName → Option Value} {mg mb : PySem.Str → Option Value}
def fitsB (H T Z : List Int) : Bool := decide (H <+: Z) && decide (T <:+ Z) && decide (H.length + T.length ≤ Z.length)
local macro_rules | `(tactic| walk_at "pad 0") => `(tactic| skip)
theorem c_ell (H T Z : List Int) (hH : Sg H) (hT : Sg T) (hZ : Sg Z) (hHl : H.length ≤ 100) (hTl : T.length ≤ 100) (hZl : Z.length ≤ 100) (tw tg : Tok) :
   RC 2 w p loose mean mg mb 35 [.str (tx H ++ PySem.Str.ofString "..." ++ tx T) tw, .str (tx Z) tg] (fun _ => True) (fun _ _ r => r = .bool (fitsB H T Z)) := by
  k_with_none
  k_with "r_enter" => (refine wpAny_call ?_; k_dflt (refine' codeR ?k1_q7 ?k2_q7 ?k4_q7 ?k5_q7 ?kA_q7 ?kF_q7 ?kK_q7 ?k6_q7 ?k7_q7 ?k8_q7 ?k9_q7 ?kB_q7 ?_ ?c2_q7 ?c3_q7 ?c4_q7 ?c5_q7; (case kA_q7 => exact rfl); (case kF_q7 => exact rfl); (case kK_q7 => assumption); (case k1_q7 => k_asm); (case k2_q7 => k_asm); (case k4_q7 => k_asm); (case k5_q7 => k_asm); (case k6_q7 => k_is); (case k7_q7 => k_is); (case k8_q7 => ktr_room); (case k9_q7 => exact BindsTo.of_eq rfl); (case c5_q7 => decide); (case kB_q7 => exact locs rfl); (case c2_q7 => exact rfl); (case c3_q7 => exact rfl); (case c4_q7 => exact rfl); k_whole); intro _ _ _ _ B_q7 _ _; (try dsimp only); (try k_lift B_q7); (try k_fold))
  k_with "r_start" => (unfold RC; delta PG; k_fill; intro _ _ _ _ _ _ _ _ _ _ _ _ _ _ _ _ _ _ _ _ _ _ _ _ _ _ _ _ _ _)
  k_with "compareOp NotIn str str" => (k_here; (refine notIn_str ?_); (rw [dots_found]); dsimp only [Bool.not_true, Bool.not_false])
  k_with "pyIter ref" => ((with_reducible show wpAny _ _ (pyIter (Value.ref _)) (fun it s₂ => LoopAtV _ _ _ _ _ _ _ _ _ it s₂) _ _); k_listUnr)
  k_with "call builtin:str.find" => (k_here; (refine find_empty (by omega) (by omega) (by omega) (by omega) ?_))
  have hxH := tx_length H
  have hxT := tx_length T
  have hxZ := tx_length Z
  walk_at "r_start"; rename_i hpre hret; walk_at "r_enter"
  k_steps
  all_goals first
    | (exfalso; rename (List.isEmpty _ = true) => q; rw [dots_found] at q; cases q)
    | (refine hret _ _ _ (by k_asm) (Fr.keep (by k_asm)) (congrArg Value.bool ?_)
       clear hret
       (try rename (Txt.startswith _ _ = _) => q1)
       (try rw [starts_tx hH hZ] at q1)
       (try rename (Txt.endswith _ _ = _) => q2)
       (try rw [ends_tx hT hZ] at q2)
       have z1 : H.length = 0 → H <+: Z := fun h => by rw [List.eq_nil_of_length_eq_zero h]; exact List.nil_prefix
       have z2 : T.length = 0 → T <:+ Z := fun h => by rw [List.eq_nil_of_length_eq_zero h]; exact List.nil_suffix
       symm
       unfold fitsB
       first
       | (rw [Bool.and_eq_true, Bool.and_eq_true, decide_eq_true_eq, decide_eq_true_eq, decide_eq_true_eq]
          exact ⟨⟨by first | exact of_decide_eq_true q1 | exact z1 (by omega), by first | exact of_decide_eq_true q2 | exact z2 (by omega)⟩, by omega⟩)
       | (rw [Bool.and_eq_false_iff, Bool.and_eq_false_iff, decide_eq_false_iff_not, decide_eq_false_iff_not, decide_eq_false_iff_not]
          first
          | exact .inl (.inl (of_decide_eq_false q1))
          | exact .inl (.inr (of_decide_eq_false q2))
          | exact .inr (by omega)))
end
section
variable {w : World} {p : Program} {loose : List PySem.Str} {mean : ExcName → Option Value} {mg mb : PySem.Str → Option Value}
  {dp un : Nat} {gd : Option (List Code)} {cn : PySem.Str} {cs : Scope} {a : Addr} {ccd : Value} {cl : List (PySem.Str × Addr)} {outer : List Env} {base : Heap} {L : Addr}
  {g h' : Heap} {gens : Array GenState} {drawn : Drawn} {tk : Nat} {os : OsState} {L' : Addr} {m : PySem.Str → Option Value} {Q : Flow → Shared → Prop} {E : Value → Shared → Prop}
abbrev levEnv (L' : Addr) : Env := envOf (PySem.Str.ofString "_levenshtein_distance") (theScope 11) L' 49 (.ref 48)
abbrev levA (dp un : Nat) (gd : Option (List Code)) (cn : PySem.Str) (cs : Scope) (a : Addr) (ccd : Value) (cl : List (PySem.Str × Addr)) (outer : List Env) (L L' : Addr) : Around := (ktrTop dp un gd cn cs L a ccd cl outer).deeper (levEnv L')
abbrev levE (w : World) (dp un : Nat) (gd : Option (List Code)) (cn : PySem.Str) (cs : Scope) (a : Addr) (ccd : Value) (cl : List (PySem.Str × Addr)) (outer : List Env) (L L' : Addr) (E : Value → Shared → Prop) (e : Value) (s' : Shared) : Prop :=
  wpAny (model PG w) (levA dp un gd cn cs a ccd cl outer L L') (leaving (levEnv L') e) (fun _ s'' => E e s'') (fun e' s'' => E e' s'') s'
local macro_rules | `(tactic| walk_at "call ref") => `(tactic| (k_here; k_dflt (refine' c_sub _ _ _ _ ?x1 ?x2 _ _ _ _ _ _ _ _ _ _ _ _ _ _ _ _ _ _ _ _ _ ?k1 ?k2 ?k3 ?k4 ?k5 ?k6 ?k7 trivial ?_); (case x1 => omega); (case x2 => omega); (case k1 => k_asm); (case k2 => k_asm); (case k3 => k_asm); (case k4 => k_asm); (case k5 => first | assumption | exact rfl); (case k6 => ktr_room); (case k7 => ktr_units); (intro r' h' tk' F' hK' hr'; obtain ⟨t', hr'⟩ := hr'; subst hr'; (rename News _ _ _ _ => N'); replace N' := nkeep N' hK')))
theorem list_rangeK {prog : Program} {w : World} {A : Around} {E : Value → Shared → Prop} {s : Shared} {h₀ : Heap} {L : Addr} {m : PySem.Str → Option Value} {Q : Value → Shared → Prop} {r : Addr} {a b c : Int} {t u v : Tok} {n : Nat} {news : List (Addr × Obj)} (hh : A.handled = none) (Fh : Fr h₀ L s.heap m) (N : News h₀ L s.heap news)
    (hr : IsRange s.heap r a b c t u v) (hsmall : Builtin.Range.small a b c = true) (hn : Builtin.Range.rangeSize a b c = (n : Int)) (hlen : n ≤ 2 ^ 24)
    (hQ : ∀ D h' tk (ys : List Value) k, Fr h₀ L h' m → News h₀ L h' ((D, W.listOf ys.toArray k) :: news) → (∀ p ∈ news, p.1 < D) → IntsAre ys (rangeInts a c n) → Q (.ref D) { s with heap := h', toks := tk }) :
    wpAny (model prog w) A (call (.type "list") [.ref r]) Q E s :=
  list_rangeD hh Fh N hr hsmall hn hlen fun h' tk ys F' N' _ hnew _ np hc => by
    have ne := np.ne_locals F'
    obtain ⟨⟨k, e⟩, off⟩ := np
    refine hQ _ h' tk ys k F' (fun p hp => ?_) (fun p hp => Heap.lt_size (N p hp).1) (IntsAre.ofCarried hc)
    rcases List.mem_cons.mp hp with rfl | hp
    · exact ⟨e, ne, hnew⟩
    · exact N' p hp
theorem range_two {n : Nat} {b : Int} (hb : b = 2 * ((n : Int) + 1)) : Builtin.Range.rangeSize 2 b 2 = (n : Int) := by
  subst hb
  unfold Builtin.Range.rangeSize
  rw [if_pos (by decide)]
  split <;> omega
theorem small_two {n : Nat} {b : Int} (hb : b = 2 * ((n : Int) + 1)) (hn : n ≤ 1000) : Builtin.Range.small 2 b 2 = true := by
  unfold Builtin.Range.small
  rw [range_two hb]
  simp only [Builtin.Range.rangeFitsLong, Bool.and_eq_true, Bool.or_eq_true, decide_eq_true_eq, beq_iff_eq, show (2 : Int) > 0 by decide, if_true]
  omega
theorem range_two_val (n : Nat) (q : Nat) (v : Int) (h : (rangeInts 2 2 n)[q]? = some v) : v = 2 * ((q : Int) + 1) := by
  have hq : q < n := by have := (List.getElem?_eq_some_iff.mp h).1; simpa [rangeInts] using this
  rw [rangeInts_get hq] at h
  cases h
  omega
theorem lev5 (as bs : List Int) (c : Int) (ta tb tc : Tok) (hsa : Sg as) (hsb : Sg bs) (hla : (tx as).length ≤ 30) (hlb : (tx bs).length ≤ 30) (hc : -1 ≤ c) (hc2 : c ≤ 100) (ha0 : 0 < as.length) (hab : as.length ≤ bs.length)
   (hdp : dp + 4 < recursionLimit) (hu : un + 40 < cLine) (hk : cs.kind = .function)
   (B : Below (ktrTop dp un gd cn cs L a ccd cl outer) base (envX cn cs L a ccd cl :: outer) g) (F : Fr g L' h' m) (N : News g L' h' []) (X : (hd.heap_39 w.params).In g) (T : Top p loose mean mg mb g)
   (ha : m (PySem.Str.ofString "a") = some (.str (tx as) ta)) (hb : m (PySem.Str.ofString "b") = some (.str (tx bs) tb)) (hcc : m (PySem.Str.ofString "max_cost") = some (.int c tc))
   (hret : Stop (∀ r t h1 m1 tk1, Fr g L' h1 m1 → LevSays as bs c r → Q (.ret (.int r t)) { heap := h1, gens := gens, drawn := drawn, toks := tk1, os := os })) :
   wpAny (model PG w) ((ktrTop dp un gd cn cs L a ccd cl outer).deeper (levEnv L')) (execs ((theBody 11).drop 12) (levEnv L')) Q (levE w dp un gd cn cs a ccd cl outer L L' E) { heap := h', gens := gens, drawn := drawn, toks := tk, os := os } := by
  k_with_none
  k_with "InvEndN" => (refine stop ?_)
  k_with "exec Assign" => (refine wpAny_Assign_Subscript ?_ ?_; rotate_left; with_unfolding_all rfl)
  k_with "pyIter ref" => (refine stop ?_)
  k_with "call type:list" => (refine stop ?_)
  unfold Stop at hret; unfold levE levA; delta PG; revert X; k_fill; intro X
  conv in (List.drop _ _) => whnf
  unfold levEnv
  generalize hsc : theScope 11 = sc9
  conv at hsc => lhs; whnf
  subst hsc
  replace F := fr_kst F [(PySem.Str.ofString "a", .str (tx as) ta), (PySem.Str.ofString "b", .str (tx bs) tb), (PySem.Str.ofString "max_cost", .int c tc)] (by simp [ha, hb, hcc])
  dsimp only [kstB] at F
  have hxa := tx_length as
  have hxb := tx_length bs
  k_steps
  · refine hret _ _ _ _ _ (by k_asm) (says_over fun d hd => ?_)
    have := hd.1.len
    omega
  · unfold Stop
    rename IsRange _ _ _ _ _ _ _ _ => hR
    refine list_rangeK (n := as.length) rfl (by k_asm) (by k_asm) hR ?small (range_two (by omega)) (by omega) ?_
    case small => exact small_two (n := as.length) (by omega) (by omega)
    clear hR
    intro D9 h9 tk9 ys9 n9 F9 N9 l9 hi9
    k_steps
    unfold Stop
    have hstart : OutP as bs ([] : List Int).length (rangeInts 2 2 as.length) 0 := out_start bs (rangeInts_length _ _ _) (range_two_val _)
    k_with "state" => exact ⟨rangeInts_length _ _ _, hstart⟩
    k_state (fun pre row result => row.length = as.length ∧ OutP as bs pre.length row result) "row" "result"
    · k_steps
      unfold Stop
      k_with "state" => exact ⟨by assumption, in_startK (by assumption) (by assumption) (by omega) rfl rfl rfl⟩
      k_with "state" => exact in_stepK hsa hsb (by assumption) (by assumption) (by assumption) (by omega) (by omega) (by omega) rfl ⟨Int.le_of_lt (by assumption), Int.le_refl _⟩
      k_with "state" => exact in_stepK hsa hsb (by assumption) (by assumption) (by assumption) (by omega) (by omega) (by omega) rfl ⟨Int.le_refl _, Int.not_lt.mp (by assumption)⟩
      k_state_given ["bindex"] (fun bi pre row result distance minimum => row.length = as.length ∧ InP as bs bi.toNat pre.length row distance result minimum) "row" "result" "distance" "minimum"
      · k_steps
        all_goals (unfold Stop)
        all_goals kst_close
      · k_with "state" => exact ⟨by assumption, in_endK (by assumption) (by omega) (by assumption) (by omega)⟩
        k_steps
        · exact hret _ _ _ _ _ (by k_asm) (in_bailK (by assumption) (by omega) (by assumption) (by omega) (by omega) (by assumption))
        · unfold Stop
          kst_close
    · k_steps
      exact hret _ _ _ _ _ (by k_asm) (out_endK (by assumption) (by omega) (by omega))
end
section
variable {w : World} {p : Program} {loose : List PySem.Str} {mean : ExcName → Option Value} {mg mb : PySem.Str → Option Value}
  {dp un : Nat} {gd : Option (List Code)} {cn : PySem.Str} {cs : Scope} {a : Addr} {ccd : Value} {cl : List (PySem.Str × Addr)} {outer : List Env} {base : Heap} {L : Addr}
  {g h' : Heap} {gens : Array GenState} {drawn : Drawn} {tk : Nat} {os : OsState} {L' : Addr} {m : PySem.Str → Option Value} {Q : Flow → Shared → Prop} {E : Value → Shared → Prop}
theorem says_empty {as bs : List Int} {c r : Int} (h : as.length = 0 ∨ bs.length = 0) (hr : r = 2 * ((as.length : Int) + (bs.length : Int))) : LevSays as bs c r := by
  rcases h with h | h
  · rw [List.eq_nil_of_length_eq_zero h]
    refine ⟨_, dist_nil bs, .inl ?_⟩
    omega
  · rw [List.eq_nil_of_length_eq_zero h]
    refine ⟨_, dist_nil' as, .inl ?_⟩
    omega
section
local macro_rules | `(tactic| walk_at "use5") => `(tactic| (unfold Stop; (refine' lev5 _ _ _ _ _ _ ?a1 ?a2 ?a3 ?a4 ?a5 ?a6 ?a7 ?a8 ?a9 ?a10 ?a11 ?B ?F News.nil ?X ?T ?h1 ?h2 ?h3 ?hr); (case F => k_asm); (case h1 => exact rfl); (case h2 => exact rfl); (case h3 => exact rfl); (case B => k_asm); (case X => k_asm); (case T => k_asm); (case a1 => assumption); (case a2 => assumption); (case a3 => omega); (case a4 => omega); (case a5 => omega); (case a6 => omega); (case a7 => omega); (case a8 => omega); (case a9 => omega); (case a10 => omega); (case a11 => assumption)))
local macro_rules | `(tactic| walk_at "pad 1") => `(tactic| skip)
theorem lev4 (as bs : List Int) (c : Int) (ta tb tc : Tok) (xa xb : PySem.Str) (exa : xa = tx as) (exb : xb = tx bs) (hsa : Sg as) (hsb : Sg bs) (hla : (tx as).length ≤ 30) (hlb : (tx bs).length ≤ 30) (hc : -1 ≤ c) (hc2 : c ≤ 100)
   (hdp : dp + 4 < recursionLimit) (hu : un + 40 < cLine) (hk : cs.kind = .function)
   (B : Below (ktrTop dp un gd cn cs L a ccd cl outer) base (envX cn cs L a ccd cl :: outer) g) (F : Fr g L' h' m) (N : News g L' h' []) (X : (hd.heap_39 w.params).In g) (T : Top p loose mean mg mb g)
   (ha : m (PySem.Str.ofString "a") = some (.str xa ta)) (hb : m (PySem.Str.ofString "b") = some (.str xb tb)) (hcc : m (PySem.Str.ofString "max_cost") = some (.int c tc))
   (hret : Stop (∀ r t h1 m1 tk1, Fr g L' h1 m1 → LevSays as bs c r → Q (.ret (.int r t)) { heap := h1, gens := gens, drawn := drawn, toks := tk1, os := os })) :
   wpAny (model PG w) (levA dp un gd cn cs a ccd cl outer L L') (execs ((theBody 11).drop 9) (levEnv L')) Q (levE w dp un gd cn cs a ccd cl outer L L' E) { heap := h', gens := gens, drawn := drawn, toks := tk, os := os } := by
  k_with_none
  k_with "execs cons" => (k_here; (with_reducible show wpAny _ _ (execs (Stmt.If (Expr.Compare (Expr.BinOp _ _ _ _) _ _ _) _ _ _ :: _) _) _ _ _); refine stop ?_)
  subst exa exb
  unfold Stop at hret; unfold levE levA; delta PG; revert X; k_fill; intro X
  conv in (List.drop _ _) => whnf
  unfold levEnv
  generalize hsc : theScope 11 = sc9
  conv at hsc => lhs; whnf
  subst hsc
  replace F := fr_kst F [(PySem.Str.ofString "a", .str (tx as) ta), (PySem.Str.ofString "b", .str (tx bs) tb), (PySem.Str.ofString "max_cost", .int c tc)] (by simp [ha, hb, hcc])
  dsimp only [kstB] at F
  have hxa := tx_length as
  have hxb := tx_length bs
  k_steps
  all_goals first
    | exact hret _ _ _ _ _ (by k_asm) (says_empty (by omega) (by omega))
    | (walk_at "use5"
       unfold Stop
       intro r t h1 m1 tk1 F1 hs
       first
       | exact hret _ _ _ _ _ F1 hs
       | exact hret _ _ _ _ _ F1 hs.symm)
end
section
local macro_rules | `(tactic| walk_at "use4") => `(tactic| (unfold Stop; (refine' lev4 _ _ _ _ _ _ _ _ ?ea ?eb ?a1 ?a2 ?a3 ?a4 ?a5 ?a6 ?a7 ?a8 ?a9 ?B ?F News.nil ?X ?T ?h1 ?h2 ?h3 ?hr); (case F => k_asm); (case h1 => exact rfl); (case h2 => exact rfl); (case h3 => exact rfl); (case B => k_asm); (case X => k_asm); (case T => k_asm); (case ea => exact rfl); (case eb => exact rfl); (case a5 => omega); (case a6 => omega); (case a7 => omega); (case a8 => omega); (case a9 => assumption)))
local macro_rules | `(tactic| walk_at "subscriptTail Name Slice str ref") => `(tactic| (k_here; (with_reducible show wpAny _ _ (subscriptTail _ (Expr.Slice none _ none _) (Value.str (tx _) _) (Value.ref _)) _ _ _); (with_reducible rename Fr _ _ _ _ => F'); (with_reducible rename News _ _ _ _ => N'); first
  | ((refine sl_nn (s := ⟨_, _, _, _, _⟩) F' N' (by omega) ?_); intro h9 t9 k9 F9 N9)
  | ((refine sl_ns_neg (s := ⟨_, _, _, _, _⟩) F' N' (by omega) (by omega) (by omega) ?_); intro h9 t9 k9 F9 N9 e9)))
local macro_rules | `(tactic| walk_at "pad 2") => `(tactic| skip)
theorem lev3 (as bs : List Int) (k : Int) (c : Int) (ta tb tc tp : Tok) (hsa : Sg as) (hsb : Sg bs) (hla : as.length ≤ 30) (hlb : bs.length ≤ 30) (hc : -1 ≤ c) (hc2 : c ≤ 100)
   (hk0 : k ≤ 0) (hka : -(as.length : Int) ≤ k) (hkb : -(bs.length : Int) ≤ k) (hq : as.drop (k + as.length).toNat = bs.drop (k + bs.length).toNat)
   (hdp : dp + 4 < recursionLimit) (hu : un + 40 < cLine) (hk : cs.kind = .function)
   (B : Below (ktrTop dp un gd cn cs L a ccd cl outer) base (envX cn cs L a ccd cl :: outer) g) (F : Fr g L' h' m) (N : News g L' h' []) (X : (hd.heap_39 w.params).In g) (T : Top p loose mean mg mb g)
   (ha : m (PySem.Str.ofString "a") = some (.str (tx as) ta)) (hb : m (PySem.Str.ofString "b") = some (.str (tx bs) tb)) (hcc : m (PySem.Str.ofString "max_cost") = some (.int c tc)) (hp : m (PySem.Str.ofString "post") = some (.int k tp))
   (hret : Stop (∀ r t h1 m1 tk1, Fr g L' h1 m1 → LevSays as bs c r → Q (.ret (.int r t)) { heap := h1, gens := gens, drawn := drawn, toks := tk1, os := os })) :
   wpAny (model PG w) (levA dp un gd cn cs a ccd cl outer L L') (execs ((theBody 11).drop 7) (levEnv L')) Q (levE w dp un gd cn cs a ccd cl outer L L' E) { heap := h', gens := gens, drawn := drawn, toks := tk, os := os } := by
  k_with_none
  k_with "execs cons" => (k_here; (with_reducible show wpAny _ _ (execs (Stmt.If (Expr.BoolOp BoolOp.Or (Expr.UnaryOp UnaryOp.Not _ _ :: _) _) _ _ _ :: _) _) _ _ _); refine stop ?_)
  unfold Stop at hret; unfold levE levA; delta PG; revert X; k_fill; intro X
  conv in (List.drop _ _) => whnf
  unfold levEnv
  generalize hsc : theScope 11 = sc9
  conv at hsc => lhs; whnf
  subst hsc
  replace F := fr_kst F [(PySem.Str.ofString "a", .str (tx as) ta), (PySem.Str.ofString "b", .str (tx bs) tb), (PySem.Str.ofString "max_cost", .int c tc), (PySem.Str.ofString "post", .int k tp)] (by simp [ha, hb, hcc, hp])
  dsimp only [kstB] at F
  have hxa := tx_length as
  have hxb := tx_length bs
  rcases Bool.eq_false_or_eq_true (k != 0) with hz | hz
  · have hz0 : k < 0 := by have : k ≠ 0 := by simpa using hz
                           omega
    k_steps
    walk_at "use4"
    · exact hsa.take _
    · exact hsb.take _
    · rw [tx_length, List.length_take]; omega
    · rw [tx_length, List.length_take]; omega
    unfold Stop
    intro r t h1 m1 tk1 F1 hs
    exact hret _ _ _ _ _ F1 (says_post hs (List.take_append_drop _ _).symm (by rw [hq]; exact (List.take_append_drop _ _).symm))
  · k_steps
    walk_at "use4"
    · exact hsa
    · exact hsb
    · omega
    · omega
    unfold Stop
    intro r t h1 m1 tk1 F1 hs
    exact hret _ _ _ _ _ F1 hs
end
end
section
variable {w : World} {p : Program} {loose : List PySem.Str} {mean : ExcName → Option Value} {mg mb : PySem.Str → Option Value}
  {dp un : Nat} {gd : Option (List Code)} {cn : PySem.Str} {cs : Scope} {a : Addr} {ccd : Value} {cl : List (PySem.Str × Addr)} {outer : List Env} {base : Heap} {L : Addr}
  {g h' : Heap} {gens : Array GenState} {drawn : Drawn} {tk : Nat} {os : OsState} {L' : Addr} {m : PySem.Str → Option Value} {Q : Flow → Shared → Prop} {E : Value → Shared → Prop}
section
local macro_rules | `(tactic| walk_at "use3") => `(tactic| (unfold Stop; (refine' lev3 _ _ _ _ _ _ _ _ ?a1 ?a2 ?a3 ?a4 ?a5 ?a6 ?b1 ?b2 ?b3 ?b4 ?a7 ?a8 ?a9 ?B ?F News.nil ?X ?T ?h1 ?h2 ?h3 ?h4 ?hr); (case F => k_asm); (case h1 => exact rfl); (case h2 => exact rfl); (case h3 => exact rfl); (case h4 => exact rfl); (case B => k_asm); (case X => k_asm); (case T => k_asm); (case a1 => assumption); (case a2 => assumption); (case a3 => omega); (case a4 => omega); (case a5 => omega); (case a6 => omega); (case a7 => omega); (case a8 => omega); (case a9 => assumption); (case b1 => omega); (case b2 => omega); (case b3 => omega); (case b4 => assumption)))
local macro_rules | `(tactic| walk_at "subscriptTail Name Slice str ref") => `(tactic| (k_here; (with_reducible show wpAny _ _ (subscriptTail _ (Expr.Slice none _ none _) (Value.str (tx _) _) (Value.ref _)) _ _ _); (with_reducible rename Fr _ _ _ _ => F'); (with_reducible rename News _ _ _ _ => N'); first
  | ((refine sl_nn (s := ⟨_, _, _, _, _⟩) F' N' (by omega) ?_); intro h9 t9 k9 F9 N9)
  | ((refine sl_ns_neg (s := ⟨_, _, _, _, _⟩) F' N' (by omega) (by omega) (by omega) ?_); intro h9 t9 k9 F9 N9 e9)))
theorem lev2 (as bs : List Int) (c : Int) (ta tb tc : Tok) (hsa : Sg as) (hsb : Sg bs) (hla : as.length ≤ 30) (hlb : bs.length ≤ 30) (hc : -1 ≤ c) (hc2 : c ≤ 100)
   (hdp : dp + 4 < recursionLimit) (hu : un + 40 < cLine) (hk : cs.kind = .function)
   (B : Below (ktrTop dp un gd cn cs L a ccd cl outer) base (envX cn cs L a ccd cl :: outer) g) (F : Fr g L' h' m) (N : News g L' h' []) (X : (hd.heap_39 w.params).In g) (T : Top p loose mean mg mb g)
   (ha : m (PySem.Str.ofString "a") = some (.str (tx as) ta)) (hb : m (PySem.Str.ofString "b") = some (.str (tx bs) tb)) (hcc : m (PySem.Str.ofString "max_cost") = some (.int c tc))
   (hret : Stop (∀ r t h1 m1 tk1, Fr g L' h1 m1 → LevSays as bs c r → Q (.ret (.int r t)) { heap := h1, gens := gens, drawn := drawn, toks := tk1, os := os })) :
   wpAny (model PG w) (levA dp un gd cn cs a ccd cl outer L L') (execs ((theBody 11).drop 5) (levEnv L')) Q (levE w dp un gd cn cs a ccd cl outer L L' E) { heap := h', gens := gens, drawn := drawn, toks := tk, os := os } := by
  k_with_none
  k_with "exec While BoolOp cons nil" => (refine stop ?_)
  k_with "KswEnd" => (refine stop ?_)
  k_with "execs cons" => (k_here; (with_reducible show wpAny _ _ (execs (Stmt.Assign _ (Expr.Subscript _ _ _) _ :: _) _) _ _ _); refine stop ?_)
  unfold levE levA; delta PG; revert X; k_fill; intro X
  conv in (List.drop _ _) => whnf
  unfold levEnv
  generalize hsc : theScope 11 = sc9
  conv at hsc => lhs; whnf
  subst hsc
  replace F := fr_kst F [(PySem.Str.ofString "a", .str (tx as) ta), (PySem.Str.ofString "b", .str (tx bs) tb), (PySem.Str.ofString "max_cost", .int c tc)] (by simp [ha, hb, hcc])
  dsimp only [kstB] at F
  have hxa := tx_length as
  have hxb := tx_length bs
  k_steps
  unfold Stop
  have hst : as.drop (0 + (as.length : Int)).toNat = bs.drop (0 + (bs.length : Int)).toNat := by
    rw [List.drop_of_length_le (by omega), List.drop_of_length_le (by omega)]
  k_with_none
  k_with "exec While BoolOp cons nil" => (refine stop ?_)
  k_with "KswEnd" => (refine stop ?_)
  k_with "execs cons" => (k_here; (with_reducible show wpAny _ _ (execs (Stmt.Assign _ (Expr.Subscript _ _ _) _ :: _) _) _ _ _); refine stop ?_)
  k_with "state" => exact ⟨by omega, by omega, by omega, hst⟩
  k_while (fun _ post => post ≤ 0 ∧ -(as.length : Int) ≤ post ∧ -(bs.length : Int) ≤ post ∧ as.drop (post + as.length).toNat = bs.drop (post + bs.length).toNat) (fun _ post => ((as.length : Int) + post).toNat) "post"
  k_with "state" => exact trim_post hsa hsb (by omega) (by omega) (by omega) (by assumption) (by assumption)
  k_steps
  all_goals first
    | (unfold Stop; ksw_close)
    | (walk_at "use3"; exact hret)
end
end
section
variable {w : World} {p : Program} {loose : List PySem.Str} {mean : ExcName → Option Value} {mg mb : PySem.Str → Option Value}
  {dp un : Nat} {gd : Option (List Code)} {cn : PySem.Str} {cs : Scope} {a : Addr} {ccd : Value} {cl : List (PySem.Str × Addr)} {outer : List Env} {base : Heap} {L : Addr}
  {g h' : Heap} {gens : Array GenState} {drawn : Drawn} {tk : Nat} {os : OsState} {L' : Addr} {m : PySem.Str → Option Value} {Q : Flow → Shared → Prop} {E : Value → Shared → Prop}
section
local macro_rules | `(tactic| walk_at "use2") => `(tactic| (unfold Stop; (refine' lev2 _ _ _ _ _ _ ?a1 ?a2 ?a3 ?a4 ?a5 ?a6 ?a7 ?a8 ?a9 ?B ?F News.nil ?X ?T ?h1 ?h2 ?h3 ?hr); (case F => k_asm); (case h1 => exact rfl); (case h2 => exact rfl); (case h3 => exact rfl); (case B => k_asm); (case X => k_asm); (case T => k_asm); (case a5 => omega); (case a6 => omega); (case a7 => omega); (case a8 => omega); (case a9 => assumption)))
local macro_rules | `(tactic| walk_at "subscriptTail Name Slice str ref") => `(tactic| (k_here; (with_reducible show wpAny _ _ (subscriptTail _ (Expr.Slice (some _) none none _) (Value.str (tx _) _) (Value.ref _)) _ _ _); (with_reducible rename Fr _ _ _ _ => F'); (with_reducible rename News _ _ _ _ => N'); (refine sl_sn (s := ⟨_, _, _, _, _⟩) F' N' (by omega) (by omega) (by omega) ?_); intro h9 t9 k9 F9 N9 e9))
local macro_rules | `(tactic| walk_at "pad 3") => `(tactic| skip)
theorem lev1 (as bs : List Int) (k : Int) (c : Int) (ta tb tc tp : Tok) (hsa : Sg as) (hsb : Sg bs) (hla : as.length ≤ 30) (hlb : bs.length ≤ 30) (hc : -1 ≤ c) (hc2 : c ≤ 100)
   (hk0 : 0 ≤ k) (hka : k ≤ (as.length : Int)) (hkb : k ≤ (bs.length : Int)) (hq : as.take k.toNat = bs.take k.toNat)
   (hdp : dp + 4 < recursionLimit) (hu : un + 40 < cLine) (hk : cs.kind = .function)
   (B : Below (ktrTop dp un gd cn cs L a ccd cl outer) base (envX cn cs L a ccd cl :: outer) g) (F : Fr g L' h' m) (N : News g L' h' []) (X : (hd.heap_39 w.params).In g) (T : Top p loose mean mg mb g)
   (ha : m (PySem.Str.ofString "a") = some (.str (tx as) ta)) (hb : m (PySem.Str.ofString "b") = some (.str (tx bs) tb)) (hcc : m (PySem.Str.ofString "max_cost") = some (.int c tc)) (hp : m (PySem.Str.ofString "pre") = some (.int k tp))
   (hret : Stop (∀ r t h1 m1 tk1, Fr g L' h1 m1 → LevSays as bs c r → Q (.ret (.int r t)) { heap := h1, gens := gens, drawn := drawn, toks := tk1, os := os })) :
   wpAny (model PG w) (levA dp un gd cn cs a ccd cl outer L L') (execs ((theBody 11).drop 3) (levEnv L')) Q (levE w dp un gd cn cs a ccd cl outer L L' E) { heap := h', gens := gens, drawn := drawn, toks := tk, os := os } := by
  k_with_none
  k_with "execs cons" => (k_here; (with_reducible show wpAny _ _ (execs (Stmt.Assign _ (Expr.Constant _ _ _) _ :: _) _) _ _ _); refine stop ?_)
  unfold levE levA; delta PG; revert X; k_fill; intro X
  conv in (List.drop _ _) => whnf
  unfold levEnv
  generalize hsc : theScope 11 = sc9
  conv at hsc => lhs; whnf
  subst hsc
  replace F := fr_kst F [(PySem.Str.ofString "a", .str (tx as) ta), (PySem.Str.ofString "b", .str (tx bs) tb), (PySem.Str.ofString "max_cost", .int c tc), (PySem.Str.ofString "pre", .int k tp)] (by simp [ha, hb, hcc, hp])
  dsimp only [kstB] at F
  have hxa := tx_length as
  have hxb := tx_length bs
  k_steps
  walk_at "use2"
  · exact hsa.drop _
  · exact hsb.drop _
  · rw [List.length_drop]; omega
  · rw [List.length_drop]; omega
  unfold Stop at hret ⊢
  intro r t h1 m1 tk1 F1 hs
  exact hret _ _ _ _ _ F1 (says_pre hs (List.take_append_drop _ _).symm (by rw [hq]; exact (List.take_append_drop _ _).symm))
end
section
local macro_rules | `(tactic| walk_at "use1") => `(tactic| (unfold Stop; (refine' lev1 _ _ _ _ _ _ _ _ ?a1 ?a2 ?a3 ?a4 ?a5 ?a6 ?b1 ?b2 ?b3 ?b4 ?a7 ?a8 ?a9 ?B ?F News.nil ?X ?T ?h1 ?h2 ?h3 ?h4 ?hr); (case F => k_asm); (case h1 => exact rfl); (case h2 => exact rfl); (case h3 => exact rfl); (case h4 => exact rfl); (case B => k_asm); (case X => k_asm); (case T => k_asm); (case a1 => assumption); (case a2 => assumption); (case a3 => omega); (case a4 => omega); (case a5 => omega); (case a6 => omega); (case a7 => omega); (case a8 => omega); (case a9 => assumption); (case b1 => omega); (case b2 => omega); (case b3 => omega); (case b4 => assumption)))
local macro_rules | `(tactic| walk_at "subscriptTail Name Slice str ref") => `(tactic| (k_here; (with_reducible show wpAny _ _ (subscriptTail _ (Expr.Slice (some _) none none _) (Value.str (tx _) _) (Value.ref _)) _ _ _); (with_reducible rename Fr _ _ _ _ => F'); (with_reducible rename News _ _ _ _ => N'); (refine sl_sn (s := ⟨_, _, _, _, _⟩) F' N' (by omega) (by omega) (by omega) ?_); intro h9 t9 k9 F9 N9 e9))
theorem c_lev (as bs : List Int) (c : Int) (ta tb tc : Tok) (hsa : Sg as) (hsb : Sg bs) (hla : as.length ≤ 30) (hlb : bs.length ≤ 30) (hc : -1 ≤ c) (hc2 : c ≤ 100) :
   RC 4 w p loose mean mg mb 49 [.str (tx as) ta, .str (tx bs) tb, .int c tc] (fun _ => True) (fun _ _ v => ∃ r t, v = .int r t ∧ LevSays as bs c r) := by
  k_with_none
  k_with "r_enter" => (refine wpAny_call ?_; k_dflt (refine' codeR ?k1_q32 ?k2_q32 ?k4_q32 ?k5_q32 ?kA_q32 ?kF_q32 ?kK_q32 ?k6_q32 ?k7_q32 ?k8_q32 ?k9_q32 ?kB_q32 ?_ ?c2_q32 ?c3_q32 ?c4_q32 ?c5_q32; (case kA_q32 => exact rfl); (case kF_q32 => exact rfl); (case kK_q32 => assumption); (case k1_q32 => k_asm); (case k2_q32 => k_asm); (case k4_q32 => k_asm); (case k5_q32 => k_asm); (case k6_q32 => k_is); (case k7_q32 => k_is); (case k8_q32 => ktr_room); (case k9_q32 => exact BindsTo.of_eq rfl); (case c5_q32 => decide); (case kB_q32 => exact locs rfl); (case c2_q32 => exact rfl); (case c3_q32 => exact rfl); (case c4_q32 => exact rfl); k_whole); intro _ _ _ _ B_q32 _ _; (try dsimp only); (try k_lift B_q32); (try k_fold))
  k_with "r_start" => (unfold RC; delta PG; k_fill; intro _ _ _ _ _ _ _ _ _ _ _ _ _ _ _ _ _ _ _ _ _ _ _ _ _ _ _ _ _ _)
  k_with "exec While BoolOp cons nil" => (refine stop ?_)
  k_with "KswEnd" => (refine stop ?_)
  k_with "execs cons" => (k_here; (with_reducible show wpAny _ _ (execs (Stmt.Assign _ (Expr.Subscript _ _ _) _ :: _) _) _ _ _); refine stop ?_)
  walk_at "r_start"; rename_i hpre hret; walk_at "r_enter"
  have hxa := tx_length as
  have hxb := tx_length bs
  k_steps
  · exact hret _ _ _ (by k_asm) (Fr.keep (by k_asm)) ⟨_, _, rfl, 0, by rename (tx as == tx bs) = true => e; rw [tx_inj hsa hsb (beq_iff_eq.mp e)]; exact dist_self _, .inl rfl⟩
  unfold Stop
  k_with_none
  k_with "r_enter" => (refine wpAny_call ?_; k_dflt (refine' codeR ?k1_q32 ?k2_q32 ?k4_q32 ?k5_q32 ?kA_q32 ?kF_q32 ?kK_q32 ?k6_q32 ?k7_q32 ?k8_q32 ?k9_q32 ?kB_q32 ?_ ?c2_q32 ?c3_q32 ?c4_q32 ?c5_q32; (case kA_q32 => exact rfl); (case kF_q32 => exact rfl); (case kK_q32 => assumption); (case k1_q32 => k_asm); (case k2_q32 => k_asm); (case k4_q32 => k_asm); (case k5_q32 => k_asm); (case k6_q32 => k_is); (case k7_q32 => k_is); (case k8_q32 => ktr_room); (case k9_q32 => exact BindsTo.of_eq rfl); (case c5_q32 => decide); (case kB_q32 => exact locs rfl); (case c2_q32 => exact rfl); (case c3_q32 => exact rfl); (case c4_q32 => exact rfl); k_whole); intro _ _ _ _ B_q32 _ _; (try dsimp only); (try k_lift B_q32); (try k_fold))
  k_with "r_start" => (unfold RC; delta PG; k_fill; intro _ _ _ _ _ _ _ _ _ _ _ _ _ _ _ _ _ _ _ _ _ _ _ _ _ _ _ _ _ _)
  k_with "exec While BoolOp cons nil" => (refine stop ?_)
  k_with "KswEnd" => (refine stop ?_)
  k_with "execs cons" => (k_here; (with_reducible show wpAny _ _ (execs (Stmt.Assign _ (Expr.Subscript _ _ _) _ :: _) _) _ _ _); refine stop ?_)
  k_with "state" => exact ⟨Int.le_refl 0, Int.natCast_nonneg _, Int.natCast_nonneg _, rfl⟩
  k_while (fun _ pre => 0 ≤ pre ∧ pre ≤ (as.length : Int) ∧ pre ≤ (bs.length : Int) ∧ as.take pre.toNat = bs.take pre.toNat) (fun _ pre => ((as.length : Int) - pre).toNat) "pre"
  k_with "state" => exact trim_pre hsa hsb (by omega) (by omega) (by omega) (by assumption) (by assumption)
  k_steps
  all_goals first
    | (unfold Stop; ksw_close)
    | (walk_at "use1"
       unfold Stop
       intro r t h1 m1 tk1 F1 hs
       k_unfold
       try dsimp only
       refine leaveK_ F1 News.nil ?_
       intro kF kN
       exact hret _ _ _ kF F1.keep ⟨_, _, rfl, hs⟩)
end
end
section
inductive TxAre : List Value → List (List Int) → Prop
  | nil : TxAre [] []
  | cons (Z : List Int) (t : Tok) {vs : List Value} {zs : List (List Int)} : TxAre vs zs → TxAre (.str (tx Z) t :: vs) (Z :: zs)
theorem TxAre.length {vs : List Value} {zs : List (List Int)} (h : TxAre vs zs) : vs.length = zs.length := by induction h <;> simp_all
theorem TxAre.at {vs : List Value} {zs : List (List Int)} (h : TxAre vs zs) : ∀ (i : Nat) (v : Value), vs[i]? = some v → ∃ Z t, v = .str (tx Z) t ∧ zs[i]? = some Z := by
  induction h with
  | nil => intro i v e; simp at e
  | cons Z t _ ih =>
    intro i v e
    cases i with
    | zero => simp at e; exact ⟨Z, t, e.symm, rfl⟩
    | succ i => exact ih i v (by simpa using e)
theorem TxAre.snoc {vs : List Value} {zs : List (List Int)} (h : TxAre vs zs) (Z : List Int) (t : Tok) : TxAre (vs ++ [.str (tx Z) t]) (zs ++ [Z]) := by
  induction h with
  | nil => exact .cons Z t .nil
  | cons Y u _ ih => exact .cons Y u ih
variable {w : World} {p : Program} {loose : List PySem.Str} {mean : ExcName → Option Value} {mg mb : PySem.Str → Option Value}
section
local macro_rules | `(tactic| walk_at "exec For Name Name cons nil") => `(tactic| (k_here; (rename Fr _ _ _ _ => lF'); (with_unfolding_all refine' For_invVF lF' ?k1 ?k2 ?_; (case k1 => exact rfl); (case k2 => exact rfl); k_whole)))
local macro_rules | `(tactic| walk_at "call builtin:list.append") => `(tactic| (k_here; k_dflt (refine' append_K ?k1 ?k2 ?k3 ?_ ?z; (case k1 => k_asm); (case k2 => k_asm); (case k3 => k_upd); (case z => (rw [PySem.sizeLine_eq, List.size_toArray]; omega))); intro h' F' N'))
theorem take_one {zs : List (List Int)} {i : Nat} {Z : List Int} (h : zs[i]? = some Z) : zs.take (i + 1) = zs.take i ++ [Z] := by rw [List.take_add_one, h]; rfl
theorem flt_in {zs : List (List Int)} {i : Nat} {Z : List Int} {q : List Int → Bool} (h : zs[i]? = some Z) (e : q Z = true) : (zs.take (i + 1)).filter q = (zs.take i).filter q ++ [Z] := by
  rw [take_one h, List.filter_append, List.filter_cons, if_pos e, List.filter_nil]
theorem flt_out {zs : List (List Int)} {i : Nat} {Z : List Int} {q : List Int → Bool} (h : zs[i]? = some Z) (e : q Z = false) : (zs.take (i + 1)).filter q = (zs.take i).filter q := by
  rw [take_one h, List.filter_append, List.filter_cons, if_neg (by rw [e]; exact Bool.false_ne_true), List.filter_nil, List.append_nil]
def SpJ (zs : List (List Int)) (P : List Int → Bool) (f : Addr) (i : Nat) (m : PySem.Str → Option Value) (nx : List (Addr × Obj)) : Prop :=
  ∃ (Y N : Addr) (yv nv : List Value) (ky kn : Nat), nx = [(N, W.listOf nv.toArray kn), (Y, W.listOf yv.toArray ky)] ∧ @Ne Nat N Y ∧ TxAre yv ((zs.take i).filter P) ∧ TxAre nv ((zs.take i).filter fun Z => !P Z) ∧
    m (PySem.Str.ofString "predicate") = some (.ref f) ∧ m (PySem.Str.ofString "yes") = some (.ref Y) ∧ m (PySem.Str.ofString "no") = some (.ref N)
local macro_rules | `(tactic| walk_at "pad 4") => `(tactic| skip)
theorem c_split (f l : Addr) (nn : Nat) (vs : List Value) (zs : List (List Int)) (hvs : TxAre vs zs) (P : List Int → Bool) (pre0 : Heap → Prop) (hmono : ∀ g h : Heap, pre0 g → (∀ b o, g.get? b = some o → h.get? b = some o) → pre0 h)
   (hfun : ∀ g, pre0 g → ∃ c d fd sl, g.get? f = some ⟨c, d, .func fd, sl⟩) (hf : ∀ Z ∈ zs, ∀ t, RC 4 w p loose mean mg mb f [.str (tx Z) t] pre0 (fun _ _ r => r = .bool (P Z))) (hz : zs.length ≤ 100) :
   RC 6 w p loose mean mg mb 28 [.ref l, .ref f] (fun g => g.get? l = some (W.listOf vs.toArray nn) ∧ pre0 g) (fun g h r => ∃ D Y N yv nv ky kn kd, r = .ref D ∧ (g.get? D = none ∧ g.get? Y = none ∧ g.get? N = none) ∧
      h.get? D = some { cls := .type "tuple", data := .seq #[.ref Y, .ref N] kd } ∧ h.get? Y = some (W.listOf yv.toArray ky) ∧ h.get? N = some (W.listOf nv.toArray kn) ∧ TxAre yv (zs.filter P) ∧ TxAre nv (zs.filter fun Z => !P Z)) := by
  k_with_none
  k_with "r_enter" => (refine wpAny_call ?_; k_dflt (refine' codeR ?k1_q37 ?k2_q37 ?k4_q37 ?k5_q37 ?kA_q37 ?kF_q37 ?kK_q37 ?k6_q37 ?k7_q37 ?k8_q37 ?k9_q37 ?kB_q37 ?_ ?c2_q37 ?c3_q37 ?c4_q37 ?c5_q37; (case kA_q37 => exact rfl); (case kF_q37 => exact rfl); (case kK_q37 => assumption); (case k1_q37 => k_asm); (case k2_q37 => k_asm); (case k4_q37 => k_asm); (case k5_q37 => k_asm); (case k6_q37 => k_is); (case k7_q37 => k_is); (case k8_q37 => ktr_room); (case k9_q37 => exact BindsTo.of_eq rfl); (case c5_q37 => decide); (case kB_q37 => exact locs rfl); (case c2_q37 => exact rfl); (case c3_q37 => exact rfl); (case c4_q37 => exact rfl); k_whole); intro _ _ _ _ B_q37 _ _; (try dsimp only); (try k_lift B_q37); (try k_fold))
  k_with "r_start" => (unfold RC; delta PG; k_fill; intro _ _ _ _ _ _ _ _ _ _ _ _ _ _ _ _ _ _ _ _ _ _ _ _ _ _ _ _ _ _)
  k_with "pyIter ref" => (refine stop ?_)
  k_with "callWith ref" => (refine stop ?_)
  k_with "call ref" => (refine stop ?_)
  walk_at "r_start"; rename_i hpre hret; walk_at "r_enter"
  obtain ⟨hl, hp0⟩ := hpre
  k_steps
  unfold Stop
  rename Fr _ _ _ _ => F9
  rename News _ _ _ _ => N9
  refine iter_vals (SpJ zs P f) rfl (nn := nn) (F9.keep _ _ hl) ?_ F9 N9 ⟨_, _, [], [], 0, 0, rfl, Nat.ne_of_gt (by omega), .nil, .nil, by exact rfl, by exact rfl, by exact rfl⟩ (fun i m nx h' _ k _ => k _ _ hl) ?_ ?_
  · have := F9.above
    have := Heap.lt_size hl
    exact Nat.ne_of_lt (Nat.lt_of_lt_of_le this F9.above)
  · clear F9 N9
    rintro i v m₁ nx h tk I io hv off ⟨Y, N, yv, nv, ky, kn, rfl, hne, hy, hn, h1, h2, h3⟩ F1 N1
    obtain ⟨Z, t, rfl, hZ⟩ := hvs.at i v hv
    replace F1 := fr_kst F1 [(PySem.Str.ofString "x", .str (tx Z) t), (PySem.Str.ofString "predicate", .ref f), (PySem.Str.ofString "yes", .ref Y), (PySem.Str.ofString "no", .ref N)] (by simp [h1, h2, h3]; decide +kernel)
    dsimp only [kstB] at F1
    have o1 : @Ne Nat N I := off _ (.head _)
    have o2 : @Ne Nat Y I := off _ (.tail _ (.head _))
    have by1 : yv.length ≤ 100 := by rw [hy.length]; exact Nat.le_trans (List.length_filter_le _ _) (by rw [List.length_take]; omega)
    have bn1 : nv.length ≤ 100 := by rw [hn.length]; exact Nat.le_trans (List.length_filter_le _ _) (by rw [List.length_take]; omega)
    k_steps
    unfold Stop
    refine callWith_fun hfun ?_
    k_steps
    · exact hmono _ _ hp0 F1.keep
    unfold Stop
    refine' hf Z (List.mem_of_getElem? hZ) t _ _ _ _ _ _ _ _ _ _ _ _ _ _ _ _ _ _ _ _ _ ?k1 ?k2 ?k3 ?k4 ?k5 ?k6 ?k7 ?k8 ?_
    case k1 => k_asm
    case k2 => exact F1
    case k3 => k_asm
    case k4 => k_asm
    case k5 => rfl
    case k6 => ktr_room
    case k7 => ktr_units
    case k8 => exact hmono _ _ hp0 F1.keep
    intro r h9 tk9 F9 K9 hr
    subst hr
    have N9 := nkeep N1 K9
    clear F1 N1 K9
    k_steps
    · rename P Z = true => e
      refine ⟨_, _, _, _, rfl, by k_asm, by k_asm, ?_, Y, N, yv ++ [.str (tx Z) t], nv, ky + 1, kn, ?_, hne, ?_, ?_, by exact rfl, by exact rfl, by exact rfl⟩
      rotate_left
      · rw [List.push_toArray]
      · rw [flt_in hZ e]; exact hy.snoc Z t
      · rw [flt_out hZ (by rw [e]; rfl)]; exact hn
      · intro p hp
        rcases List.mem_cons.mp hp with rfl | hp
        · exact o1
        · rw [List.mem_singleton.mp hp]; exact o2
    · rename P Z = false => e
      refine ⟨_, _, _, _, rfl, by k_asm, by k_asm, ?_, Y, N, yv, nv ++ [.str (tx Z) t], ky, kn + 1, ?_, hne, ?_, ?_, by exact rfl, by exact rfl, by exact rfl⟩
      rotate_left
      · rw [List.push_toArray]
      · rw [flt_out hZ e]; exact hy
      · rw [flt_in hZ (by rw [e]; rfl)]; exact hn.snoc Z t
      · intro p hp
        rcases List.mem_cons.mp hp with rfl | hp
        · exact o1
        · rw [List.mem_singleton.mp hp]; exact o2
  · clear F9 N9
    rintro m₁ nx h tk ⟨Y, N, yv, nv, ky, kn, rfl, hne, hy, hn, h1, h2, h3⟩ F1 N1
    rw [hvs.length, List.take_length] at hy hn
    replace F1 := fr_kst F1 [(PySem.Str.ofString "yes", .ref Y), (PySem.Str.ofString "no", .ref N)] (by simp [h1, h2, h3])
    dsimp only [kstB] at F1
    k_steps
    rename_i D9 h9 F9 N9 l9 kF9 kN9 _ _
    have nD := N9 _ (.head _)
    have nN := N9 _ (.tail _ (.head _))
    have nY := N9 _ (.tail _ (.tail _ (.head _)))
    exact hret _ _ _ kF9 F9.keep ⟨D9, Y, N, yv, nv, ky, kn, _, rfl, ⟨nD.2.2, nY.2.2, nN.2.2⟩, nD.1, nY.1, nN.1, hy, hn⟩
end
end
section
def theLam : Arguments × PySem.Expr × Scope × Pos := match theBody 15 with
  | (.Return (some (.Call _ (_ :: .Lambda a b s p :: _) _ _)) _) :: _ => (a, b, s, p)
  | _ => (⟨[], [], none, [], [], none, []⟩, .Constant .none 0 default, default, default)
def lamQual : PySem.Str := PySem.Str.ofString "_law_parted.<locals>.<lambda>"
section
variable {prog : Program} {w : World} {A₀ A : Around} {s : Shared} {base h₀ : Heap} {outer : List Env} {L : Addr} {m mg mb : PySem.Str → Option Value} {env : Env} {K : Frag} {p : Program} {loose : List PySem.Str} {mean : ExcName → Option Value}
  {R : Result → Shared → Prop} {name qual : PySem.Str} {params : Arguments} {body : PySem.Expr} {scope : Scope} {cl : List (PySem.Str × Addr)} {pm ctv : Value} {c' f : Addr} {args : Args} {binds : List (PySem.Str × Value)}
/-- a lambda of the heap called for reading -/
theorem codeLamR (B : Below A₀ base outer h₀) (F : Fr h₀ L s.heap m) (X₀ : K.In h₀) (T : Top p loose mean mg mb h₀) (hA : A.frames = some (env :: outer)) (hf : env.frame = some L) (hke : env.scope.kind = .function)
    (ho : s.heap.get? f = some (kla_obj name qual params body scope cl pm c' ctv)) (hcd : s.heap.CodeRec (.ref c') qual) (hroom : A.depth < recursionLimit)
    (hbind : bindArgs (kla_fn name qual params body scope cl pm (.ref c') ctv) args = pure binds) (hloc : ∀ y ∈ binds, scope.names.lookup y.1 = some .local)
    (h : ∀ L' h₁, Fr s.heap L' h₁ (fun y => binds.reverse.lookup y) → News s.heap L' h₁ [] → Below A base (env :: outer) s.heap → K.In s.heap → Top p loose mean mg mb s.heap →
      wpAny (model prog w) (A.deeper (envX qual scope L' f (.ref c') cl)) (eval body (envX qual scope L' f (.ref c') cl)) (fun v s' => LeaveK h₀ L m s.heap R v s')
        (fun e s' => wpAny (model prog w) (A.deeper (envX qual scope L' f (.ref c') cl)) (leaving (envX qual scope L' f (.ref c') cl) e) (fun _ s'' => R (.error e) s'') (fun e' s'' => R (.error e') s'') s')
        { s with heap := h₁, toks := s.toks + binds.length })
    (hco : scope.isCoroutine = false) (hgen : scope.isGenerator = false) (hk : scope.kind = .function) (hcell : ∀ x ∈ scope.names, x.2 ≠ .cell) : codeAny (model prog w) A (.call (.ref f) args) R s := by
  obtain ⟨_, BG, _, lv⟩ := groundX (R := R) B F News.nil hA hf hke
  refine kla_callFunE hroom ho rfl hco hgen rfl hcd ?_
  rw [hbind]
  refine wpAny_pure (wpAny_newFunctionEnv hcell hloc (fun h₁ hns hsb => ⟨(T.nolimit.keeps F.keep).fresh _ hsb, ?_⟩) hk)
  show codeAny _ _ (.expr body (envX qual scope s.heap.objs.size f (.ref c') cl)) _ _
  have hk₁ : ∀ b o, s.heap.get? b = some o → h₁.get? b = some o := fun b o e => hsb.extBut b o (Nat.ne_of_lt (Heap.lt_size e)) (Heap.get?_push_of_some _ e)
  exact kla_codeExpr (wpAny_mono (h s.heap.objs.size h₁ ⟨hns, hk₁, Nat.le_refl _⟩ News.nil BG (X₀.keeps F.keep) (T.keeps F.keep)) (fun v s' hl => lv _ _ hl) fun _ _ y => y)
end
variable {w : World} {p : Program} {loose : List PySem.Str} {mean : ExcName → Option Value} {mg mb : PySem.Str → Option Value}
def LamAt (f ca c' : Addr) (pm ctv : Value) (W : PySem.Str) (tw : Tok) (g : Heap) : Prop :=
  g.get? f = some (kla_obj (PySem.Str.ofString "<lambda>") lamQual theLam.1 theLam.2.1 theLam.2.2.1 [(PySem.Str.ofString "short", ca)] pm c' ctv) ∧ g.CodeRec (.ref c') lamQual ∧ ∃ o, g.get? ca = some o ∧ o.data = .cell (some (.str W tw))
section
theorem c_lam (f ca c' : Addr) (pm ctv : Value) (tw : Tok) (H T Z : List Int) (t : Tok) (hH : Sg H) (hT : Sg T) (hZ : Sg Z) (hHl : H.length ≤ 100) (hTl : T.length ≤ 100) (hZl : Z.length ≤ 100) :
   RC 4 w p loose mean mg mb f [.str (tx Z) t] (LamAt f ca c' pm ctv (tx H ++ PySem.Str.ofString "..." ++ tx T) tw) (fun _ _ r => r = .bool (fitsB H T Z)) := by
  k_with_none
  k_with "r_start" => (unfold RC; delta PG; k_fill; intro _ _ _ _ _ _ _ _ _ _ _ _ _ _ _ _ _ _ _ _ _ _ _ _ _ _ _ _ _ _)
  k_with "call ref" => (refine stop ?_)
  k_with "eval Name" => ((with_reducible show wpAny _ _ (eval (Expr.Name (PySem.Str.ofString "short") _) _) _ _ _); refine stop ?_)
  walk_at "r_start"; rename_i hpre hret
  obtain ⟨ho, hcd, o, hca, hcd'⟩ := hpre
  generalize hl : theLam = q at ho
  conv at hl => lhs; whnf
  subst hl
  dsimp only at ho
  refine wpAny_call ?_
  refine codeLamR (by k_asm) (by k_asm) (by k_asm) (by k_asm) rfl rfl (by assumption) ho hcd (by ktr_room) rfl (locs rfl) ?_ rfl rfl rfl (by decide)
  intro L' h' F' N' B' X' T'
  dsimp only
  k_fold
  k_steps
  unfold Stop
  refine wpAny_Name (wpAny_loadName_free (by rfl) (by rfl) (by rfl) ⟨o, F'.keep _ _ hca, hcd'⟩ ?_ (by decide)) (by decide)
  k_steps
  unfold Stop
  refine' c_ell H T Z hH hT hZ hHl hTl hZl tw t _ _ _ _ _ _ _ _ _ _ _ _ _ _ _ _ _ _ _ _ _ ?k1 ?k2 ?k3 ?k4 ?k5 ?k6 ?k7 trivial ?_
  case k1 => k_asm
  case k2 => exact F'
  case k3 => k_asm
  case k4 => k_asm
  case k5 => rfl
  case k6 => ktr_room
  case k7 => ktr_units
  intro r h9 tk9 F9 K9 hr
  subst hr
  k_unfold
  try dsimp only
  refine leaveK_ F9 News.nil ?_
  intro kF kN
  exact hret _ _ _ kF F9.keep rfl
end
end
section
section
variable {prog : Program} {w : World} {A₀ A : Around} {s : Shared} {base h₀ : Heap} {outer : List Env} {L : Addr} {m mg mb : PySem.Str → Option Value} {env : Env} {news : List (Addr × Obj)} {K : Frag} {p : Program} {loose : List PySem.Str} {mean : ExcName → Option Value}
  {R : Result → Shared → Prop} {name qual : PySem.Str} {params : Arguments} {body : List Stmt} {scope : Scope} {dV kV doc pm cdv ct oc : Value} {an od : Option Addr} {osl : Array (Option Value)} {f : Addr} {args : Args} {binds : List (PySem.Str × Value)}
/-- a def with cells, called: what the ledger names is laid aside, all else that stands is the ground of the call -/
theorem codeCR (B : Below A₀ base outer h₀) (F : Fr h₀ L s.heap m) (N : News h₀ L s.heap news) (X₀ : K.In h₀) (T : Top p loose mean mg mb h₀) (hA : A.frames = some (env :: outer)) (hf : env.frame = some L) (hke : env.scope.kind = .function)
    (ho : K.lookup f = some ⟨oc, od, .func (fnOf name qual params body scope dV kV doc pm an cdv ct), osl⟩) (hcd : codeIn K cdv qual = true) (hroom : A.depth < recursionLimit)
    (hbind : PySem.BindsTo s (fnOf name qual params body scope dV kV doc pm an cdv ct) args binds) (hkind : (binds.all fun y => scope.names.lookup y.1 == some .local || scope.names.lookup y.1 == some .cell) = true)
    (hnd : ((cellsFrom 0 scope.names []).map (·.1)).Nodup)
    (h : ∀ G L' h₁ tk cells, (∀ b o, b ∉ news.map (·.1) → s.heap.get? b = some o → G.get? b = some o) → Fr G L' h₁ (bindL (envOfC qual scope L' f cdv).kindOf binds fun _ => none) → News G L' h₁ (cells ++ news) →
      CellsAre (bindC (envOfC qual scope L' f cdv).kindOf binds fun _ => none) (cellsFrom (L' + 1) scope.names []) cells → Below A base (env :: outer) G → K.In G → Top p loose mean mg mb G → (∀ p ∈ news, p.1 < L') → s.heap.objs.size ≤ L' → h₀.StaysIn G →
      wpAny (model prog w) (A.deeper (envOfC qual scope L' f cdv)) (execs body (envOfC qual scope L' f cdv))
        (fun fl s' => LeaveK h₀ L m G R (match fl with | .ret v => v | _ => .none) s')
        (fun e s' => wpAny (model prog w) (A.deeper (envOfC qual scope L' f cdv)) (leaving (envOfC qual scope L' f cdv) e) (fun _ s'' => R (.error e) s'') (fun e' s'' => R (.error e') s'') s')
        { s with heap := h₁, toks := tk })
    (hco : scope.isCoroutine = false) (hgen : scope.isGenerator = false) (hk : scope.kind = .function) : codeAny (model prog w) A (.call (.ref f) args) R s := by
  obtain ⟨_, BG, st, lv⟩ := groundX (R := R) B F N hA hf hke
  have X := X₀.keeps F.keep
  refine codeAny_call_function hroom (X _ _ ho) rfl hco hgen rfl (codeRec_of X hcd) (hbind _ _ _ _ ?_)
  refine wpAny_newFunctionEnv_cells hk (kindsX hkind _) fun env' he s' x => ?_
  subst he
  refine ⟨(T.nolimit.keeps F.keep).keeps x.toInCall.keep, codeAny_func ?_⟩
  obtain ⟨h₁, tk, rfl, _⟩ := x.done
  have hk₁ := x.toInCall.keep
  obtain ⟨cells, NC, Y⟩ := Cl.news (h₀ := s.heap) (Nat.le_refl _) fun n c hm => ⟨x.cell n c (lookup_of_mem_nodup (cellsFrom_names scope.names 0 (s.heap.objs.size + 1) [] [] rfl ▸ hnd) hm), x.above n c hm⟩
  refine wpAny_mono (h _ s.heap.objs.size h₁ tk cells (fun b o hb e => hideAll_get _ e hb) ⟨x.toInCall.ns, fun b o e => hk₁ b o (of_hideAll _ e), Nat.le_of_eq (hideAll_size _ _)⟩ (fun p hp => ?_) Y BG (X₀.keeps st) (T.keeps st) (fun p hp => Heap.lt_size (N p hp).1) (Nat.le_refl _) st) (fun fl s' hl => lv _ _ hl) fun _ _ y => y
  rcases List.mem_append.mp hp with hp | hp
  · refine ⟨(NC p hp).1, (NC p hp).2.1, ?_⟩
    cases q : (hideAll s.heap (news.map (·.1))).get? p.1 with
    | none => rfl
    | some o => have := of_hideAll _ q; rw [(NC p hp).2.2] at this; cases this
  · exact ⟨hk₁ _ _ (N p hp).1, Nat.ne_of_lt (Heap.lt_size (N p hp).1), hideAll_none _ (List.mem_map_of_mem hp)⟩
end
def TabSt (g : Heap) (ps : Array Value) : Prop := ps = #[] ∨ ∃ c', ps = #[rawInt theLam.2.2.2.line, rawInt theLam.2.2.2.col, .ref c'] ∧ g.CodeRec (.ref c') lamQual
variable {w : World} {p : Program} {loose : List PySem.Str} {mean : ExcName → Option Value} {mg mb : PySem.Str → Option Value}
section
theorem lamAt_mono {f ca c' : Addr} {pm ctv : Value} {W : PySem.Str} {tw : Tok} (g h : Heap) (x : LamAt f ca c' pm ctv W tw g) (k : ∀ b o, g.get? b = some o → h.get? b = some o) : LamAt f ca c' pm ctv W tw h := by
  obtain ⟨h1, ⟨c, oc, vs, tq, e1, e2, e3⟩, o, h3, h4⟩ := x
  exact ⟨k _ _ h1, ⟨c, oc, vs, tq, e1, k _ _ e2, e3⟩, o, k _ _ h3, h4⟩
theorem c_parted (l : Addr) (nn : Nat) (vs : List Value) (zs : List (List Int)) (hvs : TxAre vs zs) (hz : zs.length ≤ 100) (hzs : ∀ Z ∈ zs, Sg Z ∧ Z.length ≤ 100) (H Tl : List Int) (hH : Sg H) (hT : Sg Tl) (hHl : H.length ≤ 100) (hTl : Tl.length ≤ 100) (tw : Tok) (ps : Array Value)
    (dp un : Nat) (gd : Option (List Code)) (cn : PySem.Str) (cs : Scope) (a : Addr) (ccd : Value) (cl : List (PySem.Str × Addr)) (outer : List Env) (A₀ : Around) (base h₀ : Heap) (L : Addr) (m : PySem.Str → Option Value)
    (g : Heap) (gens : Array GenState) (drawn : Drawn) (tk : Nat) (os : OsState) (Q E : Value → Shared → Prop)
    (B : Below A₀ base outer h₀) (F : Fr h₀ L g m) (X : (hd.heap_39 w.params).In h₀) (T : Top p loose mean mg mb h₀) (hk : cs.kind = .function) (hd : dp + 8 < recursionLimit) (hu : un + 10 * 8 < cLine)
    (C : CodeHd h₀ 65 61) (N : News h₀ L g [(61, tabObj ps)]) (hps : TabSt g ps) (hl : g.get? l = some (W.listOf vs.toArray nn)) (hl61 : @Ne Nat l 61)
    (hret : ∀ r h' tk' ps', Fr h₀ L h' m → News h₀ L h' [(61, tabObj ps')] → TabSt h' ps' → (∀ b o, @Ne Nat b 61 → g.get? b = some o → h'.get? b = some o) →
      (∃ D Y N yv nv ky kn kd, r = .ref D ∧ (g.get? D = none ∧ g.get? Y = none ∧ g.get? N = none) ∧
        h'.get? D = some { cls := .type "tuple", data := .seq #[.ref Y, .ref N] kd } ∧ h'.get? Y = some (W.listOf yv.toArray ky) ∧ h'.get? N = some (W.listOf nv.toArray kn) ∧ TxAre yv (zs.filter (fitsB H Tl)) ∧ TxAre nv (zs.filter fun Z => !fitsB H Tl Z)) → Q r { heap := h', gens := gens, drawn := drawn, toks := tk', os := os }) :
    wpAny (model PG w) (ktrTop dp un gd cn cs L a ccd cl outer) (call (.ref 66) [.str (tx H ++ PySem.Str.ofString "..." ++ tx Tl) tw, .ref l]) Q E { heap := g, gens := gens, drawn := drawn, toks := tk, os := os } := by
  k_with_none
  k_with "call ref" => (refine stop ?_)
  revert B F X T hk hd hu C N hps hl hl61 hret
  delta PG; k_fill; intro B F X T hk hd hu C N hps hl hl61 hret
  refine wpAny_call ?_
  refine' codeCR (news := [(61, tabObj ps)]) ?k1 ?k2 ?k3 ?k4 ?k5 ?kA ?kF ?kK ?k6 ?k7 ?k8 ?k9 ?kB ?kD ?_ ?c2 ?c3 ?c4
  case kA => exact rfl
  case kF => exact rfl
  case kK => assumption
  case k1 => k_asm
  case k2 => k_asm
  case k3 => k_asm
  case k4 => k_asm
  case k5 => k_asm
  case k6 => k_is
  case k7 => k_is
  case k8 => ktr_room
  case k9 => exact BindsTo.of_eq rfl
  case kB => exact rfl
  case kD => decide +kernel
  case c2 => exact rfl
  case c3 => exact rfl
  case c4 => exact rfl
  intro G L' h' tk' cells hG F' N' Y' B' X' T' l1 l2 st
  k_lt l1; k_cells Y'; (try simp only [List.cons_append, List.nil_append] at N'); (try dsimp only)
  try k_fold
  have C' := C.keeps st
  skip
  obtain ⟨hps', C''⟩ := And.intro hps C'
  clear hps
  rcases hps' with rfl | ⟨c', rfl, hc'⟩
  · k_steps
    rename_i f9 c9 oc9 vs9 t9 ct9 h9 tk9 F9 N9 d9 e9 la lb
    have hL : LamAt f9 (L' + 1) c9 ((mg (PySem.Str.ofString "__name__")).getD .none) ct9 (tx H ++ PySem.Str.ofString "..." ++ tx Tl) tw h9 := ⟨(N9 _ (.head _)).1, codeRec_news N9 (.tail _ (.head _)) d9 e9, _, (N9 _ (.tail _ (.tail _ (.head _)))).1, by assumption⟩
    have m61 : (61, tabObj #[rawInt theLam.2.2.2.line, rawInt theLam.2.2.2.col, .ref c9]) ∈ [(61, tabObj #[rawInt theLam.2.2.2.line, rawInt theLam.2.2.2.col, .ref c9])] := .head _
    have N61 : News G L' h9 [(61, tabObj #[rawInt theLam.2.2.2.line, rawInt theLam.2.2.2.col, .ref c9])] := fun q hq => by rw [List.mem_singleton.mp hq]; exact N9 (61, _) (.tail _ (.tail _ (.tail _ (.head _))))
    unfold Stop
    refine' c_split _ l nn vs zs hvs (fitsB H Tl) _ lamAt_mono (fun _ q => ⟨_, _, _, _, q.1⟩) (fun Z hZ t => c_lam _ _ _ _ _ tw H Tl Z t hH hT (hzs Z hZ).1 hHl hTl (hzs Z hZ).2) hz _ _ _ _ _ _ _ _ _ _ _ _ _ _ _ _ _ _ _ _ _ ?k1 ?k2 ?k3 ?k4 ?k5 ?k6 ?k7 ⟨?k8, hL⟩ ?_
    case k1 => k_asm
    case k2 => exact F9
    case k3 => k_asm
    case k4 => k_asm
    case k5 => rfl
    case k6 => ktr_room
    case k7 => ktr_units
    case k8 => exact F9.keep _ _ (hG _ _ (by simpa using hl61) hl)
    intro r h10 tk10 F10 K10 hr
    obtain ⟨D, Y, N, yv, nv, ky, kn, kd, rfl, ⟨nD, nY, nN⟩, hD, hY, hN, hyv, hnv⟩ := hr
    have N10 := nkeep N61 K10
    try k_unfold
    try dsimp only
    refine leaveK_ F10 N10 ?_
    intro kF kN
    have fresh : ∀ b, h9.get? b = none → g.get? b = none := fun b e => by
      cases q : g.get? b with
      | none => rfl
      | some o =>
        by_cases h61 : @Eq Nat b 61
        · rw [h61, (N61 _ m61).1] at e; cases e
        · rw [F9.keep _ _ (hG _ _ (by simpa using h61) q)] at e; cases e
    exact hret _ _ _ _ kF kN (.inr ⟨_, rfl, hL.2.1.keeps K10⟩) (fun b o hb e => F10.keep _ _ (hG _ _ (by simpa using hb) e)) ⟨D, Y, N, yv, nv, ky, kn, kd, rfl, ⟨fresh _ nD, fresh _ nY, fresh _ nN⟩, hD, hY, hN, hyv, hnv⟩
  · k_steps
    rename_i f9 ct9 h9 tk9 F9 N9 la
    have hL : LamAt f9 (L' + 1) c' ((mg (PySem.Str.ofString "__name__")).getD .none) ct9 (tx H ++ PySem.Str.ofString "..." ++ tx Tl) tw h9 := by
      refine ⟨(N9 _ (.head _)).1, ?_, _, (N9 _ (.tail _ (.head _))).1, by assumption⟩
      obtain ⟨c, oc, vs, tq, e1, e2, e3, e4⟩ := hc'
      cases e1
      refine ⟨c', oc, vs, tq, rfl, F9.keep _ _ (hG _ _ ?_ e2), e3, e4⟩
      intro q
      have q : c' = 61 := by simpa using q
      subst q
      rw [(N _ (.head _)).1] at e2
      cases e2
      cases e3
      cases e4
    have m61 : (61, tabObj #[rawInt theLam.2.2.2.line, rawInt theLam.2.2.2.col, .ref c']) ∈ [(61, tabObj #[rawInt theLam.2.2.2.line, rawInt theLam.2.2.2.col, .ref c'])] := .head _
    have N61 : News G L' h9 [(61, tabObj #[rawInt theLam.2.2.2.line, rawInt theLam.2.2.2.col, .ref c'])] := fun q hq => by rw [List.mem_singleton.mp hq]; exact N9 (61, _) (.tail _ (.tail _ (.head _)))
    unfold Stop
    refine' c_split _ l nn vs zs hvs (fitsB H Tl) _ lamAt_mono (fun _ q => ⟨_, _, _, _, q.1⟩) (fun Z hZ t => c_lam _ _ _ _ _ tw H Tl Z t hH hT (hzs Z hZ).1 hHl hTl (hzs Z hZ).2) hz _ _ _ _ _ _ _ _ _ _ _ _ _ _ _ _ _ _ _ _ _ ?k1 ?k2 ?k3 ?k4 ?k5 ?k6 ?k7 ⟨?k8, hL⟩ ?_
    case k1 => k_asm
    case k2 => exact F9
    case k3 => k_asm
    case k4 => k_asm
    case k5 => rfl
    case k6 => ktr_room
    case k7 => ktr_units
    case k8 => exact F9.keep _ _ (hG _ _ (by simpa using hl61) hl)
    intro r h10 tk10 F10 K10 hr
    obtain ⟨D, Y, N, yv, nv, ky, kn, kd, rfl, ⟨nD, nY, nN⟩, hD, hY, hN, hyv, hnv⟩ := hr
    have N10 := nkeep N61 K10
    try k_unfold
    try dsimp only
    refine leaveK_ F10 N10 ?_
    intro kF kN
    have fresh : ∀ b, h9.get? b = none → g.get? b = none := fun b e => by
      cases q : g.get? b with
      | none => rfl
      | some o =>
        by_cases h61 : @Eq Nat b 61
        · rw [h61, (N61 _ m61).1] at e; cases e
        · rw [F9.keep _ _ (hG _ _ (by simpa using h61) q)] at e; cases e
    exact hret _ _ _ _ kF kN (.inr ⟨_, rfl, hL.2.1.keeps K10⟩) (fun b o hb e => F10.keep _ _ (hG _ _ (by simpa using hb) e)) ⟨D, Y, N, yv, nv, ky, kn, kd, rfl, ⟨fresh _ nD, fresh _ nY, fresh _ nN⟩, hD, hY, hN, hyv, hnv⟩
end
end
section
def forBody : Stmt → List Stmt
  | .For _ _ b _ _ => b
  | _ => []
def leastI : List Stmt := match theBody 13 with
  | _ :: s :: _ => forBody s
  | _ => []
def leastJ : List Stmt := match leastI with
  | _ :: s :: _ => forBody s
  | _ => []
def RowAt (as bs : List Int) (x : Nat) (v : Value) (rest : List (Addr × Obj)) : Prop :=
  ∃ (r : Addr) (vr : List Value) (kr : Nat) (row : List Int), v = .ref r ∧ (r, W.listOf vr.toArray kr) ∈ rest ∧ IntsAre vr row ∧ row.length = bs.length + 1 ∧ ∀ y d, row[y]? = some d → Dist (as.take x) (bs.take y) d
variable {w : World} {p : Program} {loose : List PySem.Str} {mean : ExcName → Option Value} {mg mb : PySem.Str → Option Value}
  {dp un : Nat} {gd : Option (List Code)} {cn : PySem.Str} {cs : Scope} {a : Addr} {ccd : Value} {cl : List (PySem.Str × Addr)} {outer : List Env} {base : Heap} {L : Addr}
  {g h' : Heap} {gens : Array GenState} {drawn : Drawn} {tk : Nat} {os : OsState} {L' : Addr} {m : PySem.Str → Option Value} {Q : Flow → Shared → Prop} {E : Value → Shared → Prop}
abbrev leEnv (L' : Addr) : Env := envOfC (PySem.Str.ofString "_law_least") (theScope 13) L' 54 (.ref 53)
abbrev leE (w : World) (dp un : Nat) (gd : Option (List Code)) (cn : PySem.Str) (cs : Scope) (a : Addr) (ccd : Value) (cl : List (PySem.Str × Addr)) (outer : List Env) (L L' : Addr) (E : Value → Shared → Prop) (e : Value) (s' : Shared) : Prop :=
  wpAny (model PG w) ((ktrTop dp un gd cn cs L a ccd cl outer).deeper (leEnv L')) (leaving (leEnv L') e) (fun _ s'' => E e s'') (fun e' s'' => E e' s'') s'
theorem linv_startK {as bs : List Int} {i j : Nat} {c : Int} (hi : i ≤ as.length) (hj : j ≤ bs.length) (h : c = 2 * (if (j : Int) > (i : Int) then (j : Int) else (i : Int))) : LInv as bs i j ([] : List Int).length 0 c := by
  have := linv_start hi hj
  have e : c = 2 * max (i : Int) (j : Int) := by rw [h]; split <;> omega
  rw [e]; exact this
theorem linv_inK {as bs : List Int} {i j n : Nat} {c kN : Int} (h : LInv as bs i j n 0 c) (e : kN = 0 + (n : Int)) : LInv as bs i j kN.toNat ([] : List Int).length c := by
  have : kN.toNat = n := by omega
  rw [this]; exact h
theorem getD_some {as : List Int} {n : Nat} (h : n < as.length) : as[n]? = some (as.getD n 0) := by
  rw [List.getD_eq_getElem?_getD, List.getElem?_eq_getElem h]; rfl
theorem linv_noK {as bs pre : List Int} {i j : Nat} {c k1 k2 : Int} (h : LInv as bs i j k1.toNat pre.length c) (e : k2 = 0 + (pre.length : Int)) (hi : k1.toNat < i) (hj : k2.toNat < j) (ha : i ≤ as.length) (hb : j ≤ bs.length) (hn : (as.getD k1.toNat 0).fdiv 2 ≠ (bs.getD k2.toNat 0).fdiv 2) : LInv as bs i j k1.toNat (pre ++ [k2]).length c := by
  have e' : pre.length = k2.toNat := by omega
  rw [List.length_append, List.length_singleton]
  rw [e'] at h ⊢
  exact linv_no h (getD_some (by omega)) (getD_some (by omega)) hn
theorem linv_yesK {as bs pre : List Int} {i j : Nat} {c r k1 k2 d : Int} (h : LInv as bs i j k1.toNat pre.length c) (e : k2 = 0 + (pre.length : Int)) (h1 : 0 ≤ k1) (h2 : 0 ≤ k2) (hi : k1.toNat < i) (hj : k2.toNat < j) (ha : i ≤ as.length) (hb : j ≤ bs.length) (hn : (as.getD k1.toNat 0).fdiv 2 = (bs.getD k2.toNat 0).fdiv 2)
    (hd : Dist (as.take k1.toNat) (bs.take k2.toNat) d)
    (hr : r = (if ((d + if as.getD k1.toNat 0 - bs.getD k2.toNat 0 < 0 then -(as.getD k1.toNat 0 - bs.getD k2.toNat 0) else as.getD k1.toNat 0 - bs.getD k2.toNat 0) + 2 * if (j : Int) - k2 > (i : Int) - k1 then (j : Int) - k2 else (i : Int) - k1) - 2 < c then
      ((d + if as.getD k1.toNat 0 - bs.getD k2.toNat 0 < 0 then -(as.getD k1.toNat 0 - bs.getD k2.toNat 0) else as.getD k1.toNat 0 - bs.getD k2.toNat 0) + 2 * if (j : Int) - k2 > (i : Int) - k1 then (j : Int) - k2 else (i : Int) - k1) - 2 else c)) : LInv as bs i j k1.toNat (pre ++ [k2]).length r := by
  have e' : pre.length = k2.toNat := by omega +splitDisjunctions
  rw [List.length_append, List.length_singleton]
  rw [e'] at h ⊢
  refine linv_yes h ha hb hi hj (getD_some (by omega +splitDisjunctions)) (getD_some (by omega +splitDisjunctions)) hn hd ?_
  generalize as.getD k1.toNat 0 = x at *
  generalize bs.getD k2.toNat 0 = y at *
  have eA : (if x - y < 0 then -(x - y) else x - y) = ((x - y).natAbs : Int) := by split <;> omega +splitDisjunctions
  have eM : (if (j : Int) - k2 > (i : Int) - k1 then (j : Int) - k2 else (i : Int) - k1) = max ((i : Int) - (k1.toNat : Nat)) ((j : Int) - (k2.toNat : Nat)) := by split <;> omega +splitDisjunctions
  rw [eA, eM] at hr
  rw [hr]
  split <;> omega +splitDisjunctions
theorem linv_rowK {as bs pre : List Int} {i j n : Nat} {c k1 : Int} (h : LInv as bs i j k1.toNat (rangeKs 0 n).length c) (hl : n = j) (e : k1 = 0 + (pre.length : Int)) : LInv as bs i j (pre ++ [k1]).length 0 c := by
  have e' : k1.toNat = pre.length := by omega
  rw [List.length_append, List.length_singleton]
  rw [e', rangeKs_length, hl] at h
  exact linv_row h
theorem linv_endK {as bs : List Int} {i j n : Nat} {c : Int} (h : LInv as bs i j (rangeKs 0 n).length 0 c) (hl : n = i) (hi : i ≤ as.length) (hj : j ≤ bs.length) : Dist (as.take i) (bs.take j) c := by
  rw [rangeKs_length, hl] at h
  exact linv_end h hi hj
theorem ints_get {vs : List Value} {ns : List Int} (h : IntsAre vs ns) (i : Nat) (n : Int) (e : ns[i]? = some n) : ∃ t, vs[i]? = some (.int n t) := by
  have hl : i < vs.length := by rw [h.length]; exact (List.getElem?_eq_some_iff.mp e).1
  obtain ⟨k, t, e1, e2⟩ := IntsAre.at h i _ (List.getElem?_eq_getElem hl)
  rw [e] at e2
  cases e2
  exact ⟨t, (List.getElem?_eq_getElem hl).trans (congrArg some e1)⟩
section
variable {prog : Program} {w : World} {A : Around} {E : Value → Shared → Prop} {s : Shared}
theorem item_any {value slice : PySem.Expr} {l : Addr} {vs : List Value} {i : Int} {u : Tok} {v : Value} {Q : Value → Shared → Prop} (hl : s.heap.IsList l vs.toArray) (h0 : 0 ≤ i) (hfit : i < 2 ^ 63) (e : vs[i.toNat]? = some v) (h : Q v s)
    (hs : subscripted slice false (.ref l) (.int i u) = operate [.ref l, .int i u] (getItem (.ref l) (.int i u)) := by with_unfolding_all rfl) :
    wpAny (model prog w) A (subscriptTail value slice (.ref l) (.int i u)) Q E s :=
  tail_any hl.typeIs slot_list_getitem.lookup (wpAny_getItem_list hl h0 hfit (x := v) (by simpa using e) h) hs
end
section
local macro_rules | `(tactic| k_mem) => `(tactic| first | with_reducible assumption | (refine' List.mem_append_left _ ?_; with_reducible assumption) | (refine' List.mem_append_left _ (List.mem_append_left _ ?_); with_reducible assumption))
theorem least_cell (as bs : List Int) (l1 l2 Tt R : Addr) (v1 v2 rs cur : List Value) (ktt kcc : Nat) (o1 o2 o3 : Obj) (rest : List (Addr × Obj)) (i j : Nat) (ti tj : Tok) (hi1 : IntsAre v1 as) (hi2 : IntsAre v2 bs) (ha : as.length ≤ 100) (hb : bs.length ≤ 100) (hi : i ≤ as.length) (hj : j ≤ bs.length)
   (hdp : dp + 4 < recursionLimit) (hu : un + 40 < cLine) (hk : cs.kind = .function)
   (B : Below (ktrTop dp un gd cn cs L a ccd cl outer) base (envX cn cs L a ccd cl :: outer) g) (F : Fr g L' h' m) (N : News g L' h' ((R, W.listOf cur.toArray kcc) :: rest)) (X : (hd.heap_39 w.params).In g) (T : Top p loose mean mg mb g)
   (hl1 : g.IsList l1 v1.toArray) (hl2 : g.IsList l2 v2.toArray)
   (c1 : (L' + 1, o1) ∈ rest) (d1 : o1.data = .cell (some (.ref l1))) (c2 : (L' + 1 + 1, o2) ∈ rest) (d2 : o2.data = .cell (some (.ref l2))) (c3 : (L' + 1 + 1 + 1, o3) ∈ rest) (d3 : o3.data = .cell (some (.ref Tt)))
   (hT : (Tt, W.listOf rs.toArray ktt) ∈ rest) (hR : rs[i]? = some (.ref R)) (hrows : ∀ x v, x < i → rs[x]? = some v → RowAt as bs x v rest) (offR : ∀ q ∈ rest, @Ne Nat q.1 R) (hcur : cur.length ≤ 200)
   (hmi : m (PySem.Str.ofString "i") = some (.int i ti)) (hmj : m (PySem.Str.ofString "j") = some (.int j tj))
   (hret : Stop (∀ h1 m1 tk1 kc1 v t, Fr g L' h1 m1 → m1 (PySem.Str.ofString "i") = some (.int i ti) → News g L' h1 ((R, W.listOf (cur ++ [Value.int v t]).toArray kc1) :: rest) → Dist (as.take i) (bs.take j) v → Q .next { heap := h1, gens := gens, drawn := drawn, toks := tk1, os := os })) :
   wpAny (model PG w) ((ktrTop dp un gd cn cs L a ccd cl outer).deeper (leEnv L')) (execs leastJ (leEnv L')) Q (leE w dp un gd cn cs a ccd cl outer L L' E) { heap := h', gens := gens, drawn := drawn, toks := tk, os := os } := by
  k_with_none
  k_with "subscriptTail" => (refine stop ?_)
  k_with "pyIter ref" => (refine stop ?_)
  k_with "InvEndN" => (refine stop ?_)
  k_with "subscriptTail Name" => (refine stop ?_)
  unfold Stop at hret; unfold leE; delta PG; revert X; k_fill; intro X
  conv in leastJ => whnf
  unfold leEnv
  generalize hsc : theScope 13 = sc9
  conv at hsc => lhs; whnf
  subst hsc
  replace F := fr_kst F [(PySem.Str.ofString "i", .int i ti), (PySem.Str.ofString "j", .int j tj)] (by simp [hmi, hmj])
  dsimp only [kstB] at F
  k_steps
  unfold Stop
  k_with "state" => exact linv_startK hi hj rfl
  k_state (fun pre least => LInv as bs i j pre.length 0 least) "least"
  · rename Int => k1
    rename List Int => p1
    rename k1 = _ => ek1
    rename _ < Int.toNat _ => lk1
    k_steps
    unfold Stop
    k_with "state" => exact linv_inK (by assumption) (by assumption)
    k_state_given ["k"] (fun k pre least => LInv as bs i j k.toNat pre.length least) "least"
    · rename Int => k2
      rename List Int => p2
      rename k2 = _ => ek2
      rename _ < Int.toNat _ => lk2
      have hkl : k1.toNat < rs.length := by have := (List.getElem?_eq_some_iff.mp hR).1; omega
      obtain ⟨r, vr, kr, row, hv, hrm, hri, hrl, hrd⟩ := hrows k1.toNat _ (by omega) (List.getElem?_eq_getElem hkl)
      have hv := (List.getElem?_eq_getElem hkl).trans (congrArg some hv)
      have hml : k2.toNat < row.length := by omega
      have hd := hrd k2.toNat _ (List.getElem?_eq_getElem hml)
      obtain ⟨td, hvd⟩ := ints_get hri _ _ (List.getElem?_eq_getElem hml)
      generalize row[k2.toNat] = dv at hd hvd
      k_steps
      · unfold Stop
        refine item_any ⟨_, (News.get (by k_asm) (show (Tt, W.listOf rs.toArray ktt) ∈ _ from .tail _ (List.mem_append_left _ (List.mem_append_left _ hT)))), rfl, _, rfl⟩ (by omega) (by omega) hv ?_
        k_steps
        unfold Stop
        refine item_any ⟨_, (News.get (by k_asm) (show (r, W.listOf vr.toArray kr) ∈ _ from .tail _ (List.mem_append_left _ (List.mem_append_left _ hrm)))), rfl, _, rfl⟩ (by omega) (by omega) hvd ?_
        k_steps
        unfold Stop
        k_with "state" => exact linv_yesK (by assumption) (by omega) (by omega) (by omega) (by omega) (by omega) (by omega) (by omega) (by assumption) hd rfl
        kst_close
      · unfold Stop
        k_with "state" => exact linv_noK (by assumption) (by omega) (by omega) (by omega) (by omega) (by omega) (by assumption)
        kst_close
    · k_with "state" => exact linv_rowK (by assumption) (by omega) (by omega)
      k_steps
      unfold Stop
      kst_close
  · have hen := linv_endK (by assumption) (by omega) hi hj
    iterate 4 (first | (k_unfold; (try dsimp only)) | walk1)
    refine nameX_C (by k_asm) (by rfl) (show (L' + 1 + 1 + 1, o3) ∈ _ from .tail _ c3) d3 ?_ (by rfl) (by rfl)
    k_steps
    unfold Stop
    refine item_any ⟨_, (News.get (by k_asm) (show (Tt, W.listOf rs.toArray ktt) ∈ _ from .tail _ hT)), rfl, _, rfl⟩ (by omega) (by omega) (v := .ref R) hR ?_
    k_steps
    refine append_K (by k_asm) (by k_asm) (Upd.head offR) ?_ (by rw [PySem.sizeLine_eq, List.size_toArray]; omega)
    intro h9 F9 N9
    k_steps
    rw [List.push_toArray] at N9
    exact hret _ _ _ _ _ _ F9 (by exact rfl) N9 hen
end
end
section
variable {w : World} {p : Program} {loose : List PySem.Str} {mean : ExcName → Option Value} {mg mb : PySem.Str → Option Value}
  {dp un : Nat} {gd : Option (List Code)} {cn : PySem.Str} {cs : Scope} {a : Addr} {ccd : Value} {cl : List (PySem.Str × Addr)} {outer : List Env} {base : Heap} {L : Addr}
  {g h' : Heap} {gens : Array GenState} {drawn : Drawn} {tk : Nat} {os : OsState} {L' : Addr} {m : PySem.Str → Option Value} {Q : Flow → Shared → Prop} {E : Value → Shared → Prop}
section
theorem kct_ints {vs : List Value} {ns : List Int} {n : Int} {t : Tok} (h : IntsAre vs ns) : IntsAre (vs ++ [.int n t]) (ns ++ [n]) := by
  induction h with
  | nil => exact .cons _ _ .nil
  | cons a b _ ih => exact .cons _ _ ih
theorem range_val {n j : Nat} {k : Int} (h : (rangeKs 0 n)[j]? = some k) : k = (j : Int) ∧ j < n := by
  have hj : j < n := by have := (List.getElem?_eq_some_iff.mp h).1; rwa [rangeKs_length] at this
  have : (rangeKs 0 n)[j]? = some (0 + (j : Int)) := by simp [rangeKs, hj]
  rw [this] at h
  cases h
  exact ⟨by omega, hj⟩
theorem least_row (as bs : List Int) (l1 l2 Tt : Addr) (v1 v2 rs : List Value) (ktt : Nat) (o1 o2 o3 : Obj) (rest : List (Addr × Obj)) (i : Nat) (ti : Tok) (hi1 : IntsAre v1 as) (hi2 : IntsAre v2 bs) (ha : as.length ≤ 100) (hb : bs.length ≤ 100) (hi : i ≤ as.length)
   (hdp : dp + 4 < recursionLimit) (hu : un + 40 < cLine) (hk : cs.kind = .function)
   (B : Below (ktrTop dp un gd cn cs L a ccd cl outer) base (envX cn cs L a ccd cl :: outer) g) (F : Fr g L' h' m) (N : News g L' h' ((Tt, W.listOf rs.toArray ktt) :: rest)) (X : (hd.heap_39 w.params).In g) (T : Top p loose mean mg mb g)
   (hl1 : g.IsList l1 v1.toArray) (hl2 : g.IsList l2 v2.toArray)
   (c1 : (L' + 1, o1) ∈ rest) (d1 : o1.data = .cell (some (.ref l1))) (c2 : (L' + 1 + 1, o2) ∈ rest) (d2 : o2.data = .cell (some (.ref l2))) (c3 : (L' + 1 + 1 + 1, o3) ∈ rest) (d3 : o3.data = .cell (some (.ref Tt)))
   (hTr : ∀ q ∈ rest, q.1 ≠ Tt) (hrl : rs.length = i) (hrows : ∀ x v, rs[x]? = some v → RowAt as bs x v rest)
   (hmi : m (PySem.Str.ofString "i") = some (.int i ti))
   (hret : Stop (∀ h1 m1 tk1 kc1 ktt1 R vr row, Fr g L' h1 m1 → News g L' h1 ((R, W.listOf vr.toArray kc1) :: (Tt, W.listOf (rs ++ [Value.ref R]).toArray ktt1) :: rest) → (∀ q ∈ rest, q.1 ≠ R) → Tt ≠ R → IntsAre vr row → row.length = bs.length + 1 →
     (∀ y d, row[y]? = some d → Dist (as.take i) (bs.take y) d) → Q .next { heap := h1, gens := gens, drawn := drawn, toks := tk1, os := os })) :
   wpAny (model PG w) ((ktrTop dp un gd cn cs L a ccd cl outer).deeper (leEnv L')) (execs leastI (leEnv L')) Q (leE w dp un gd cn cs a ccd cl outer L L' E) { heap := h', gens := gens, drawn := drawn, toks := tk, os := os } := by
  k_with_none
  k_with "pyIter ref" => (refine stop ?_)
  k_with "newList" => (refine stop ?_)
  k_with "call builtin:list.append" => (refine stop ?_)
  k_with "eval Name" => ((with_reducible show wpAny _ _ (eval (Expr.Name (PySem.Str.ofString "table") _) _) _ _ _); refine stop ?_)
  k_with "eval Name" => ((with_reducible show wpAny _ _ (eval (Expr.Name (PySem.Str.ofString "two") _) _) _ _ _); refine stop ?_)
  unfold Stop at hret; unfold leE; delta PG; revert X; k_fill; intro X
  conv in leastI => whnf
  unfold leEnv
  generalize hsc : theScope 13 = sc9
  conv at hsc => lhs; whnf
  subst hsc
  replace F := fr_kst F [(PySem.Str.ofString "i", .int i ti)] (by simp [hmi])
  dsimp only [kstB] at F
  k_steps
  unfold Stop
  refine nameX_C (by k_asm) (by rfl) (show (L' + 1 + 1 + 1, o3) ∈ _ from .tail _ c3) d3 ?_ (by rfl) (by rfl)
  k_steps
  unfold Stop
  refine newList_K (vs := []) (by k_asm) (by k_asm) ?_ (by exact Nat.zero_le _)
  intro D h9 F9 N9 lD
  have offD : ∀ q ∈ rest, q.1 ≠ D := fun q hq => Nat.ne_of_lt (lD q (.tail _ hq))
  have offT : Tt ≠ D := Nat.ne_of_lt (lD _ (.head _))
  k_steps
  unfold Stop
  refine append_K F9 N9 (.tail (Ne.symm offT) (.head hTr)) ?_ (by rw [PySem.sizeLine_eq, List.size_toArray]; omega)
  intro h10 F10 N10
  rw [List.push_toArray] at N10
  clear F9 N9
  k_steps
  unfold Stop
  refine nameX_C (by k_asm) (by rfl) (show (L' + 1 + 1, o2) ∈ _ from .tail _ (.tail _ c2)) d2 ?_ (by rfl) (by rfl)
  k_steps
  unfold Stop
  rename IsRange _ _ _ _ _ _ _ _ => hR
  rename Fr _ _ _ _ => F9
  rename News _ _ _ _ => N9
  refine tbr_invG (n := bs.length + 1) (fun j m nx => ∃ cur kc row, nx = (D, W.listOf (List.toArray cur) kc) :: (Tt, W.listOf (rs ++ [Value.ref D]).toArray (ktt + 1)) :: rest ∧ cur.length = j ∧ m (PySem.Str.ofString "i") = some (.int i ti) ∧ IntsAre cur row ∧ (∀ (y : Nat) d, row[y]? = some d → Dist (as.take i) (bs.take y) d))
    rfl hR (small_one (by decide) (by decide) (by omega) (by omega)) (by rw [rangeSize_nat]; omega) F9 N9 ⟨[], 0, [], rfl, rfl, by exact rfl, .nil, fun y d e => by simp at e⟩ ?_ ?_
  · clear hR F9 N9
    rintro j k t m₁ nx h tk own hk' hoff ⟨cur, kc, row, rfl, hcl, hmi', hri, hrd⟩ F1 N1
    obtain ⟨rfl, hj⟩ := range_val hk'
    refine least_cell as bs l1 l2 Tt D v1 v2 (rs ++ [Value.ref D]) cur (ktt + 1) kc o1 o2 o3 _ i j ti t hi1 hi2 ha hb hi (by omega) hdp hu hk B F1 N1 X T hl1 hl2 (.tail _ (List.mem_append_left _ c1)) d1 (.tail _ (List.mem_append_left _ c2)) d2 (.tail _ (List.mem_append_left _ c3)) d3 (.head _) (by simp [hrl]) ?_ ?_ (by omega) ((if_neg (by decide +kernel)).trans hmi') (if_pos rfl) ?_
    · intro x v hx hv
      rw [List.getElem?_append_left (by omega)] at hv
      obtain ⟨r, vr, kr, rw9, e1, e2, e3⟩ := hrows x v hv
      exact ⟨r, vr, kr, rw9, e1, .tail _ (List.mem_append_left _ e2), e3⟩
    · intro q hq
      rcases List.mem_cons.mp hq with rfl | hq
      · exact offT
      · rcases List.mem_append.mp hq with hq | hq
        · exact offD _ hq
        · exact hoff _ hq _ (.head _)
    · intro h1 m1 tk1 kc1 v t' F' hmi2 N' hd'
      refine ⟨h1, tk1, m1, _, _, rfl, F', N', ?_, ?_, ?_, cur ++ [.int v t'], kc1, row ++ [v], rfl, by simp [hcl], hmi2, kct_ints hri, ?_⟩
      · intro q hq
        rcases List.mem_cons.mp hq with rfl | hq
        · exact .head _
        · rcases List.mem_cons.mp hq with rfl | hq
          · exact .tail _ (.head _)
          · exact .tail _ (.tail _ (List.mem_append_left _ hq))
      · intro q hq
        exact .tail _ (.tail _ (List.mem_append_right _ hq))
      · intro p hp q hq
        rcases List.mem_cons.mp hq with rfl | hq
        · exact hoff p hp (D, W.listOf (List.toArray cur) kc) (.head _)
        · exact hoff p hp _ (.tail _ hq)
      · intro y d hy
        have hrl9 : row.length = j := by rw [← hri.length]; exact hcl
        by_cases hyj : y < row.length
        · rw [List.getElem?_append_left hyj] at hy
          exact hrd y d hy
        · have : y = j := by have := (List.getElem?_eq_some_iff.mp hy).1; simp at this; omega
          subst this
          rw [List.getElem?_append_right (by omega)] at hy
          simp [hrl9] at hy
          exact hy ▸ hd'
  · rintro m₁ nx h tk ⟨cur, kc, row, rfl, hcl, hmi', hri, hrd⟩ F1 N1
    k_steps
    exact hret _ _ _ _ _ _ _ _ F1 N1 offD offT hri (by rw [← hri.length]; exact hcl) hrd
end
end
section
section
variable {prog : Program} {w : World} {A : Around} {h₀ : Heap} {L : Addr} {m : PySem.Str → Option Value} {env : Env} {elt : PySem.Expr} {x : PySem.Str} {scope : Scope} {cl : List (PySem.Str × Addr)} {s : Shared} {S : List (Addr × Obj) → Prop} {P : Nat → Value → Prop} {Fin : List Value → List (Addr × Obj) → Prop} {news : List (Addr × Obj)}
/-- a comprehension's turns, its state J free to grow -/
theorem comp_vals {n : Nat} (J : Nat → List Value → List (Addr × Obj) → Prop) (hj : J 0 [] news)
    (turn : ∀ i v ys nx I oI C oC D m₂ h tk (E' : Value → Shared → Prop), i < n → P i v → J i ys nx → LCg.NsObj oC m₂ → m₂ x = some v → Fr h₀ L h m → News h₀ L h ((I, oI) :: (C, oC) :: (D, LCg.lst ys) :: nx) → LCg.Off3 I C D nx → ((@Ne Nat I C) ∧ (@Ne Nat I D) ∧ (@Ne Nat C D)) →
      wpAny (model prog w) A (eval elt (compEnvC scope cl C env)) (LCg.CompEnd h₀ L m { s with heap := h, toks := tk } I oI C oC D (LCg.lst ys) S (fun y nx' => J (i + 1) (ys ++ [y]) nx')) E' { s with heap := h, toks := tk })
    (fin : ∀ ys nx, J n ys nx → Fin ys nx) : LCg.CompRest prog w A h₀ L m env elt x scope cl s S P Fin n 0 [] news := by
  have key : ∀ (j i : Nat) (ys : List Value) (nx : List (Addr × Obj)), i + j = n → J i ys nx → LCg.CompRest prog w A h₀ L m env elt x scope cl s S P Fin j i ys nx := by
    intro j
    induction j with
    | zero =>
      intro i ys nx hi hJ
      have e : i = n := by omega
      subst e
      exact LCg.CompRest.zero (fin ys nx hJ)
    | succ j ih =>
      intro i ys nx hi hJ
      refine LCg.CompRest.succ ?_
      intro v I oI C oC D m₂ h tk E' hv hC hx F N off ne
      refine wpAny_mono (turn i v ys nx I oI C oC D m₂ h tk E' (by omega) hv hJ hC hx F N off ne) (fun y s₂ hq => ?_) fun _ _ e => e
      obtain ⟨h', tk', nw, e, F', N', off', hS, hJ'⟩ := hq
      exact ⟨h', tk', nw, e, F', N', off', hS, ih (i + 1) _ _ (by omega) hJ'⟩
  exact key n 0 [] news (by omega) hj
end
section
variable {prog : Program} {w : World} {A : Around} {E : Value → Shared → Prop} {s : Shared}
def IsTri (h : Heap) (v : Value) (x y z : Int) : Prop := ∃ a t u r k, v = .ref a ∧ h.get? a = some { cls := .type "tuple", data := .seq #[.int x t, .int y u, .int z r] k }
/-- two triples of ints compared: the lesser is no greater in its first -/
theorem tri_lt {v v' : Value} {x y z x' y' z' : Int} {Q : Value → Shared → Prop} (h1 : IsTri s.heap v x y z) (h2 : IsTri s.heap v' x' y' z') (hu : A.units < cLine)
    (h : ∀ b : Bool, (b = true → x ≤ x') → (b = false → x' ≤ x) → Q (.bool b) s) : wpAny (model prog w) A (richCompare .Lt v v') Q E s := by
  obtain ⟨a, t, u, r, k, rfl, ha⟩ := h1
  obtain ⟨a', t', u', r', k', rfl, ha'⟩ := h2
  have hT : s.TypeIs (.ref a) "tuple" := ⟨_, ha, rfl⟩
  have hT' : s.TypeIs (.ref a') "tuple" := ⟨_, ha', rfl⟩
  refine wpAny_richCompare_same_room hT hT' PySem.F.slot_tuple_lt (wpAny_call_entry PySem.F.slot_tuple_lt hT PySem.F.entry_tuple_lt ?_ (PySem.F.args_tuple_lt_2 _ _)) hu
  show wpAny _ _ (isInstance (.ref a') (.type "tuple") >>= _) _ _ s
  refine wpAny_bind (wpAny_isInstance hT' isSubtype_tuple_tuple ?_)
  simp only [Bool.not_true, Bool.false_eq_true, if_false]
  refine wpAny_bind (wpAny_tupleItemsOf ha rfl ?_)
  refine wpAny_bind (wpAny_tupleItemsOf ha' rfl ?_)
  refine wpAny_bind ?_
  have go : ∀ (b : Bool), (b = true → x ≤ x') → (b = false → x' ≤ x) → (Value.bool b ≠ .notImplemented ∧ Q (.bool b) s) := fun b q1 q2 => ⟨(by intro e; cases e), h b q1 q2⟩
  refine wpAny_forIn_list _
    (fun rest rr s' => rr.1 = none ∧ s' = s ∧ (rest = [(Value.int x t, Value.int x' t'), (Value.int y u, Value.int y' u'), (Value.int z r, Value.int z' r')] ∨ (x = x' ∧ ∀ q ∈ rest, ∃ e e' f f', q = (Value.int e f, Value.int e' f'))))
    _ ?_ ?_ _ _ ⟨rfl, rfl, .inl rfl⟩
  · rintro ⟨v1, v2⟩ rest rr s' ⟨hr, rfl, hz⟩
    obtain ⟨e, e', f, f', hv, h1, h2, h3⟩ : ∃ e e' f f', (v1, v2) = (Value.int e f, Value.int e' f') ∧ (e = e' → x = x' ∧ ∀ q ∈ rest, ∃ e e' f f', q = (Value.int e f, Value.int e' f')) ∧ (e ≠ e' → e < e' → x ≤ x') ∧ (e ≠ e' → ¬ e < e' → x' ≤ x) := by
      rcases hz with hz | ⟨hx, hz⟩
      · injection hz with hz1 hz2
        refine ⟨x, x', t, t', hz1, fun e => ⟨e, fun q hq => ?_⟩, fun _ q => by omega, fun _ q => by omega⟩
        rw [hz2] at hq
        rcases List.mem_cons.mp hq with rfl | hq
        · exact ⟨_, _, _, _, rfl⟩
        · rw [List.mem_singleton.mp hq]; exact ⟨_, _, _, _, rfl⟩
      · obtain ⟨e, e', f, f', hq⟩ := hz _ (.head _)
        exact ⟨e, e', f, f', hq, fun _ => ⟨hx, fun q hq => hz q (.tail _ hq)⟩, fun _ _ => by omega, fun _ _ => by omega⟩
    cases hv
    refine wpAny_bind (wpAny_eqBool_int ?_)
    by_cases he : e = e'
    · rw [show (e == e') = true from beq_iff_eq.mpr he]
      exact wpAny_pure ⟨rfl, rfl, .inr (h1 he)⟩
    · rw [show (e == e') = false from beq_eq_false_iff_ne.mpr he]
      show wpAny _ _ (rule _ >>= _) _ _ _
      refine wpAny_bind (wpAny_rule ?_)
      refine wpAny_bind (CmpOf.ints_lt (prog := prog) (w := w) (A := A.in1) (P := fun i v => ∃ t, v = .int ((fun n : Nat => if n = 0 then e else e') i) t) (fun n => if n = 0 then e else e') (fun i v h => h) 0 1 _ _ _ _ _ ⟨f, rfl⟩ ⟨f', rfl⟩ ?_)
      refine wpAny_bind (wpAny_pure (wpAny_pure (wpAny_pure ⟨_, rfl, go _ (fun q => ?_) (fun q => ?_)⟩)))
      · have q : e < e' := by simpa using q
        exact h2 he q
      · have q : ¬ e < e' := by simpa using q
        exact h3 he q
  · rintro ⟨r1, r2⟩ s' ⟨hr, rfl, hz⟩
    have hx : x = x' := by
      rcases hz with hz | hz
      · cases hz
      · exact hz.1
    simp only at hr
    subst hr
    exact wpAny_pure ⟨_, rfl, go _ (fun _ => by omega) (fun _ => by omega)⟩
end
end
section
section
variable {prog : Program} {w : World} {A : Around} {E : Value → Shared → Prop} {s : Shared} {h₀ : Heap} {L l I S : Addr} {m : PySem.Str → Option Value} {news : List (Addr × Obj)} {vs : List Value} {R : Result → Shared → Prop} {Q : Value → Shared → Prop}
abbrev lstObj (xs : Array Value) (k : Nat) : Obj := { cls := .type "list", data := .seq xs k }
theorem min_go (kf : Nat → Int) (hh : A.handled = none) (hu : A.in1.units < cLine) (hl : ∀ h, Fr h₀ L h m → News h₀ L h news → h.IsList l vs.toArray) (htri : ∀ i v, vs[i]? = some v → ∃ y z, ∀ h, News h₀ L h news → IsTri h v (kf i) y z)
    (hlI : l ≠ I) (hSI : S ≠ I) (hnS : ∀ p ∈ news, p.1 ≠ S) (hnI : ∀ p ∈ news, p.1 ≠ I) (hne : 0 < vs.length)
    (hR : ∀ i v h' tk', vs[i]? = some v → (∀ j, j < vs.length → kf i ≤ kf j) → Fr h₀ L h' m → News h₀ L h' news → R (.ok (.ret v)) { s with heap := h', toks := tk' }) :
    ∀ (r j : Nat) (h : Heap) (tk : Nat) (best : Array Value) (c : Nat) (oI : Obj), vs.length - j = r → j ≤ vs.length → Fr h₀ L h m →
      News h₀ L h ((S, lstObj best c) :: (I, oI) :: news) → h.IsListIter I l j → ((best = #[] ∧ j = 0) ∨ ∃ i vb, best = #[vb, vb] ∧ vs[i]? = some vb ∧ ∀ j', j' < j → kf i ≤ kf j') →
      codeAny (model prog w) A (.builtin "min.loop" ⟨[.ref I, .none, .ref S], []⟩) R { s with heap := h, toks := tk } := by
  have hname : (toString "min" ++ toString ".loop" : String) = "min.loop" := by decide
  have W := Walks.list (prog := prog) (w := w) (A := A.in1) hh I l hlI vs.toArray
  have hsz : vs.toArray.size = vs.length := List.size_toArray ..
  intro r
  induction r with
  | zero =>
    intro j h tk best c oI hr hj F N hit hb
    have hin : j = vs.length := by omega
    have nS := N _ (.head _)
    have nI := N _ (.tail _ (.head _))
    have Nn : News h₀ L h news := fun p hp => N p (.tail _ (.tail _ hp))
    rcases hb with ⟨_, e⟩ | ⟨i, vb, rfl, hvb, hmin⟩
    · omega
    refine codeAny_builtin PySem.F.entry_min_loop ?_
    rw [Around.under_plainId PySem.F.plain_min_loop _]
    show wpAny _ A.in1 (seqItems? (.ref S) >>= _) _ _ _
    refine wpAny_bind (wpAny_seqItems nS.1 rfl ?_)
    show wpAny _ A.in1 (tryCatch (pyNext (.ref I)) _ >>= _) _ _ _
    refine wpAny_bind (wpAny_tryCatch (W.done _ _ _ ⟨by rw [hsz, ← hin]; exact hit, hl h F Nn⟩ fun h' tk' hk' => ?_))
    have F1 := kmk_fr F hk' nI.2.1 nI.2.2
    have N1 := kmk_news Nn hk' hnI
    have hS' := hk' S _ (by simpa using hSI) nS.1
    have s1 := Heap.SameBut.update h' S (Obj.mapSeq fun _ => (#[] : Array Value))
    show wpAny _ A.in1 (updateSeq S (fun _ => #[]) >>= _) _ _ _
    refine wpAny_bind (wpAny_updateSeq hS' rfl (wpAny_bind (wpAny_letGo (wpAny_pure ?_))))
    exact hR i vb _ _ hvb (fun j' hj' => hmin j' (by omega)) (ksk_fr F1 s1 nS.2.1 nS.2.2) (ksk_news N1 s1 hnS)
  | succ r ih =>
    intro j h tk best c oI hr hj F N hit hb
    have hlt : j < vs.length := by omega
    have nS := N _ (.head _)
    have nI := N _ (.tail _ (.head _))
    have Nn : News h₀ L h news := fun p hp => N p (.tail _ (.tail _ hp))
    refine codeAny_builtin PySem.F.entry_min_loop ?_
    rw [Around.under_plainId PySem.F.plain_min_loop _]
    show wpAny _ A.in1 (seqItems? (.ref S) >>= _) _ _ _
    refine wpAny_bind (wpAny_seqItems nS.1 rfl ?_)
    show wpAny _ A.in1 (tryCatch (pyNext (.ref I)) _ >>= _) _ _ _
    refine wpAny_bind (wpAny_tryCatch (W.item j _ _ _ (by rw [hsz]; exact hlt) ⟨hit, hl h F Nn⟩ fun v h' tk' hP hst' hk' => ?_))
    have hv : vs[j]? = some v := by simpa using hP
    obtain ⟨oI', hoI', hoc, hod⟩ := id hst'.1
    have F1 := kmk_fr F hk' nI.2.1 nI.2.2
    have N1 := kmk_news Nn hk' hnI
    have hS' := hk' S _ (by simpa using hSI) nS.1
    have next : ∀ h3 tk3 best3 c3, h3.get? S = some (lstObj best3 c3) → Heap.SameBut S h' h3 ∨ h3 = h' → ((best3 = #[] ∧ j + 1 = 0) ∨ ∃ i vb, best3 = #[vb, vb] ∧ vs[i]? = some vb ∧ ∀ j', j' < j + 1 → kf i ≤ kf j') →
        codeAny (model prog w) A (.builtin "min.loop" ⟨[.ref I, .none, .ref S], []⟩) R { s with heap := h3, toks := tk3 } := by
      intro h3 tk3 best3 c3 g3 hs hb3
      have F3 : Fr h₀ L h3 m := by
        rcases hs with hs | rfl
        · exact ksk_fr F1 hs nS.2.1 nS.2.2
        · exact F1
      have N3 : News h₀ L h3 news := by
        rcases hs with hs | rfl
        · exact ksk_news N1 hs hnS
        · exact N1
      have gI : h3.get? I = some oI' := by
        rcases hs with hs | rfl
        · exact (hs.2 I (Ne.symm hSI)).trans hoI'
        · exact hoI'
      refine ih (j + 1) h3 tk3 best3 c3 oI' (by omega) (by omega) F3 (fun p hp => ?_) ⟨oI', gI, hoc, hod⟩ hb3
      rcases List.mem_cons.mp hp with rfl | hp
      · exact ⟨g3, nS.2⟩
      · rcases List.mem_cons.mp hp with rfl | hp
        · exact ⟨gI, nI.2⟩
        · exact N3 p hp
    rcases hb with ⟨rfl, rfl⟩ | ⟨i, vb, rfl, hvb, hmin⟩
    · have s1 := Heap.SameBut.update h' S (Obj.mapSeq fun _ => #[v, v])
      obtain ⟨c2, hc2⟩ : ∃ c2, (h'.update S (Obj.mapSeq fun _ => #[v, v])).get? S = some (lstObj #[v, v] c2) := ⟨_, get?_update_seq hS' fun _ => #[v, v]⟩
      show wpAny _ A.in1 (updateSeq S (fun _ => #[v, v]) >>= _) _ _ _
      refine wpAny_bind (wpAny_updateSeq hS' rfl ?_)
      rw [hname]
      refine wpAny_pure ⟨plainId_quiet PySem.F.plain_min_loop _, next _ _ _ c2 hc2 (.inl s1) (.inr ⟨0, v, rfl, hv, fun j' hj' => ?_⟩)⟩
      rw [show j' = 0 by omega]; exact Int.le_refl _
    · obtain ⟨y1, z1, t1⟩ := htri j v hv
      obtain ⟨y2, z2, t2⟩ := htri i vb hvb
      show wpAny _ A.in1 (tryCatch (holding [v, v] (richCompare .Lt v vb >>= _)) _ >>= _) _ _ _
      refine wpAny_bind (wpAny_tryCatch (wpAny_holding (wpAny_bind (tri_lt (t1 _ N1) (t2 _ N1) hu fun b q1 q2 => ?_))))
      refine wpAny_bind (wpAny_holding (wpAny_truthy_bool ?_))
      refine wpAny_bind (wpAny_letGo (wpAny_pure ?_))
      cases b with
      | true =>
        have s1 := Heap.SameBut.update h' S (Obj.mapSeq fun _ => #[v, v])
        obtain ⟨c2, hc2⟩ : ∃ c2, (h'.update S (Obj.mapSeq fun _ => #[v, v])).get? S = some (lstObj #[v, v] c2) := ⟨_, get?_update_seq hS' fun _ => #[v, v]⟩
        simp only [if_true]
        refine wpAny_bind (wpAny_updateSeq hS' rfl (wpAny_bind (wpAny_letGo ?_)))
        rw [hname]
        refine wpAny_pure ⟨plainId_quiet PySem.F.plain_min_loop _, next _ _ _ c2 hc2 (.inl s1) (.inr ⟨j, v, rfl, hv, fun j' hj' => ?_⟩)⟩
        by_cases e : j' = j
        · rw [e]; exact Int.le_refl _
        · exact Int.le_trans (q1 rfl) (hmin j' (by omega))
      | false =>
        simp only [Bool.false_eq_true, if_false]
        refine wpAny_bind (wpAny_letGo ?_)
        rw [hname]
        refine wpAny_pure ⟨plainId_quiet PySem.F.plain_min_loop _, next _ _ _ c hS' (.inr rfl) (.inr ⟨i, vb, rfl, hvb, fun j' hj' => ?_⟩)⟩
        by_cases e : j' = j
        · rw [e]; exact q2 rfl
        · exact hmin j' (by omega)
theorem min_tris (kf : Nat → Int) (hh : A.handled = none) (hu : A.in1.units < cLine) (F : Fr h₀ L s.heap m) (N : News h₀ L s.heap news) (hl : ∀ h, Fr h₀ L h m → News h₀ L h news → h.IsList l vs.toArray) (htri : ∀ i v, vs[i]? = some v → ∃ y z, ∀ h, News h₀ L h news → IsTri h v (kf i) y z) (hne : 0 < vs.length)
    (hQ : ∀ i v h' tk', vs[i]? = some v → (∀ j, j < vs.length → kf i ≤ kf j) → Fr h₀ L h' m → News h₀ L h' news → Q v { s with heap := h', toks := tk' }) :
    wpAny (model prog w) A (call (.builtin "min") [.ref l]) Q E s := by
  have hname : (toString "min" ++ toString ".loop" : String) = "min.loop" := by decide
  have hls := hl _ F N
  obtain ⟨ol, hol, _⟩ := id hls
  have hll : l < s.heap.objs.size := Heap.lt_size hol
  have hL : L < s.heap.objs.size := F.ns.lt
  refine call_function_tree PySem.F.kind_min PySem.F.plain_min PySem.F.entry_min (PySem.F.args_min1 _) ?_
  show wpAny _ A.in1 (Builtin.Builtins.bindParams "min" ["key", "default"] 0 ⟨[], []⟩ >>= _) _ _ s
  refine wpAny_bind (wpAny_of_eq (show Builtin.Builtins.bindParams "min" ["key", "default"] 0 ⟨[], []⟩ = pure [none, none] from rfl) ?_)
  refine wpAny_bind (wpAny_pure ?_)
  refine wpAny_bind (wpAny_pyIter_list hls ?_)
  refine wpAny_bind (wpAny_newList ?_ (Nat.zero_le _))
  rw [hname]
  generalize hit : ({ cls := .type "list_iterator", data := .fields #[.ref l, .int 0 0] } : Obj) = itO
  have hS : (s.heap.push itO).objs.size = s.heap.objs.size + 1 := size_push' ..
  have fresh : ∀ b, L < b → h₀.get? b = none := fun b hb => Heap.get?_none_of_le (Nat.le_trans F.above (Nat.le_of_lt hb))
  have gI : ((s.heap.push itO).push (lstObj #[] 0)).get? s.heap.objs.size = some itO := Heap.get?_push_of_some _ (Heap.get?_push_size _ (by rw [← hit]; rfl))
  have gS : ((s.heap.push itO).push (lstObj #[] 0)).get? (s.heap.push itO).objs.size = some (lstObj #[] 0) := Heap.get?_push_size _ rfl
  refine wpAny_pure ⟨plainId_quiet PySem.F.plain_min_loop _, ?_⟩
  refine min_go kf hh hu hl htri (Nat.ne_of_lt hll) ?_ ?_ ?_ hne hQ vs.length 0 _ _ #[] 0 itO rfl (Nat.zero_le _) ((F.push _).push _) ?_ ⟨itO, gI, by rw [← hit], by rw [← hit]; rfl⟩ (.inl ⟨rfl, rfl⟩)
  · rw [hS]; exact Nat.ne_of_gt (Nat.lt_succ_self _)
  · intro p hp; rw [hS]; exact Nat.ne_of_lt (Nat.lt_succ_of_lt (Heap.lt_size (N p hp).1))
  · exact fun p hp => Nat.ne_of_lt (Heap.lt_size (N p hp).1)
  · intro p hp
    rcases List.mem_cons.mp hp with rfl | hp
    · exact ⟨gS, by rw [hS]; exact Nat.ne_of_gt (Nat.lt_succ_of_lt hL), fresh _ (by rw [hS]; exact Nat.lt_succ_of_lt hL)⟩
    · rcases List.mem_cons.mp hp with rfl | hp
      · exact ⟨gI, Nat.ne_of_gt hL, fresh _ hL⟩
      · exact N.grown (fun b x e => Heap.get?_push_of_some _ (Heap.get?_push_of_some _ e)) p hp
end
end
section
def LeastSays (as bs : List Int) (c i j : Int) : Prop :=
  ∃ x y : Nat, i = (x : Int) ∧ j = (y : Int) ∧ x ≤ as.length ∧ y ≤ bs.length ∧ (x = as.length ∨ y = bs.length) ∧ Dist (as.take x) (bs.take y) c ∧ (∀ y' d, y' ≤ bs.length → Dist as (bs.take y') d → c ≤ d) ∧ (∀ x' d, x' ≤ as.length → Dist (as.take x') bs d → c ≤ d)
def TriIn (v : Value) (x y z : Int) (nx : List (Addr × Obj)) : Prop := ∃ a t u r k, v = .ref a ∧ (a, ({ cls := .type "tuple", data := .seq #[.int x t, .int y u, .int z r] k } : Obj)) ∈ nx
def LeJ (as bs : List Int) (f : Nat → Nat × Nat) (kp : List (Addr × Obj)) (i : Nat) (ys : List Value) (nx : List (Addr × Obj)) : Prop :=
  ys.length = i ∧ (∀ q ∈ kp, q ∈ nx) ∧ ∀ j v, ys[j]? = some v → ∃ c, TriIn v c ((f j).1 : Nat) ((f j).2 : Nat) nx ∧ Dist (as.take (f j).1) (bs.take (f j).2) c
theorem TriIn.mono {v : Value} {x y z : Int} {nx nx' : List (Addr × Obj)} (h : TriIn v x y z nx) (k : ∀ q ∈ nx, q ∈ nx') : TriIn v x y z nx' := by
  obtain ⟨a, t, u, r, k9, e1, e2⟩ := h
  exact ⟨a, t, u, r, k9, e1, k _ e2⟩
theorem least_kf {as bs : List Int} {kp nx nx2 : List (Addr × Obj)} {ys ys2 : List Value} (h1 : LeJ as bs (fun j => (as.length, j)) kp (bs.length + 1) ys nx) (h2 : LeJ as bs (fun i => (i, bs.length)) nx (as.length + 1) ys2 nx2) :
    ∃ kf : Nat → Int, ∀ i v, (ys ++ ys2)[i]? = some v → ∃ x y : Nat, x ≤ as.length ∧ y ≤ bs.length ∧ (x = as.length ∨ y = bs.length) ∧ TriIn v (kf i) (x : Int) (y : Int) nx2 ∧ Dist (as.take x) (bs.take y) (kf i) ∧
      (i < bs.length + 1 → x = as.length ∧ y = i) ∧ (bs.length + 1 ≤ i → x = i - (bs.length + 1) ∧ y = bs.length) := by
  have one : ∀ i, ∃ c : Int, ∀ v, (ys ++ ys2)[i]? = some v → ∃ x y : Nat, x ≤ as.length ∧ y ≤ bs.length ∧ (x = as.length ∨ y = bs.length) ∧ TriIn v c (x : Int) (y : Int) nx2 ∧ Dist (as.take x) (bs.take y) c ∧
      (i < bs.length + 1 → x = as.length ∧ y = i) ∧ (bs.length + 1 ≤ i → x = i - (bs.length + 1) ∧ y = bs.length) := by
    intro i
    have l1 := h1.1
    have l2 := h2.1
    cases e : (ys ++ ys2)[i]? with
    | none => exact ⟨0, fun v q => by cases q⟩
    | some v =>
      have hi := (List.getElem?_eq_some_iff.mp e).1
      rw [List.length_append] at hi
      by_cases hy : i < ys.length
      · rw [List.getElem?_append_left hy] at e
        obtain ⟨c, ht, hd⟩ := h1.2.2 i v e
        refine ⟨c, fun v' q => ?_⟩
        cases q
        exact ⟨as.length, i, Nat.le_refl _, by omega, .inl rfl, ht.mono h2.2.1, hd, fun _ => ⟨rfl, rfl⟩, fun q => by omega⟩
      · rw [List.getElem?_append_right (by omega)] at e
        obtain ⟨c, ht, hd⟩ := h2.2.2 _ v e
        refine ⟨c, fun v' q => ?_⟩
        cases q
        exact ⟨i - ys.length, bs.length, by omega, Nat.le_refl _, .inr rfl, ht, hd, fun q => by omega, fun q => ⟨by omega, rfl⟩⟩
  exact Classical.axiomOfChoice one
variable {w : World} {p : Program} {loose : List PySem.Str} {mean : ExcName → Option Value} {mg mb : PySem.Str → Option Value}
  {dp un : Nat} {gd : Option (List Code)} {cn : PySem.Str} {cs : Scope} {a : Addr} {ccd : Value} {cl : List (PySem.Str × Addr)} {outer : List Env} {base : Heap} {L : Addr}
  {g h' : Heap} {gens : Array GenState} {drawn : Drawn} {tk : Nat} {os : OsState} {L' : Addr} {m : PySem.Str → Option Value} {Q : Flow → Shared → Prop} {E : Value → Shared → Prop}
section
variable {prog : Program} {A : Around} {E : Value → Shared → Prop} {s : Shared}
theorem item_last {value slice : PySem.Expr} {l : Addr} {vs : List Value} {u : Tok} {v : Value} {Q : Value → Shared → Prop} (hl : s.heap.IsList l vs.toArray) (e : vs[vs.length - 1]? = some v) (h : Q v s)
    (hs : subscripted slice false (.ref l) (.int (-1) u) = operate [.ref l, .int (-1) u] (getItem (.ref l) (.int (-1) u)) := by with_unfolding_all rfl) :
    wpAny (model prog w) A (subscriptTail value slice (.ref l) (.int (-1) u)) Q E s := by
  have hn : vs.length - 1 < vs.length := (List.getElem?_eq_some_iff.mp e).1
  have hsz : vs.toArray.size = vs.length := List.size_toArray ..
  refine tail_any hl.typeIs slot_list_getitem.lookup (wpAny_getItem_list_neg hl (by decide) (by rw [hsz]; omega) (by decide) (x := v) ?_ h) hs
  rw [hsz, show (-1 + (vs.length : Int)).toNat = vs.length - 1 by omega]
  simpa using e
end
theorem tup_perm {α : Type} {x a b c : α} {nx : List α} {q : α} (h : q ∈ a :: b :: c :: x :: nx) : q ∈ x :: a :: b :: c :: nx := by
  rcases List.mem_cons.mp h with h | h
  · exact .tail _ (h ▸ .head _)
  rcases List.mem_cons.mp h with h | h
  · exact .tail _ (.tail _ (h ▸ .head _))
  rcases List.mem_cons.mp h with h | h
  · exact .tail _ (.tail _ (.tail _ (h ▸ .head _)))
  rcases List.mem_cons.mp h with h | h
  · exact h ▸ .head _
  · exact .tail _ (.tail _ (.tail _ (.tail _ h)))
theorem tup_perm2 {α : Type} {x a b c d : α} {nx : List α} {q : α} (h : q ∈ a :: b :: c :: d :: x :: nx) : q ∈ x :: a :: b :: c :: d :: nx := by
  rcases List.mem_cons.mp h with h | h
  · exact .tail _ (h ▸ .head _)
  rcases List.mem_cons.mp h with h | h
  · exact .tail _ (.tail _ (h ▸ .head _))
  rcases List.mem_cons.mp h with h | h
  · exact .tail _ (.tail _ (.tail _ (h ▸ .head _)))
  rcases List.mem_cons.mp h with h | h
  · exact .tail _ (.tail _ (.tail _ (.tail _ (h ▸ .head _))))
  rcases List.mem_cons.mp h with h | h
  · exact h ▸ .head _
  · exact .tail _ (.tail _ (.tail _ (.tail _ (.tail _ h))))
theorem off1_mem {D : Addr} : ∀ {l : List (Addr × Obj)}, LCg.Off1 D l → ∀ q ∈ l, q.1 ≠ D
  | [], _, _, hq => by cases hq
  | _ :: _, h, q, hq => by
    rcases List.mem_cons.mp hq with rfl | hq
    · exact h.1
    · exact off1_mem h.2 q hq
theorem leJ_step {as bs : List Int} {f : Nat → Nat × Nat} {kp : List (Addr × Obj)} {i : Nat} {ys : List Value} {nx nx' : List (Addr × Obj)} {v : Value} {c : Int} (h : LeJ as bs f kp i ys nx) (ht : TriIn v c ((f i).1 : Nat) ((f i).2 : Nat) nx') (sub : ∀ q ∈ nx, q ∈ nx')
    (hd : Dist (as.take (f i).1) (bs.take (f i).2) c) : LeJ as bs f kp (i + 1) (ys ++ [v]) nx' := by
  obtain ⟨h1, h2, h3⟩ := h
  refine ⟨by simp [h1], fun q hq => sub q (h2 q hq), fun j u hu => ?_⟩
  by_cases e : j < ys.length
  · rw [List.getElem?_append_left e] at hu
    obtain ⟨c', ⟨a, t, u', r, k, e1, e2⟩, h4⟩ := h3 j u hu
    exact ⟨c', ⟨a, t, u', r, k, e1, sub _ e2⟩, h4⟩
  · have : j = i := by have := (List.getElem?_eq_some_iff.mp hu).1; simp at this; omega
    subst this
    rw [List.getElem?_append_right (by omega)] at hu
    simp [h1] at hu
    subst hu
    exact ⟨c, ht, hd⟩
section
theorem least_end (as bs : List Int) (l1 l2 Tt : Addr) (v1 v2 rs : List Value) (ktt : Nat) (o1 o2 o3 : Obj) (rest : List (Addr × Obj)) (hi1 : IntsAre v1 as) (hi2 : IntsAre v2 bs) (ha : as.length ≤ 100) (hb : bs.length ≤ 100)
   (hdp : dp + 4 < recursionLimit) (hu : un + 40 < cLine) (hk : cs.kind = .function)
   (B : Below (ktrTop dp un gd cn cs L a ccd cl outer) base (envX cn cs L a ccd cl :: outer) g) (F : Fr g L' h' m) (N : News g L' h' ((Tt, W.listOf rs.toArray ktt) :: rest)) (X : (hd.heap_39 w.params).In g) (T : Top p loose mean mg mb g)
   (hl1 : g.IsList l1 v1.toArray) (hl2 : g.IsList l2 v2.toArray)
   (c1 : (L' + 1, o1) ∈ rest) (d1 : o1.data = .cell (some (.ref l1))) (c2 : (L' + 1 + 1, o2) ∈ rest) (d2 : o2.data = .cell (some (.ref l2))) (c3 : (L' + 1 + 1 + 1, o3) ∈ rest) (d3 : o3.data = .cell (some (.ref Tt)))
   (hrl : rs.length = as.length + 1) (hrows : ∀ x v, rs[x]? = some v → RowAt as bs x v rest)
   (hret : Stop (∀ h1 m1 tk1 D c i j nx, Fr g L' h1 m1 → News g L' h1 nx → TriIn (.ref D) c i j nx → LeastSays as bs c i j → Q (.ret (.ref D)) { heap := h1, gens := gens, drawn := drawn, toks := tk1, os := os })) :
   wpAny (model PG w) ((ktrTop dp un gd cn cs L a ccd cl outer).deeper (leEnv L')) (execs ((theBody 13).drop 2) (leEnv L')) Q (leE w dp un gd cn cs a ccd cl outer L L' E) { heap := h', gens := gens, drawn := drawn, toks := tk, os := os } := by
  k_with_none
  k_with "exec Assign cons ListComp" => (refine stop ?_)
  k_with "eval ListComp" => (refine stop ?_)
  k_with "CompSrc" => (refine stop ?_)
  k_with "subscriptTail" => (refine stop ?_)
  k_with "eval Name" => ((with_reducible show wpAny _ _ (eval (Expr.Name (PySem.Str.ofString "table") _) _) _ _ _); refine stop ?_)
  k_with "eval Name" => ((with_reducible show wpAny _ _ (eval (Expr.Name (PySem.Str.ofString "one") _) _) _ _ _); refine stop ?_)
  k_with "eval Name" => ((with_reducible show wpAny _ _ (eval (Expr.Name (PySem.Str.ofString "two") _) _) _ _ _); refine stop ?_)
  k_with "call builtin:min" => (refine stop ?_)
  unfold Stop at hret; unfold leE; delta PG; revert X; k_fill; intro X
  conv in (List.drop _ _) => whnf
  unfold leEnv
  generalize hsc : theScope 13 = sc9
  conv at hsc => lhs; whnf
  subst hsc
  k_steps
  unfold Stop
  refine LCg.Assign_ListComp_U (F₀ := F) (by rfl) (by with_unfolding_all rfl) (by rfl) (by decide) (by rfl) (by decide) (by rfl) (by rfl) (by rfl) ?_
  k_steps
  unfold Stop
  refine nameX_C (by k_asm) (by rfl) (show (L' + 1 + 1, o2) ∈ _ from .tail _ c2) d2 ?_ (by rfl) (by rfl)
  k_steps
  unfold Stop
  rename IsRange _ _ _ _ _ _ _ _ => hR
  rename Fr _ _ _ _ => F9
  rename News _ _ _ _ => N9
  refine LCg.CompSrc.range (n := bs.length + 1) rfl F9 N9 hR (small_one (by decide) (by decide) (by omega) (by omega)) (by rw [rangeSize_nat]; omega) (by rw [PySem.sizeLine_eq]; omega) ?_
  intro g9
  refine comp_vals (LeJ as bs (fun j => (as.length, j)) ((Tt, W.listOf rs.toArray ktt) :: rest)) ⟨rfl, fun q hq => hq, fun j v e => by simp at e⟩ ?_ ?_
  · rintro j v ys nx I oI C oC D m₂ h tk E' hj ⟨t, rfl⟩ ⟨hJ1, hJ2, hJ3⟩ hC hx F1 N1 off ne
    clear hR F9 N9
    k_steps
    unfold Stop
    refine wpAny_Name (wpAny_loadName_cell (by rfl) (by rfl) (by rfl) ⟨o3, (N1 _ (.tail _ (.tail _ (.tail _ (hJ2 _ (.tail _ c3)))))).1, d3⟩ ?_) (by decide)
    k_steps
    unfold Stop
    obtain ⟨r, vr, kr, row, hv, hrm, hri, hrl9, hrd⟩ := hrows as.length _ (List.getElem?_eq_getElem (by omega))
    have hv := (List.getElem?_eq_getElem (by omega)).trans (congrArg some hv)
    have hml : j < row.length := by omega
    have hd := hrd j _ (List.getElem?_eq_getElem hml)
    obtain ⟨td, hvd⟩ := ints_get hri _ _ (List.getElem?_eq_getElem hml)
    generalize row[j] = dv at hd hvd
    refine item_last ⟨_, (N1 (Tt, W.listOf rs.toArray ktt) (.tail _ (.tail _ (.tail _ (hJ2 _ (.head _)))))).1, rfl, _, rfl⟩ (v := .ref r) (by rw [hrl]; exact hv) ?_
    k_steps
    unfold Stop
    refine item_any ⟨_, (N1 (r, W.listOf vr.toArray kr) (.tail _ (.tail _ (.tail _ (hJ2 _ (.tail _ hrm)))))).1, rfl, _, rfl⟩ (by omega) (by omega) (v := .int dv td) (by rw [show ((0 : Int) + (j : Int)).toNat = j by omega]; exact hvd) ?_
    k_steps
    unfold Stop
    refine wpAny_Name (wpAny_loadName_cell (by rfl) (by rfl) (by rfl) ⟨o1, (N1 _ (.tail _ (.tail _ (.tail _ (hJ2 _ (.tail _ c1)))))).1, d1⟩ ?_) (by decide)
    k_steps
    rename News _ _ _ _ => N2
    rename _ ∧ _ ∧ _ ∧ AllLt _ _ => lD
    refine ⟨_, _, _, rfl, by k_asm, fun q hq => N2 q (tup_perm hq), ⟨⟨Nat.ne_of_gt lD.1, Nat.ne_of_gt lD.2.1, Nat.ne_of_gt lD.2.2.1⟩, off⟩, trivial, leJ_step ⟨hJ1, hJ2, hJ3⟩ ⟨_, _, _, _, _, rfl, by rw [show ((0 : Int) + (j : Int)) = (j : Int) by omega]; exact .head _⟩ (fun q hq => .tail _ hq) hd⟩
  · intro ys nx hJ D h tk F1 N1 of1
    clear hR F9 N9
    k_steps
    unfold Stop
    refine LCg.ListComp_U (F₀ := F1) (by rfl) (by decide) (by rfl) (by decide) (by rfl) ?_
    k_steps
    unfold Stop
    refine nameX_C N1 (by rfl) (show (L' + 1, o1) ∈ _ from .tail _ (hJ.2.1 _ (.tail _ c1))) d1 ?_ (by rfl) (by rfl)
    k_steps
    unfold Stop
    rename IsRange _ _ _ _ _ _ _ _ => hR
    rename Fr _ _ _ _ => F9
    rename News _ _ _ _ => N9
    refine LCg.CompSrc.range (n := as.length + 1) rfl F9 N9 hR (small_one (by decide) (by decide) (by omega) (by omega)) (by rw [rangeSize_nat]; omega) (by rw [PySem.sizeLine_eq]; omega) ?_
    intro g8
    refine comp_vals (fun i ys2 nw => ∃ nx2, nw = (D, LCg.lst ys) :: nx2 ∧ (∀ q ∈ nx2, q.1 ≠ D) ∧ LeJ as bs (fun i => (i, bs.length)) nx i ys2 nx2) ⟨nx, rfl, off1_mem of1, rfl, fun q hq => hq, fun j v e => by simp at e⟩ ?_ ?_
    · rintro i v ys2 nw I oI C oC D2 m₂ h tk E' hi ⟨t, rfl⟩ ⟨nx2, rfl, hoD, hJ2⟩ hC hx F3 N3 off ne
      clear hR F9 N9
      have kp : ∀ q ∈ (Tt, W.listOf rs.toArray ktt) :: rest, q ∈ (I, oI) :: (C, oC) :: (D2, LCg.lst ys2) :: (D, LCg.lst ys) :: nx2 := fun q hq => .tail _ (.tail _ (.tail _ (.tail _ (hJ2.2.1 _ (hJ.2.1 _ hq)))))
      k_steps
      unfold Stop
      refine wpAny_Name (wpAny_loadName_cell (by rfl) (by rfl) (by rfl) ⟨o3, (N3 _ (kp _ (.tail _ c3))).1, d3⟩ ?_) (by decide)
      k_steps
      unfold Stop
      obtain ⟨r, vr, kr, row, hv, hrm, hri, hrl9, hrd⟩ := hrows i _ (List.getElem?_eq_getElem (by omega))
      have hv := (List.getElem?_eq_getElem (by omega)).trans (congrArg some hv)
      have hml : bs.length < row.length := by omega
      have hd := hrd bs.length _ (List.getElem?_eq_getElem hml)
      obtain ⟨td, hvd⟩ := ints_get hri _ _ (List.getElem?_eq_getElem hml)
      generalize row[bs.length] = dv at hd hvd
      refine item_any ⟨_, (N3 (Tt, W.listOf rs.toArray ktt) (kp _ (.head _))).1, rfl, _, rfl⟩ (by omega) (by omega) (v := .ref r) (by rw [show ((0 : Int) + (i : Int)).toNat = i by omega]; exact hv) ?_
      k_steps
      unfold Stop
      refine item_last ⟨_, (N3 (r, W.listOf vr.toArray kr) (kp _ (.tail _ hrm))).1, rfl, _, rfl⟩ (v := .int dv td) (by rw [hri.length, hrl9]; exact hvd) ?_
      k_steps
      unfold Stop
      refine wpAny_Name (wpAny_loadName_cell (by rfl) (by rfl) (by rfl) ⟨o2, (N3 _ (kp _ (.tail _ c2))).1, d2⟩ ?_) (by decide)
      k_steps
      rename News _ _ _ _ => N2
      rename _ ∧ _ ∧ _ ∧ _ ∧ AllLt _ _ => lD
      refine ⟨_, _, _, rfl, by k_asm, fun q hq => N2 q (tup_perm2 hq), ⟨off.1, ⟨⟨Nat.ne_of_gt lD.1, Nat.ne_of_gt lD.2.1, Nat.ne_of_gt lD.2.2.1⟩, off.2⟩⟩, trivial, _, rfl, ?_, leJ_step hJ2 ⟨_, _, _, _, _, rfl, by rw [show ((0 : Int) + (i : Int)) = (i : Int) by omega]; exact .head _⟩ (fun q hq => .tail _ hq) hd⟩
      intro q hq
      rcases List.mem_cons.mp hq with rfl | hq
      · exact Nat.ne_of_gt lD.2.2.2.1
      · exact hoD q hq
    · rintro ys2 nw ⟨nx2, rfl, hoD, hJ2⟩ D2 h2 tk2 F3 N3 of2
      clear hR F9 N9
      k_steps
      refine kl_extend F3 N3 (.head _) rfl (by rw [List.toList_toArray, hJ2.1]; omega) (.tail (Ne.symm of2.1) (.head hoD)) (by simp [Builtin.List.listTooLong, hJ.1, hJ2.1, PySem.sizeLine_eq]; omega) (by rw [List.toList_toArray, hJ.1, PySem.sizeLine_eq]; omega) (by rw [List.size_toArray, List.size_toArray, hJ.1, hJ2.1, PySem.sizeLine_eq]; omega) ?_
      intro h3 F4 N4
      k_steps
      unfold Stop
      rw [List.toList_toArray, List.toList_toArray] at N4
      obtain ⟨kf, hkf⟩ := least_kf hJ hJ2
      have hlen : (ys ++ ys2).length = (bs.length + 1) + (as.length + 1) := by rw [List.length_append, hJ.1, hJ2.1]
      refine min_tris (vs := ys ++ ys2) kf rfl (by ktr_units) F4 N4 (fun h5 _ N5 => ⟨_, (N5 _ (.tail _ (.head _))).1, rfl, _, rfl⟩) (fun i v hv => ?_) (by rw [hlen]; omega) ?_
      · obtain ⟨x, y, _, _, _, ⟨a9, t9, u9, r9, k9, e1, e2⟩, _⟩ := hkf i v hv
        exact ⟨_, _, fun h5 N5 => ⟨a9, t9, u9, r9, k9, e1, (N5 _ (.tail _ (.tail _ e2))).1⟩⟩
      · intro i v h5 tk5 hv hmin F5 N5
        obtain ⟨x, y, hx, hy, hxy, ht, hd, hs1, hs2⟩ := hkf i v hv
        have ht' := ht
        obtain ⟨a9, t9, u9, r9, k9, rfl, e2⟩ := ht'
        refine hret _ _ _ _ _ _ _ _ F5 N5 (ht.mono fun q hq => .tail _ (.tail _ hq)) ⟨x, y, rfl, rfl, hx, hy, hxy, hd, fun y' d hy' hd' => ?_, fun x' d hx' hd' => ?_⟩
        · obtain ⟨v', hv'⟩ : ∃ v', (ys ++ ys2)[y']? = some v' := ⟨_, List.getElem?_eq_getElem (by omega)⟩
          obtain ⟨x9, y9, _, _, _, _, hd9, h9, _⟩ := hkf y' v' hv'
          obtain ⟨rfl, rfl⟩ := h9 (by omega)
          rw [List.take_length] at hd9
          rw [← hd9.uniq hd']
          exact hmin _ (by omega)
        · obtain ⟨v', hv'⟩ : ∃ v', (ys ++ ys2)[bs.length + 1 + x']? = some v' := ⟨_, List.getElem?_eq_getElem (by omega)⟩
          obtain ⟨x9, y9, _, _, _, _, hd9, _, h9⟩ := hkf _ v' hv'
          obtain ⟨hx9, rfl⟩ := h9 (by omega)
          rw [List.take_length, show x9 = x' by omega] at hd9
          rw [← hd9.uniq hd']
          exact hmin _ (by omega)
end
end
section
variable {w : World} {p : Program} {loose : List PySem.Str} {mean : ExcName → Option Value} {mg mb : PySem.Str → Option Value}
section
local macro_rules | `(tactic| walk_at "c_holes") => `(tactic| (k_dflt (refine' codeCR (news := []) ?k1 ?k2 ?k3 ?k4 ?k5 ?kA ?kF ?kK ?k6 ?k7 ?k8 ?k9 ?kB ?kD ?_ ?c2 ?c3 ?c4; (case kA => exact rfl); (case kF => exact rfl); (case kK => assumption); (case k1 => k_asm); (case k2 => k_asm); (case k3 => exact News.nil); (case k4 => k_asm); (case k5 => k_asm); (case k6 => k_is); (case k7 => k_is); (case k8 => ktr_room); (case k9 => exact BindsTo.of_eq rfl); (case kB => exact rfl); (case kD => decide +kernel); (case c2 => exact rfl); (case c3 => exact rfl); (case c4 => exact rfl); k_whole)))
theorem c_least (l1 l2 : Addr) (v1 v2 : List Value) (as bs : List Int) (hi1 : IntsAre v1 as) (hi2 : IntsAre v2 bs) (ha : as.length ≤ 30) (hb : bs.length ≤ 30) :
   RC 5 w p loose mean mg mb 54 [.ref l1, .ref l2] (fun g => g.IsList l1 v1.toArray ∧ g.IsList l2 v2.toArray)
     (fun g h r => ∃ D c i j t u v k, r = .ref D ∧ g.get? D = none ∧ h.get? D = some { cls := .type "tuple", data := .seq #[.int c t, .int i u, .int j v] k } ∧ LeastSays as bs c i j) := by
  k_with_none
  k_with "r_start" => (unfold RC; delta PG; k_fill; intro _ _ _ _ _ _ _ _ _ _ _ _ _ _ _ _ _ _ _ _ _ _ _ _ _ _ _ _ _ _)
  k_with "pyIter ref" => (refine stop ?_)
  k_with "exec Assign" => ((with_reducible show wpAny _ _ (exec (Stmt.Assign [Expr.Name (PySem.Str.ofString "whole") _] _ _) _) _ _ _); refine stop ?_)
  k_with "newList" => (refine stop ?_)
  walk_at "r_start"; rename_i dp un gd cn cs a ccd cl outer A₀ base h₀ L m g gens drawn tk os Q E B F X T hk hd hu hpre hret
  refine wpAny_call ?_
  walk_at "c_holes"
  intro G L' h' tk' cells hG F' N' Y' B' X' T' la lb st
  k_cells Y'
  rename_i o1 o2 o3 d1 d2 d3
  simp only [List.cons_append, List.nil_append] at N'
  dsimp only
  try k_fold
  obtain ⟨hl1, hl2⟩ := hpre
  have hl1 := hl1.at fun o e => hG _ o (by simp) e
  have hl2 := hl2.at fun o e => hG _ o (by simp) e
  k_steps
  unfold Stop
  refine newList_K (vs := []) (by k_asm) (by k_asm) ?_ (by exact Nat.zero_le _)
  intro Tt h9 F9 N9 lT
  k_lt lT
  k_steps
  unfold Stop
  rename IsRange _ _ _ _ _ _ _ _ => hR
  rename Fr _ _ _ _ => F9
  rename News _ _ _ _ => N9
  rename _ = Data.cell (some (Value.ref _)) => d4
  rename Obj => o4
  have d3 : o3.data = .cell (some (.ref l1)) := d3
  have d2 : o2.data = .cell (some (.ref l2)) := d2
  refine tbr_invG (n := as.length + 1) (fun i m nx => ∃ rs ktt rest, nx = (Tt, W.listOf (List.toArray rs) ktt) :: rest ∧ (∀ q ∈ rest, q.1 ≠ Tt) ∧ rs.length = i ∧ (∀ x v, rs[x]? = some v → RowAt as bs x v rest) ∧ (L' + 1, o3) ∈ rest ∧ (L' + 1 + 1, o2) ∈ rest ∧ (L' + 1 + 1 + 1, o4) ∈ rest)
    rfl hR (small_one (by decide) (by decide) (by omega) (by omega)) (by rw [rangeSize_nat]; omega) F9 N9 ⟨[], 0, _, rfl, ?_, rfl, fun x v e => by simp at e, .tail _ (.tail _ (.head _)), .tail _ (.head _), .head _⟩ ?_ ?_
  · intro q hq
    rcases List.mem_cons.mp hq with rfl | hq
    · exact Nat.ne_of_lt lT.1
    · rcases List.mem_cons.mp hq with rfl | hq
      · exact Nat.ne_of_lt lT.2.1
      · rw [List.mem_singleton.mp hq]; exact Nat.ne_of_lt lT.2.2
  · clear hR F9 N9 hret
    rintro i k t m₁ nx h tk own hk' hoff ⟨rs, ktt, rest, rfl, hTr, hrl, hrows, x1, x2, x3⟩ F1 N1
    obtain ⟨rfl, hj⟩ := range_val hk'
    refine least_row as bs l1 l2 Tt v1 v2 rs ktt o3 o2 o4 (rest ++ own) i t hi1 hi2 (by omega) (by omega) (by omega) (by omega) (by omega) hk B' F1 N1 X' T' hl1 hl2 (List.mem_append_left _ x1) d3 (List.mem_append_left _ x2) d2 (List.mem_append_left _ x3) d4 ?_ hrl ?_ (if_pos rfl) ?_
    · intro q hq
      rcases List.mem_append.mp hq with hq | hq
      · exact hTr _ hq
      · exact hoff _ hq _ (.head _)
    · intro x v hv
      obtain ⟨r, vr, kr, rw9, e1, e2, e3⟩ := hrows x v hv
      exact ⟨r, vr, kr, rw9, e1, List.mem_append_left _ e2, e3⟩
    · intro h1 m1 tk1 kc1 ktt1 R vr row F' N' offR offT hri hrl9 hrd
      refine ⟨h1, tk1, m1, _, (Tt, W.listOf (List.toArray (rs ++ [Value.ref R])) ktt1) :: (R, W.listOf (List.toArray vr) kc1) :: rest, rfl, F', N', ?_, ?_, ?_, rs ++ [Value.ref R], ktt1, _, rfl, ?_, by simp [hrl], ?_, .tail _ x1, .tail _ x2, .tail _ x3⟩
      · intro q hq
        rcases List.mem_cons.mp hq with rfl | hq
        · exact .tail _ (.head _)
        · rcases List.mem_cons.mp hq with rfl | hq
          · exact .head _
          · exact .tail _ (.tail _ (List.mem_append_left _ hq))
      · intro q hq
        exact .tail _ (.tail _ (List.mem_append_right _ hq))
      · intro p hp q hq
        rcases List.mem_cons.mp hq with rfl | hq
        · exact hoff p hp (Tt, W.listOf (List.toArray rs) ktt) (.head _)
        · rcases List.mem_cons.mp hq with rfl | hq
          · exact offR p (List.mem_append_right _ hp)
          · exact hoff p hp _ (.tail _ hq)
      · intro q hq
        rcases List.mem_cons.mp hq with rfl | hq
        · exact Ne.symm offT
        · exact hTr q hq
      · intro x v hv
        by_cases hx : x < rs.length
        · rw [List.getElem?_append_left hx] at hv
          obtain ⟨r, vr, kr, rw9, e1, e2, e3⟩ := hrows x v hv
          exact ⟨r, vr, kr, rw9, e1, .tail _ e2, e3⟩
        · have : x = i := by have := (List.getElem?_eq_some_iff.mp hv).1; simp at this; omega
          subst this
          rw [List.getElem?_append_right (by omega)] at hv
          simp [hrl] at hv
          exact ⟨R, vr, kc1, row, hv.symm, .head _, hri, hrl9, hrd⟩
  · clear hR F9 N9
    rintro m₁ nx h tk ⟨rs, ktt, rest, rfl, hTr, hrl, hrows, x1, x2, x3⟩ F1 N1
    refine least_end as bs l1 l2 Tt v1 v2 rs ktt o3 o2 o4 rest hi1 hi2 (by omega) (by omega) (by omega) (by omega) hk B' F1 N1 X' T' hl1 hl2 x1 d3 x2 d2 x3 d4 hrl hrows ?_
    intro h1 m1 tk1 D c i j nx F2 N2 ht hs
    obtain ⟨D, t9, u9, r9, k9, e1, e2⟩ := ht
    cases e1
    refine leaveK_ F2 N2 ?_
    intro kF kN
    refine hret _ _ _ kF (fun b o e => F2.keep _ _ (hG b o (by simp) e)) ⟨_, c, i, j, t9, u9, r9, k9, rfl, ?_, (N2 _ e2).1, hs⟩
    cases q : g.get? D with
    | none => rfl
    | some o => have := hG _ o (by simp) q; rw [(N2 _ e2).2.2] at this; cases this
end
end
section
section
variable {prog : Program} {w : World} {A : Around} {E : Value → Shared → Prop} {s : Shared} {h₀ : Heap} {L l : Addr} {m : PySem.Str → Option Value} {news : List (Addr × Obj)} {value slice : PySem.Expr} {vs : List Value} {ns : List Int} {vl vu vk : Value} {lo hi st : Option Int} {ops : List Value} {Q : Value → Shared → Prop}
theorem slice3_ints (F : Fr h₀ L s.heap m) (N : News h₀ L s.heap news) (hl : s.heap.IsList l vs.toArray) (pl : IsPart vl lo) (pu : IsPart vu hi) (pk : IsPart vk st) (h0 : st ≠ some 0) (hi' : IntsAre vs ns)
    (h : ∀ D ws h', Fr h₀ L h' m → News h₀ L h' ((D, W.listOf (List.toArray ws) 0) :: news) → (∀ p ∈ news, p.1 < D) → IntsAre ws (pickNums ns lo hi st) → (pickNums ns lo hi st).length ≤ ns.length → Q (.ref D) { s with heap := h' })
    (hs : subscripted slice false (.ref l) (.ref s.heap.objs.size) = operate ops (getItem (.ref l) (.ref s.heap.objs.size))) (ht : ∀ r, letTemporaryGo value (.ref l) r = pure ()) (hz : vs.toArray.size ≤ sizeLine) :
    wpAny (model prog w) A (subscriptTail value slice (.ref l) (.ref s.heap.objs.size)) Q E { s with heap := s.heap.push { cls := .type "slice", data := .fields #[vl, vu, vk] } } := by
  refine slice_list3 F N hl pl pu pk h0 (fun h' F' N' => h _ (slicePick vs.toArray lo hi st).toList h' F' ?_ (fun p hp => Nat.lt_succ_of_lt (Heap.lt_size (N p hp).1)) (hi'.pick lo hi st) (length_pickNums_le hi' lo hi st)) hs ht hz
  rw [Array.toArray_toList]
  exact N'
end
section
variable {prog : Program} {w : World} {A : Around} {E : Value → Shared → Prop} {s : Shared}
theorem tail_opsR {value slice : PySem.Expr} {o i : Value} {T id : String} {ops : List Value} {Q : Value → Shared → Prop} (hT : s.TypeIs o T)
    (hl : typeLookup (.type T) "__getitem__" = pure (some (.builtin id))) (h : wpAny (model prog w) A (getItem o i) Q E s)
    (hs : subscripted slice false o i = operate ops (getItem o i)) :
    wpAny (model prog w) A (subscriptTail value slice o i) Q E s := by
  unfold subscriptTail
  refine wpAny_bind ?_
  rw [getitemInPython_of_ne hT.not_modules]
  refine wpAny_bind (wpAny_specialOf hT hl ?_)
  have fin : wpAny (model prog w) A (subscripted slice false o i) (fun r s₃ => wpAny (model prog w) A (letTemporaryGo value o r >>= fun _ => pure r) Q E s₃) E s := by
    rw [hs]
    exact wpAny_operating (wpAny_mono h (fun r s₃ h₃ => wpAny_bind (wpAny_letTemporaryGo (wpAny_pure h₃))) fun _ _ x => x)
  first
    | exact wpAny_pure (wpAny_bind fin)
    | exact wpAny_bind (wpAny_pure (wpAny_bind fin))
    | exact wpAny_bind fin
variable {h₀ : Heap} {L l : Addr} {m : PySem.Str → Option Value} {news : List (Addr × Obj)} {value slice : PySem.Expr} {vs : List Value} {ms : List Int} {vl vu vk : Value} {lo hi st : Option Int} {ops : List Value} {Q : Value → Shared → Prop}
theorem sliceR (F : Fr h₀ L s.heap m) (N : News h₀ L s.heap news) (hl : s.heap.IsList l vs.toArray) (pl : IsPart vl lo) (pu : IsPart vu hi) (pk : IsPart vk st) (h0 : st ≠ some 0) (hm : IntsAre (slicePick vs.toArray lo hi st).toList ms) (hz : vs.length ≤ 1000)
    (h : ∀ D ws h', Fr h₀ L h' m → News h₀ L h' ((D, W.listOf (List.toArray ws) 0) :: news) → (∀ p ∈ news, p.1 < D) → IntsAre ws ms → Q (.ref D) { s with heap := h' })
    (hs : subscripted slice false (.ref l) (.ref s.heap.objs.size) = operate ops (getItem (.ref l) (.ref s.heap.objs.size)) := by with_unfolding_all rfl) :
    wpAny (model prog w) A (subscriptTail value slice (.ref l) (.ref s.heap.objs.size)) Q E { s with heap := s.heap.push { cls := .type "slice", data := .fields #[vl, vu, vk] } } := by
  refine tail_opsR (Heap.IsList.typeIs (s := { s with heap := s.heap.push { cls := .type "slice", data := .fields #[vl, vu, vk] } }) (hl.push _)) list_getitem_lookup
    (wpAny_getItem_list_slice (hl.push _) (Heap.IsSliceOf.new ..) pl pu pk h0 ?_ (by rw [List.size_toArray, PySem.sizeLine_eq]; omega)) hs
  have N1 := News.push (F.push { cls := .type "slice", data := .fields #[vl, vu, vk] }) (N.grown fun _ _ e => Heap.get?_push_of_some _ e) { cls := .type "list", data := .seq (slicePick vs.toArray lo hi st) }
  rw [Heap.size_push] at N1
  show Q (.ref (s.heap.push _).objs.size) _
  rw [Heap.size_push]
  refine h _ (slicePick vs.toArray lo hi st).toList _ ((F.push _).push _) ?_ (fun p hp => Nat.lt_succ_of_lt (Heap.lt_size (N p hp).1)) hm
  rw [Array.toArray_toList]
  exact N1
theorem rev_pick {vs : List Value} {ns : List Int} (hi : IntsAre vs ns) : IntsAre (slicePick vs.toArray none none (some (-1))).toList ns.reverse := by
  rw [krv_pick]
  exact IntsAre.reverse hi
end
end
section
abbrev lawEnv (L fa : Addr) (cd : Value) : Env := envOfC (PySem.Str.ofString "law") (theScope 16) L fa cd
abbrev lawE (w : World) (L fa : Addr) (cd : Value) (E : Value → Shared → Prop) (e : Value) (s' : Shared) : Prop :=
  wpAny (model PG w) (callerA.deeper (lawEnv L fa cd)) (leaving (lawEnv L fa cd) e) (fun _ s'' => E e s'') (fun e' s'' => E e' s'') s'
def seed16 : List Int := [0, 2, 5, 0, 3, 4, 4, 1, 2, 5, 0, 2, 3, 0, 1, 4]
theorem sg_fmod (f : Int → Int) (l : List Int) : Sg (l.map fun k => (f k).fmod 6) := by
  intro n hn
  obtain ⟨k, _, rfl⟩ := List.mem_map.mp hn
  exact ⟨Int.fmod_nonneg_of_pos _ (by decide), Int.fmod_lt_of_pos _ (by decide)⟩
theorem drawn_facts {f : Int → Int} {l : List Int} {vd : List Value} (hD : IntsAre vd (l.map fun k => (f k).fmod 6)) (hl : l.length = 16) :
    ∃ dr, IntsAre vd dr ∧ dr.length = 16 ∧ Sg dr := ⟨_, hD, by rw [List.length_map]; exact hl, sg_fmod f l⟩
theorem news_sub {h₀ h : Heap} {L : Addr} {l1 l2 : List (Addr × Obj)} (N : News h₀ L h l1) (s : l2.Sublist l1) : News h₀ L h l2 := fun q hq => N q (s.subset hq)
variable {w : World} {p : Program} {loose : List PySem.Str} {mean : ExcName → Option Value} {mg mb : PySem.Str → Option Value}
  {g h' : Heap} {gens : Array GenState} {drawn : Drawn} {tk : Nat} {os : OsState} {L : Addr} {m : PySem.Str → Option Value} {Q : Flow → Shared → Prop} {E : Value → Shared → Prop} {fa : Addr} {cd : Value}
section
local macro_rules | `(tactic| walk_at "subscriptTail Name Slice ref ref") => `(tactic| (k_here; (with_reducible show wpAny _ _ (subscriptTail _ (PySem.Expr.Slice _ _ (some _) _) (Value.ref _) (Value.ref _)) _ _ _); k_dflt (refine' slice3_ints ?F ?N ?l ?p ?q ?k ?o ?i ?_ ?s ?t ?z; (case F => k_asm); (case N => k_asm); (case l => kmk_list); (case p => kmk_part); (case q => kmk_part); (case k => kmk_part); (case o => decide); (case i => l_ints); (case s => with_unfolding_all rfl); (case t => kmk_pure); (case z => kmk_size)); intro D' ws' h' F' N' l1 hI' hC'; clear hC'; (try k_lt l1); (try k_sweep)))
local macro_rules | `(tactic| walk_at "pad 5") => `(tactic| skip)
theorem law_1 (sl l0 : Addr) (vs v0 : List Value) (ns : List Int) (o1 o2 o3 o4 : Obj) (hi : IntsAre vs ns) (hn : ns.length ≤ 63) (hl : g.IsList sl vs.toArray) (hi0 : IntsAre v0 seed16)
   (B : Below callerA base [] g) (F : Fr g L h' m) (X : (hd.heap_39 w.params).In g) (T : Top p loose mean mg mb g)
   (N : News g L h' [(l0, W.listOf v0.toArray 0), (L + 1 + 1 + 1 + 1, o4), (L + 1 + 1 + 1, o3), (L + 1 + 1, o2), (L + 1, o1), (61, tabObj #[])])
   (d1 : o1.data = .cell (some (.ref sl))) (d2 : o2.data = .cell (some (.ref l0))) (h61 : @LT.lt Nat _ 61 L) (hl0 : @LT.lt Nat _ (L + 1 + 1 + 1 + 1) l0) (d3 : o3.data = .cell none) (d4 : o4.data = .cell none)
   (hret : Stop (∀ h1 tk1 Dr vd c2 dr, Fr g L h1 m → News g L h1 [(Dr, LCg.lst vd), (L + 1 + 1 + 1 + 1, o4), (L + 1 + 1 + 1, o3), (L + 1 + 1, c2), (L + 1, o1), (61, tabObj #[])] →
      c2.data = .cell (some (.ref Dr)) → IntsAre vd dr → dr.length = 16 → Sg dr → @Ne Nat (L + 1 + 1 + 1 + 1) Dr → @Ne Nat (L + 1 + 1 + 1) Dr →
      wpAny (model PG w) (callerA.deeper (lawEnv L fa cd)) (execs ((theBody 16).drop 2) (lawEnv L fa cd)) Q (lawE w L fa cd E) { heap := h1, gens := gens, drawn := drawn, toks := tk1, os := os })) :
   wpAny (model PG w) (callerA.deeper (lawEnv L fa cd)) (execs ((theBody 16).drop 1) (lawEnv L fa cd)) Q (lawE w L fa cd E) { heap := h', gens := gens, drawn := drawn, toks := tk, os := os } := by
  k_with_none
  k_with "execs cons" => ((with_reducible show wpAny _ _ (execs (Stmt.Assign [Expr.Name (PySem.Str.ofString "full") _] _ _ :: _) _) _ _ _); refine stop ?_)
  unfold lawE; delta PG; revert X; k_fill; intro X
  conv in (List.drop 1 _) => whnf
  unfold lawEnv
  generalize hsc : theScope 16 = sc9
  conv at hsc => lhs; whnf
  subst hsc
  unfold seed16 at hi0
  k_steps
  unfold Stop
  rename News _ _ _ _ => N9
  with_reducible rename IntsAre _ (List.map _ _) => hD9
  rename Fr _ _ _ _ => F9
  unfold Stop at hret
  obtain ⟨dr9, hD9, hls, hS9⟩ := drawn_facts hD9 (by rw [rangeKs_length]; rfl)
  with_reducible rename _ ≠ _ ∧ _ ≠ _ ∧ _ ≠ _ ∧ _ => o9
  have h9 := o9.2.1
  have h8 := o9.2.2.1
  clear o9
  refine hret _ _ _ _ _ dr9 F9 (news_sub N9 (.cons_cons _ (.cons _ (List.Sublist.refl _)))) (by k_asm) hD9 hls hS9 h9 h8
end
end
section
section
variable {prog : Program} {w : World} {A : Around} {E : Value → Shared → Prop} {s : Shared}
theorem item_lit {value slice : PySem.Expr} {l : Addr} {vs : List Value} {ns : List Int} {i : Int} {u : Tok} {Q : Value → Shared → Prop} (P : Int → Prop) (hl : s.heap.IsList l vs.toArray) (hi : IntsAre vs ns) (h0 : 0 ≤ i) (hlt : i < (ns.length : Int)) (hfit : ns.length ≤ 100)
    (hP : ∀ n ∈ ns, P n) (h : ∀ n t, P n → Q (.int n t) s)
    (hs : subscripted slice false (.ref l) (.int i u) = operate [.ref l, .int i u] (getItem (.ref l) (.int i u)) := by with_unfolding_all rfl) :
    wpAny (model prog w) A (subscriptTail value slice (.ref l) (.int i u)) Q E s := by
  have hi' : i.toNat < ns.length := by omega
  obtain ⟨t, ht⟩ := ints_get hi i.toNat _ (List.getElem?_eq_getElem hi')
  exact item_any hl h0 (by omega) ht (h _ t (hP _ (List.getElem_mem hi'))) hs
end
theorem max_if (x : Int) : (if x - 3 > 0 then x - 3 else 0) = max 0 (x - 3) := by split <;> omega
variable {w : World} {p : Program} {loose : List PySem.Str} {mean : ExcName → Option Value} {mg mb : PySem.Str → Option Value}
  {g h' : Heap} {gens : Array GenState} {drawn : Drawn} {tk : Nat} {os : OsState} {L : Addr} {m : PySem.Str → Option Value} {Q : Flow → Shared → Prop} {E : Value → Shared → Prop} {fa : Addr} {cd : Value}
section
theorem law_2 (sl Dr : Addr) (vs vd : List Value) (ns dr : List Int) (o1 o2 o3 o4 : Obj) (hi : IntsAre vs ns) (hn : ns.length ≤ 63) (hl : g.IsList sl vs.toArray)
   (B0 : Below callerA base [] g) (F : Fr g L h' m) (X : (hd.heap_39 w.params).In g) (T : Top p loose mean mg mb g)
   (N : News g L h' [(Dr, LCg.lst vd), (L + 1 + 1 + 1 + 1, o4), (L + 1 + 1 + 1, o3), (L + 1 + 1, o2), (L + 1, o1), (61, tabObj #[])])
   (d1 : o1.data = .cell (some (.ref sl))) (d2 : o2.data = .cell (some (.ref Dr))) (d3 : o3.data = .cell none) (d4 : o4.data = .cell none) (h61 : @LT.lt Nat _ 61 L)
   (q1 : @Ne Nat (L + 1 + 1 + 1 + 1) Dr) (q2 : @Ne Nat (L + 1 + 1 + 1) Dr) (hD : IntsAre vd dr) (hdr : dr.length = 16)
   (hret : Stop (∀ h1 tk1 Fl A B W' K' x y x' y' tx ty va vb vk c3 c4 t1 t2, Fr g L h1 (fun z => if z = PySem.Str.ofString "width" then some (.ref W') else m z) → News g L h1 [(K', LCg.lst vk), (W', W.listOf #[.int x tx, .int y ty] 0), (Fl, W.listOf #[.ref A, .ref B] 0), (B, W.listOf (List.toArray vb) 0), (A, W.listOf (List.toArray va) 0), (Dr, LCg.lst vd), (L + 1 + 1 + 1 + 1, c4), (L + 1 + 1 + 1, c3), (L + 1 + 1, o2), (L + 1, o1), (61, tabObj #[])] →
      c3.data = .cell (some (.ref Fl)) → c4.data = .cell (some (.ref K')) → IntsAre va (dr.take 8) → IntsAre vb (dr.drop 8) → vk = [Value.int x' t1, Value.int y' t2] → 2 ≤ x → x ≤ 7 → 2 ≤ y → y ≤ 7 → x' = max 0 (x - 3) → y' = max 0 (y - 3) →
      wpAny (model PG w) (callerA.deeper (lawEnv L fa cd)) (execs ((theBody 16).drop 5) (lawEnv L fa cd)) Q (lawE w L fa cd E) { heap := h1, gens := gens, drawn := drawn, toks := tk1, os := os })) :
   wpAny (model PG w) (callerA.deeper (lawEnv L fa cd)) (execs ((theBody 16).drop 2) (lawEnv L fa cd)) Q (lawE w L fa cd E) { heap := h', gens := gens, drawn := drawn, toks := tk, os := os } := by
  k_with_none
  k_with "subscriptTail" => ((with_reducible show wpAny _ _ (subscriptTail (Expr.List _ _) _ _ _) _ _ _); refine stop ?_)
  k_with "execs cons" => ((with_reducible show wpAny _ _ (execs (Stmt.Assign [Expr.Name (PySem.Str.ofString "head") _] _ _ :: _) _) _ _ _); refine stop ?_)
  unfold lawE; delta PG; revert X; k_fill; intro X
  conv in (List.drop 2 _) => whnf
  unfold lawEnv
  generalize hsc : theScope 16 = sc9
  conv at hsc => lhs; whnf
  subst hsc
  k_steps
  unfold Stop
  have m1 := Int.fmod_nonneg_of_pos ns.sum (show (0 : Int) < 7 by decide)
  have m2 := Int.fmod_lt_of_pos ns.sum (show (0 : Int) < 7 by decide)
  refine item_lit (ns := [7, 6, 5, 7, 4, 6, 2]) (fun n => 2 ≤ n ∧ n ≤ 7) (by is_list) (by l_ints) m1 m2 (by decide) (by decide) ?_
  rintro x tx ⟨x2, x7⟩
  k_steps
  unfold Stop
  have m3 := Int.fmod_nonneg_of_pos (ns.sum.fdiv 7) (show (0 : Int) < 7 by decide)
  have m4 := Int.fmod_lt_of_pos (ns.sum.fdiv 7) (show (0 : Int) < 7 by decide)
  refine item_lit (ns := [6, 7, 5, 4, 7, 6, 3]) (fun n => 2 ≤ n ∧ n ≤ 7) (by is_list) (by l_ints) m3 m4 (by decide) (by decide) ?_
  rintro y ty ⟨y2, y7⟩
  k_steps
  unfold Stop
  rename Fr _ _ _ _ => F9
  rename News _ _ _ _ => N9
  with_reducible rename IntsAre _ (List.map _ _) => hK9
  obtain ⟨t1, vs1, rfl, hK8⟩ := IntsAre.cons_inv hK9
  obtain ⟨t2, vs2, rfl, hK7⟩ := IntsAre.cons_inv hK8
  obtain rfl := IntsAre.nil_inv hK7
  unfold Stop at hret
  with_reducible rename IntsAre _ (List.take _ _) => hA9
  with_reducible rename IntsAre _ (List.drop _ _) => hB9
  refine hret _ _ _ _ _ _ _ x y _ _ tx ty _ _ _ _ _ t1 t2 F9 (news_sub N9 (.cons_cons _ (.cons_cons _ (.cons _ (.cons _ (List.Sublist.refl _)))))) (by k_asm) (by k_asm) hA9 hB9 rfl x2 x7 y2 y7 (max_if x) (max_if y)
end
end
section
local macro_rules | `(tactic| k_mem) => `(tactic| with_reducible assumption)
section
def fullOf (dr : List Int) (j : Nat) : List Int := if j = 0 then dr.take 8 else dr.drop 8
def headOf (dr : List Int) (kp : Nat → Nat) (j : Nat) : List Int := (fullOf dr j).take (kp j / 2)
def tailOf (dr : List Int) (kp : Nat → Nat) (j : Nat) : List Int := (fullOf dr j).reverse.take (kp j - kp j / 2)
def Two (f : Nat → List Int) (kb : List (Addr × Obj)) (i : Nat) (ys : List Value) (nx : List (Addr × Obj)) : Prop :=
  ys.length = i ∧ (∀ q ∈ kb, q ∈ nx) ∧ ∀ j v, ys[j]? = some v → ∃ a va, v = .ref a ∧ (a, W.listOf (List.toArray va) 0) ∈ nx ∧ IntsAre va (f j)
theorem Two.step {f : Nat → List Int} {kb nx nx' : List (Addr × Obj)} {i : Nat} {ys : List Value} {a : Addr} {va : List Value} (h : Two f kb i ys nx) (sub : ∀ q ∈ nx, q ∈ nx') (hm : (a, W.listOf (List.toArray va) 0) ∈ nx') (hi : IntsAre va (f i)) : Two f kb (i + 1) (ys ++ [.ref a]) nx' := by
  obtain ⟨h1, h2, h3⟩ := h
  refine ⟨by simp [h1], fun q hq => sub q (h2 q hq), fun j u hu => ?_⟩
  by_cases e : j < ys.length
  · rw [List.getElem?_append_left e] at hu
    obtain ⟨b, vb, e1, e2, e3⟩ := h3 j u hu
    exact ⟨b, vb, e1, sub _ e2, e3⟩
  · have : j = i := by have := (List.getElem?_eq_some_iff.mp hu).1; simp at this; omega
    subst this
    rw [List.getElem?_append_right (by omega)] at hu
    simp [h1] at hu
    subst hu
    exact ⟨a, va, rfl, hm, hi⟩
theorem Two.two {f : Nat → List Int} {kb nx : List (Addr × Obj)} {ys : List Value} (h : Two f kb 2 ys nx) : ∃ a0 a1 v0 v1, ys = [.ref a0, .ref a1] ∧ (a0, W.listOf (List.toArray v0) 0) ∈ nx ∧ (a1, W.listOf (List.toArray v1) 0) ∈ nx ∧ IntsAre v0 (f 0) ∧ IntsAre v1 (f 1) := by
  obtain ⟨h1, h2, h3⟩ := h
  match ys, h1 with
  | [x, y], _ =>
    obtain ⟨a0, v0, rfl, e1, e2⟩ := h3 0 x rfl
    obtain ⟨a1, v1, rfl, e3, e4⟩ := h3 1 y rfl
    exact ⟨a0, a1, v0, v1, rfl, e1, e3, e2, e4⟩
theorem full_at {A B : Addr} {va vb : List Value} {dr : List Int} {nx : List (Addr × Obj)} (nA : (A, W.listOf (List.toArray va) 0) ∈ nx) (nB : (B, W.listOf (List.toArray vb) 0) ∈ nx) (hA : IntsAre va (dr.take 8)) (hB : IntsAre vb (dr.drop 8)) {j : Nat} (hj : j < 2) :
    ∃ X vX, [Value.ref A, Value.ref B][(0 + (j : Int)).toNat]? = some (.ref X) ∧ (X, W.listOf (List.toArray vX) 0) ∈ nx ∧ IntsAre vX (fullOf dr j) := by
  have h : j = 0 ∨ j = 1 := by omega
  rcases h with rfl | rfl
  · exact ⟨A, va, rfl, nA, hA⟩
  · exact ⟨B, vb, rfl, nB, hB⟩
theorem kept_at {kp : Nat → Nat} {t1 t2 : Tok} {j : Nat} (hj : j < 2) : ∃ t, [Value.int (kp 0) t1, Value.int (kp 1) t2][(0 + (j : Int)).toNat]? = some (.int (kp j) t) := by
  have h : j = 0 ∨ j = 1 := by omega
  rcases h with rfl | rfl
  · exact ⟨_, rfl⟩
  · exact ⟨_, rfl⟩
theorem full_len {dr : List Int} (h : dr.length = 16) (j : Nat) : (fullOf dr j).length = 8 := by unfold fullOf; split <;> simp [h]
theorem half_is (k : Nat) : 0 ≤ ((k : Int)).fdiv 2 ∧ (((k : Int)).fdiv 2).toNat = k / 2 := by
  rw [Int.fdiv_eq_ediv_of_nonneg _ (by decide)]
  omega
variable {w : World} {p : Program} {loose : List PySem.Str} {mean : ExcName → Option Value} {mg mb : PySem.Str → Option Value}
  {g h' : Heap} {gens : Array GenState} {drawn : Drawn} {tk : Nat} {os : OsState} {L : Addr} {m : PySem.Str → Option Value} {Q : Flow → Shared → Prop} {E : Value → Shared → Prop} {fa : Addr} {cd : Value}
section
theorem law_3 (Fl A B K' : Addr) (va vb : List Value) (dr : List Int) (kp : Nat → Nat) (t1 t2 : Tok) (o3 o4 : Obj) (nx : List (Addr × Obj))
   (B0 : Below callerA base [] g) (F : Fr g L h' m) (X : (hd.heap_39 w.params).In g) (T : Top p loose mean mg mb g)
   (N : News g L h' nx) (n3 : (L + 1 + 1 + 1, o3) ∈ nx) (n4 : (L + 1 + 1 + 1 + 1, o4) ∈ nx) (d3 : o3.data = .cell (some (.ref Fl))) (d4 : o4.data = .cell (some (.ref K')))
   (nF : (Fl, W.listOf #[.ref A, .ref B] 0) ∈ nx) (nA : (A, W.listOf (List.toArray va) 0) ∈ nx) (nB : (B, W.listOf (List.toArray vb) 0) ∈ nx) (nK : (K', LCg.lst [Value.int (kp 0) t1, Value.int (kp 1) t2]) ∈ nx)
   (hA : IntsAre va (dr.take 8)) (hB : IntsAre vb (dr.drop 8)) (hdr : dr.length = 16)
   (hret : Stop (∀ h1 tk1 Hd a0 a1 v0 v1 nx', Fr g L h1 (fun z => if z = PySem.Str.ofString "head" then some (.ref Hd) else m z) → News g L h1 nx' → (∀ q ∈ nx, q ∈ nx') →
      (Hd, LCg.lst [.ref a0, .ref a1]) ∈ nx' → (a0, W.listOf (List.toArray v0) 0) ∈ nx' → (a1, W.listOf (List.toArray v1) 0) ∈ nx' → IntsAre v0 (headOf dr kp 0) → IntsAre v1 (headOf dr kp 1) →
      wpAny (model PG w) (callerA.deeper (lawEnv L fa cd)) (execs ((theBody 16).drop 6) (lawEnv L fa cd)) Q (lawE w L fa cd E) { heap := h1, gens := gens, drawn := drawn, toks := tk1, os := os })) :
   wpAny (model PG w) (callerA.deeper (lawEnv L fa cd)) (execs ((theBody 16).drop 5) (lawEnv L fa cd)) Q (lawE w L fa cd E) { heap := h', gens := gens, drawn := drawn, toks := tk, os := os } := by
  k_with_none
  k_with "subscriptTail" => (refine stop ?_)
  k_with "call ref" => (refine stop ?_)
  k_with "subscriptTail Subscript" => (refine stop ?_)
  k_with "newList" => (refine stop ?_)
  k_with "exec Assign cons ListComp" => (refine stop ?_)
  k_with "CompSrc" => (refine stop ?_)
  k_with "subscriptTail Name Slice ref ref" => (refine stop ?_)
  k_with "call builtin:list.append" => (refine stop ?_)
  k_with "eval Name" => ((with_reducible show wpAny _ _ (eval (Expr.Name (PySem.Str.ofString "kept") _) _) _ _ _); refine stop ?_)
  k_with "eval Name" => ((with_reducible show wpAny _ _ (eval (Expr.Name (PySem.Str.ofString "full") _) _) _ _ _); refine stop ?_)
  k_with "execs cons" => ((with_reducible show wpAny _ _ (execs (Stmt.Assign [Expr.Name (PySem.Str.ofString "tail") _] _ _ :: _) _) _ _ _); refine stop ?_)
  unfold lawE; delta PG; revert X; k_fill; intro X
  conv in (List.drop 5 _) => whnf
  unfold lawEnv
  generalize hsc : theScope 16 = sc9
  conv at hsc => lhs; whnf
  subst hsc
  k_steps
  unfold Stop
  refine LCg.Assign_ListComp_U (F₀ := F) (by rfl) (by with_unfolding_all rfl) (by rfl) (by decide) (by rfl) (by decide) (by rfl) (by rfl) (by rfl) ?_
  k_steps
  unfold Stop
  rename IsRange _ _ _ _ _ _ _ _ => hR
  rename Fr _ _ _ _ => F9
  rename News _ _ _ _ => N9
  refine LCg.CompSrc.range (n := 2) rfl F9 N9 hR (small_one (by decide) (by decide) (by omega) (by omega)) (by decide) (by rw [PySem.sizeLine_eq]; omega) ?_
  intro g9
  refine comp_vals (Two (headOf dr kp) nx) ⟨rfl, fun q hq => hq, fun j v e => by simp at e⟩ ?_ ?_
  · rintro j v ys nx1 I oI C oC D m₂ h tk E' hj ⟨t, rfl⟩ hJ hC hx F1 N1 off ne
    clear hR F9 N9
    have kpm : ∀ q ∈ nx, q ∈ (I, oI) :: (C, oC) :: (D, LCg.lst ys) :: nx1 := fun q hq => .tail _ (.tail _ (.tail _ (hJ.2.1 q hq)))
    k_steps
    unfold Stop
    obtain ⟨X', vX, hv, hX, hI⟩ := full_at nA nB hA hB hj
    obtain ⟨tk9, hkv⟩ := kept_at (kp := kp) (t1 := t1) (t2 := t2) hj
    refine wpAny_Name (wpAny_loadName_cell (by rfl) (by rfl) (by rfl) ⟨o3, (N1 _ (kpm _ n3)).1, d3⟩ ?_) (by decide)
    k_steps
    unfold Stop
    refine item_any ⟨_, (N1 _ (kpm _ nF)).1, rfl, _, rfl⟩ (by omega) (by omega) hv ?_
    k_steps
    unfold Stop
    refine wpAny_Name (wpAny_loadName_cell (by rfl) (by rfl) (by rfl) ⟨o4, (N1 _ (kpm _ n4)).1, d4⟩ ?_) (by decide)
    k_steps
    unfold Stop
    refine item_any ⟨_, (N1 _ (kpm _ nK)).1, rfl, _, rfl⟩ (by omega) (by omega) hkv ?_
    k_steps
    unfold Stop
    refine sliceR (ms := (fullOf dr j).take _) F1 N1 ⟨_, (N1 _ (kpm _ hX)).1, rfl, _, rfl⟩ .none (.int _ _) .none (by decide) (kmk_upto hI (half_is (kp j)).1) (by rw [hI.length, full_len hdr]; omega) ?_
    intro D2 ws h2 F2 N2 lD hI2
    rw [(half_is (kp j)).2] at hI2
    refine ⟨_, _, _, rfl, F2, fun q hq => N2 q (tup_perm hq), ⟨⟨Nat.ne_of_gt (lD _ (.head _)), Nat.ne_of_gt (lD _ (.tail _ (.head _))), Nat.ne_of_gt (lD _ (.tail _ (.tail _ (.head _))))⟩, off⟩, trivial, hJ.step (fun q hq => .tail _ hq) (.head _) hI2⟩
  · intro ys nx1 hJ D h tk F1 N1 of1
    clear hR F9 N9
    obtain ⟨a0, a1, v0, v1, rfl, e0, e1, i0, i1⟩ := hJ.two
    k_steps
    unfold Stop
    rename Fr _ _ _ _ => F2
    rename News _ _ _ _ => N2
    unfold Stop at hret
    exact hret _ _ _ a0 a1 v0 v1 _ F2 N2 (fun q hq => .tail _ (hJ.2.1 q hq)) (.head _) (.tail _ e0) (.tail _ e1) i0 i1
end
end
section
theorem rest_is (k : Nat) : 0 ≤ (k : Int) - ((k : Int)).fdiv 2 ∧ ((k : Int) - ((k : Int)).fdiv 2).toNat = k - k / 2 := by
  rw [Int.fdiv_eq_ediv_of_nonneg _ (by decide)]
  omega
variable {w : World} {p : Program} {loose : List PySem.Str} {mean : ExcName → Option Value} {mg mb : PySem.Str → Option Value}
  {g h' : Heap} {gens : Array GenState} {drawn : Drawn} {tk : Nat} {os : OsState} {L : Addr} {m : PySem.Str → Option Value} {Q : Flow → Shared → Prop} {E : Value → Shared → Prop} {fa : Addr} {cd : Value}
section
theorem law_4 (Fl A B K' : Addr) (va vb : List Value) (dr : List Int) (kp : Nat → Nat) (t1 t2 : Tok) (o3 o4 : Obj) (nx : List (Addr × Obj))
   (B0 : Below callerA base [] g) (F : Fr g L h' m) (X : (hd.heap_39 w.params).In g) (T : Top p loose mean mg mb g)
   (N : News g L h' nx) (n3 : (L + 1 + 1 + 1, o3) ∈ nx) (n4 : (L + 1 + 1 + 1 + 1, o4) ∈ nx) (d3 : o3.data = .cell (some (.ref Fl))) (d4 : o4.data = .cell (some (.ref K')))
   (nF : (Fl, W.listOf #[.ref A, .ref B] 0) ∈ nx) (nA : (A, W.listOf (List.toArray va) 0) ∈ nx) (nB : (B, W.listOf (List.toArray vb) 0) ∈ nx) (nK : (K', LCg.lst [Value.int (kp 0) t1, Value.int (kp 1) t2]) ∈ nx)
   (hA : IntsAre va (dr.take 8)) (hB : IntsAre vb (dr.drop 8)) (hdr : dr.length = 16)
   (hret : Stop (∀ h1 tk1 Hd a0 a1 v0 v1 nx', Fr g L h1 (fun z => if z = PySem.Str.ofString "tail" then some (.ref Hd) else m z) → News g L h1 nx' → (∀ q ∈ nx, q ∈ nx') →
      (Hd, LCg.lst [.ref a0, .ref a1]) ∈ nx' → (a0, W.listOf (List.toArray v0) 0) ∈ nx' → (a1, W.listOf (List.toArray v1) 0) ∈ nx' → IntsAre v0 (tailOf dr kp 0) → IntsAre v1 (tailOf dr kp 1) →
      wpAny (model PG w) (callerA.deeper (lawEnv L fa cd)) (execs ((theBody 16).drop 7) (lawEnv L fa cd)) Q (lawE w L fa cd E) { heap := h1, gens := gens, drawn := drawn, toks := tk1, os := os })) :
   wpAny (model PG w) (callerA.deeper (lawEnv L fa cd)) (execs ((theBody 16).drop 6) (lawEnv L fa cd)) Q (lawE w L fa cd E) { heap := h', gens := gens, drawn := drawn, toks := tk, os := os } := by
  k_with_none
  k_with "subscriptTail" => (refine stop ?_)
  k_with "call ref" => (refine stop ?_)
  k_with "subscriptTail Subscript" => (refine stop ?_)
  k_with "newList" => (refine stop ?_)
  k_with "exec Assign cons ListComp" => (refine stop ?_)
  k_with "CompSrc" => (refine stop ?_)
  k_with "subscriptTail Name Slice ref ref" => (refine stop ?_)
  k_with "call builtin:list.append" => (refine stop ?_)
  k_with "eval Name" => ((with_reducible show wpAny _ _ (eval (Expr.Name (PySem.Str.ofString "kept") _) _) _ _ _); refine stop ?_)
  k_with "eval Name" => ((with_reducible show wpAny _ _ (eval (Expr.Name (PySem.Str.ofString "full") _) _) _ _ _); refine stop ?_)
  k_with "execs cons" => ((with_reducible show wpAny _ _ (execs (Stmt.Assign [Expr.Name (PySem.Str.ofString "front") _] _ _ :: _) _) _ _ _); refine stop ?_)
  unfold lawE; delta PG; revert X; k_fill; intro X
  conv in (List.drop 6 _) => whnf
  unfold lawEnv
  generalize hsc : theScope 16 = sc9
  conv at hsc => lhs; whnf
  subst hsc
  k_steps
  unfold Stop
  refine LCg.Assign_ListComp_U (F₀ := F) (by rfl) (by with_unfolding_all rfl) (by rfl) (by decide) (by rfl) (by decide) (by rfl) (by rfl) (by rfl) ?_
  k_steps
  unfold Stop
  rename IsRange _ _ _ _ _ _ _ _ => hR
  rename Fr _ _ _ _ => F9
  rename News _ _ _ _ => N9
  refine LCg.CompSrc.range (n := 2) rfl F9 N9 hR (small_one (by decide) (by decide) (by omega) (by omega)) (by decide) (by rw [PySem.sizeLine_eq]; omega) ?_
  intro g9
  refine comp_vals (Two (tailOf dr kp) nx) ⟨rfl, fun q hq => hq, fun j v e => by simp at e⟩ ?_ ?_
  · rintro j v ys nx1 I oI C oC D m₂ h tk E' hj ⟨t, rfl⟩ hJ hC hx F1 N1 off ne
    clear hR F9 N9
    have kpm : ∀ q ∈ nx, q ∈ (I, oI) :: (C, oC) :: (D, LCg.lst ys) :: nx1 := fun q hq => .tail _ (.tail _ (.tail _ (hJ.2.1 q hq)))
    k_steps
    unfold Stop
    obtain ⟨X', vX, hv, hX, hI⟩ := full_at nA nB hA hB hj
    obtain ⟨tk9, hkv⟩ := kept_at (kp := kp) (t1 := t1) (t2 := t2) hj
    refine wpAny_Name (wpAny_loadName_cell (by rfl) (by rfl) (by rfl) ⟨o3, (N1 _ (kpm _ n3)).1, d3⟩ ?_) (by decide)
    k_steps
    unfold Stop
    refine item_any ⟨_, (N1 _ (kpm _ nF)).1, rfl, _, rfl⟩ (by omega) (by omega) hv ?_
    k_steps
    unfold Stop
    refine sliceR (ms := (fullOf dr j).reverse) F1 N1 ⟨_, (N1 _ (kpm _ hX)).1, rfl, _, rfl⟩ .none .none (.int _ _) (by decide) (rev_pick hI) (by rw [hI.length, full_len hdr]; omega) ?_
    intro D1 ws1 h1 F2 N2 lD1 hI1
    k_steps
    unfold Stop
    refine wpAny_Name (wpAny_loadName_cell (by rfl) (by rfl) (by rfl) ⟨o4, (N2 _ (.tail _ (kpm _ n4))).1, d4⟩ ?_) (by decide)
    k_steps
    unfold Stop
    refine item_any ⟨_, (N2 _ (.tail _ (kpm _ nK))).1, rfl, _, rfl⟩ (by omega) (by omega) hkv ?_
    k_steps
    unfold Stop
    refine wpAny_Name (wpAny_loadName_cell (by rfl) (by rfl) (by rfl) ⟨o4, (N2 _ (.tail _ (kpm _ n4))).1, d4⟩ ?_) (by decide)
    k_steps
    unfold Stop
    refine item_any ⟨_, (N2 _ (.tail _ (kpm _ nK))).1, rfl, _, rfl⟩ (by omega) (by omega) hkv ?_
    k_steps
    unfold Stop
    refine sliceR (ms := (fullOf dr j).reverse.take _) F2 N2 ⟨_, (N2 _ (.head _)).1, rfl, _, rfl⟩ .none (.int _ _) .none (by decide) (kmk_upto hI1 (rest_is (kp j)).1) (by rw [hI1.length, List.length_reverse, full_len hdr]; omega) ?_
    intro D2 ws h2 F2 N2 lD hI2
    have N2 := news_sub N2 (.cons_cons _ (.cons _ (List.Sublist.refl _)))
    have lD : ∀ p ∈ (I, oI) :: (C, oC) :: (D, LCg.lst ys) :: nx1, p.1 < D2 := fun p hp => lD p (.tail _ hp)
    rw [(rest_is (kp j)).2] at hI2
    refine ⟨_, _, _, rfl, F2, fun q hq => N2 q (tup_perm hq), ⟨⟨Nat.ne_of_gt (lD _ (.head _)), Nat.ne_of_gt (lD _ (.tail _ (.head _))), Nat.ne_of_gt (lD _ (.tail _ (.tail _ (.head _))))⟩, off⟩, trivial, hJ.step (fun q hq => .tail _ hq) (.head _) hI2⟩
  · intro ys nx1 hJ D h tk F1 N1 of1
    clear hR F9 N9
    obtain ⟨a0, a1, v0, v1, rfl, e0, e1, i0, i1⟩ := hJ.two
    k_steps
    unfold Stop
    rename Fr _ _ _ _ => F2
    rename News _ _ _ _ => N2
    unfold Stop at hret
    exact hret _ _ _ a0 a1 v0 v1 _ F2 N2 (fun q hq => .tail _ (hJ.2.1 q hq)) (.head _) (.tail _ e0) (.tail _ e1) i0 i1
end
end
section
theorem news_add {h₀ g h : Heap} {L D : Addr} {m : PySem.Str → Option Value} {o : Obj} {nx : List (Addr × Obj)} (F : Fr h₀ L g m) (N : News h₀ L h nx) (hD : g.get? D = none) (e : h.get? D = some o) : News h₀ L h ((D, o) :: nx) := by
  intro q hq
  rcases List.mem_cons.mp hq with rfl | hq
  · refine ⟨e, fun q => ?_, ?_⟩
    · obtain ⟨o', e', _⟩ := LCg.ns_obj F.ns
      rw [show D = L from q] at hD
      rw [hD] at e'; cases e'
    · cases q : h₀.get? D with
      | none => rfl
      | some o' => rw [F.keep _ _ q] at hD; cases hD
  · exact N q hq
theorem head_len {dr : List Int} {kp : Nat → Nat} (hdr : dr.length = 16) (j : Nat) : (headOf dr kp j).length ≤ 8 := by
  unfold headOf; rw [List.length_take, full_len hdr]; omega
theorem tail_len {dr : List Int} {kp : Nat → Nat} (hdr : dr.length = 16) (j : Nat) : (tailOf dr kp j).length ≤ 8 := by
  unfold tailOf; rw [List.length_take, List.length_reverse, full_len hdr]; omega
theorem kst_same {m : PySem.Str → Option Value} {ps : List (PySem.Str × Value)} (hp : ∀ p ∈ ps, m p.1 = some p.2) : kstB m ps = m := funext fun z => kstB_eq hp fun _ => rfl
variable {w : World} {p : Program} {loose : List PySem.Str} {mean : ExcName → Option Value} {mg mb : PySem.Str → Option Value}
  {g h' : Heap} {gens : Array GenState} {drawn : Drawn} {tk : Nat} {os : OsState} {L : Addr} {m : PySem.Str → Option Value} {Q : Flow → Shared → Prop} {E : Value → Shared → Prop} {fa : Addr} {cd : Value}
section
theorem law_5 (Hd Tl a0 a1 b0 b1 : Addr) (v0 v1 u0 u1 : List Value) (dr : List Int) (kp : Nat → Nat) (nx : List (Addr × Obj))
   (B0 : Below callerA base [] g) (F : Fr g L h' m) (X : (hd.heap_39 w.params).In g) (T : Top p loose mean mg mb g)
   (N : News g L h' nx) (nH : (Hd, LCg.lst [.ref a0, .ref a1]) ∈ nx) (nT : (Tl, LCg.lst [.ref b0, .ref b1]) ∈ nx) (n0 : (a0, W.listOf (List.toArray v0) 0) ∈ nx) (n1 : (a1, W.listOf (List.toArray v1) 0) ∈ nx)
   (n2 : (b0, W.listOf (List.toArray u0) 0) ∈ nx) (n3 : (b1, W.listOf (List.toArray u1) 0) ∈ nx) (i0 : IntsAre v0 (headOf dr kp 0)) (i1 : IntsAre v1 (headOf dr kp 1)) (i2 : IntsAre u0 (tailOf dr kp 0)) (i3 : IntsAre u1 (tailOf dr kp 1)) (hdr : dr.length = 16)
   (hmH : m (PySem.Str.ofString "head") = some (.ref Hd)) (hmT : m (PySem.Str.ofString "tail") = some (.ref Tl))
   (hret : Stop (∀ h1 tk1 Df Db f fi fj b bi bj x1 x2 x3 x4 x5 x6 x7 k1 k2, Fr g L h1 (fun z => if z = PySem.Str.ofString "price" then some (.int (f + b) x7) else if z = PySem.Str.ofString "back" then some (.ref Db) else if z = PySem.Str.ofString "front" then some (.ref Df) else m z) →
      News g L h1 ((Db, { cls := .type "tuple", data := .seq #[.int b x4, .int bi x5, .int bj x6] k2 }) :: (Df, { cls := .type "tuple", data := .seq #[.int f x1, .int fi x2, .int fj x3] k1 }) :: nx) →
      LeastSays (headOf dr kp 0) (headOf dr kp 1) f fi fj → LeastSays (tailOf dr kp 0) (tailOf dr kp 1) b bi bj →
      wpAny (model PG w) (callerA.deeper (lawEnv L fa cd)) (execs ((theBody 16).drop 10) (lawEnv L fa cd)) Q (lawE w L fa cd E) { heap := h1, gens := gens, drawn := drawn, toks := tk1, os := os })) :
   wpAny (model PG w) (callerA.deeper (lawEnv L fa cd)) (execs ((theBody 16).drop 7) (lawEnv L fa cd)) Q (lawE w L fa cd E) { heap := h', gens := gens, drawn := drawn, toks := tk, os := os } := by
  k_with_none
  k_with "subscriptTail" => (refine stop ?_)
  k_with "call ref" => (refine stop ?_)
  k_with "subscriptTail Subscript" => (refine stop ?_)
  k_with "newList" => (refine stop ?_)
  k_with "exec Assign cons ListComp" => (refine stop ?_)
  k_with "CompSrc" => (refine stop ?_)
  k_with "subscriptTail Name Slice ref ref" => (refine stop ?_)
  k_with "call builtin:list.append" => (refine stop ?_)
  k_with "eval Name" => ((with_reducible show wpAny _ _ (eval (Expr.Name (PySem.Str.ofString "kept") _) _) _ _ _); refine stop ?_)
  k_with "eval Name" => ((with_reducible show wpAny _ _ (eval (Expr.Name (PySem.Str.ofString "full") _) _) _ _ _); refine stop ?_)
  k_with "execs cons" => ((with_reducible show wpAny _ _ (execs (Stmt.Assign [Expr.Name (PySem.Str.ofString "rows") _] _ _ :: _) _) _ _ _); refine stop ?_)
  unfold lawE; delta PG; revert X; k_fill; intro X
  conv in (List.drop 7 _) => whnf
  unfold lawEnv
  generalize hsc : theScope 16 = sc9
  conv at hsc => lhs; whnf
  subst hsc
  replace F := fr_kst F [(PySem.Str.ofString "head", .ref Hd), (PySem.Str.ofString "tail", .ref Tl)] (by simp [hmH, hmT])
  have hl0 := head_len (kp := kp) hdr 0
  have hl1 := head_len (kp := kp) hdr 1
  have hl2 := tail_len (kp := kp) hdr 0
  have hl3 := tail_len (kp := kp) hdr 1
  k_steps
  unfold Stop
  refine item_any ⟨_, (N _ nH).1, rfl, _, rfl⟩ (by omega) (by omega) (v := .ref a0) rfl ?_
  k_steps
  unfold Stop
  refine item_any ⟨_, (N _ nH).1, rfl, _, rfl⟩ (by omega) (by omega) (v := .ref a1) rfl ?_
  k_steps
  unfold Stop
  refine' c_least a0 a1 v0 v1 (headOf dr kp 0) (headOf dr kp 1) i0 i1 (by omega) (by omega) _ _ _ _ _ _ _ _ _ _ _ _ _ _ _ _ _ _ _ _ _ ?k1a ?k2a ?k3a ?k4a ?k5a ?k6a ?k7a ⟨⟨_, (N _ n0).1, rfl, _, rfl⟩, ⟨_, (N _ n1).1, rfl, _, rfl⟩⟩ ?_
  case k1a => k_asm
  case k2a => exact F
  case k3a => k_asm
  case k4a => k_asm
  case k5a => rfl
  case k6a => ktr_room
  case k7a => ktr_units
  intro r h9 tk9 F9 K9 hr
  obtain ⟨Df, f, fi, fj, x1, x2, x3, k1, rfl, fr1, hD1, hS1⟩ := hr
  have N9 := news_add F (nkeep N K9) fr1 hD1
  k_steps
  unfold Stop
  rename Fr _ _ _ _ => F8
  rename News _ _ _ _ => N8
  refine item_any ⟨_, (N8 _ (.tail _ nT)).1, rfl, _, rfl⟩ (by omega) (by omega) (v := .ref b0) rfl ?_
  k_steps
  unfold Stop
  refine item_any ⟨_, (N8 _ (.tail _ nT)).1, rfl, _, rfl⟩ (by omega) (by omega) (v := .ref b1) rfl ?_
  k_steps
  unfold Stop
  refine' c_least b0 b1 u0 u1 (tailOf dr kp 0) (tailOf dr kp 1) i2 i3 (by omega) (by omega) _ _ _ _ _ _ _ _ _ _ _ _ _ _ _ _ _ _ _ _ _ ?k1b ?k2b ?k3b ?k4b ?k5b ?k6b ?k7b ⟨⟨_, (N8 _ (.tail _ n2)).1, rfl, _, rfl⟩, ⟨_, (N8 _ (.tail _ n3)).1, rfl, _, rfl⟩⟩ ?_
  case k1b => k_asm
  case k2b => exact F8
  case k3b => k_asm
  case k4b => k_asm
  case k5b => rfl
  case k6b => ktr_room
  case k7b => ktr_units
  intro r h9 tk9 F9 K9 hr
  obtain ⟨Db, b, bi, bj, x4, x5, x6, k2, rfl, fr2, hD2, hS2⟩ := hr
  have N9 := news_add F8 (nkeep N8 K9) fr2 hD2
  k_steps
  unfold Stop
  rename Fr _ _ _ _ => F8
  rename News _ _ _ _ => N8
  refine item_tupleT (News.isTup N8 (.tail _ (.head _))) (by decide) (by decide) (j := 0) rfl rfl ?_
  k_steps
  unfold Stop
  refine item_tupleT (News.isTup N8 (.head _)) (by decide) (by decide) (j := 0) rfl rfl ?_
  k_steps
  unfold Stop
  rename Fr _ _ _ _ => F8
  rename News _ _ _ _ => N8
  rw [kst_same (by simp [hmH, hmT])] at F8
  unfold Stop at hret
  exact hret _ _ Df Db f fi fj b bi bj x1 x2 x3 x4 x5 x6 _ k1 k2 F8 N8 hS1 hS2
end
end
section
section
variable {prog : Program} {w : World} {A : Around} {E : Value → Shared → Prop} {s : Shared} {h₀ : Heap} {L l b : Addr} {m : PySem.Str → Option Value} {news : List (Addr × Obj)} {vs ws : List Value} {ns ms : List Int} {Q : Value → Shared → Prop}
theorem add2 (F : Fr h₀ L s.heap m) (N : News h₀ L s.heap news) (hl : s.heap.IsList l vs.toArray) (hb : s.heap.IsList b ws.toArray) (hi : IntsAre vs ns) (hj : IntsAre ws ms)
    (h : ∀ D h', Fr h₀ L h' m → News h₀ L h' ((D, W.listOf (List.toArray (vs ++ ws)) 0) :: news) → IntsAre (vs ++ ws) (ns ++ ms) → Q (.ref D) { s with heap := h' })
    (hsz : ns.length + ms.length ≤ 1000) : wpAny (model prog w) A (binaryOp .Add (.ref l) (.ref b)) Q E s :=
  add_lists_ints F N hl hb hi hj (fun h' F' N' I => h _ h' F' N' I) (by rw [PySem.sizeLine_eq]; omega)
theorem add3 (F : Fr h₀ L s.heap m) (N : News h₀ L s.heap news) (hl : s.heap.IsList l vs.toArray) (hb : s.heap.IsList b ws.toArray)
    (h : ∀ D h', Fr h₀ L h' m → News h₀ L h' ((D, W.listOf (List.toArray (vs ++ ws)) 0) :: news) → Q (.ref D) { s with heap := h' })
    (hsz : vs.length + ws.length ≤ 1000) : wpAny (model prog w) A (binaryOp .Add (.ref l) (.ref b)) Q E s :=
  add_lists F N hl hb (fun h' F' N' => h _ h' F' N') (by rw [PySem.sizeLine_eq]; omega)
end
theorem lenI {vs : List Value} {ns : List Int} {k : Nat} (hi : IntsAre vs ns) (h : ns.length ≤ k) (hk : k ≤ 1000) : vs.length ≤ 1000 := by
  rw [hi.length]; exact Nat.le_trans h hk
theorem sumI {a b m n : Nat} (h : a ≤ m) (h' : b ≤ n) (hk : m + n ≤ 1000) : a + b ≤ 1000 := Nat.le_trans (Nat.add_le_add h h') hk
theorem app_le {a b : List Int} {m n : Nat} (h : a.length ≤ m) (h' : b.length ≤ n) : (a ++ b).length ≤ m + n := by rw [List.length_append]; exact Nat.add_le_add h h'
theorem drop_le {a : List Int} {m k : Nat} (h : a.length ≤ m) : (a.drop k).length ≤ m := by rw [List.length_drop]; exact Nat.le_trans (Nat.sub_le _ _) h
theorem take_le {a : List Int} {m k : Nat} (h : a.length ≤ m) : (a.take k).length ≤ m := by rw [List.length_take]; exact Nat.le_trans (Nat.min_le_right _ _) h
theorem rev_le {a : List Int} {m : Nat} (h : a.length ≤ m) : a.reverse.length ≤ m := by rw [List.length_reverse]; exact h
def midOf (dr : List Int) : List Int := (dr.drop (4 : Int).toNat).take (min (8 : Int).toNat dr.length - (4 : Int).toNat)
def tupObj (x y z : Int) (t u v : Tok) (k : Nat) : Obj := { cls := .type "tuple", data := .seq #[.int x t, .int y u, .int z v] k }
variable {w : World} {p : Program} {loose : List PySem.Str} {mean : ExcName → Option Value} {mg mb : PySem.Str → Option Value}
  {g h' : Heap} {gens : Array GenState} {drawn : Drawn} {tk : Nat} {os : OsState} {L : Addr} {m : PySem.Str → Option Value} {Q : Flow → Shared → Prop} {E : Value → Shared → Prop} {fa : Addr} {cd : Value}
section
set_option linter.unusedSimpArgs false
theorem law_6 (Hd Tl a0 a1 b0 b1 Df Db Dr Fl A B : Addr) (v0 v1 u0 u1 vd : List Value) (H0 H1 T0 T1 dr : List Int) (f b : Int) (fx fy bx bY : Nat) (x1 x2 x3 x4 x5 x6 : Tok) (k1 k2 : Nat) (o2 o3 : Obj) (nx : List (Addr × Obj))
   (B0 : Below callerA base [] g) (F : Fr g L h' m) (X : (hd.heap_39 w.params).In g) (T : Top p loose mean mg mb g) (N : News g L h' nx)
   (nH : (Hd, LCg.lst [.ref a0, .ref a1]) ∈ nx) (nT : (Tl, LCg.lst [.ref b0, .ref b1]) ∈ nx) (nf : (Df, tupObj f fx fy x1 x2 x3 k1) ∈ nx) (nb : (Db, tupObj b bx bY x4 x5 x6 k2) ∈ nx)
   (n0 : (a0, W.listOf (List.toArray v0) 0) ∈ nx) (n1 : (a1, W.listOf (List.toArray v1) 0) ∈ nx) (n2 : (b0, W.listOf (List.toArray u0) 0) ∈ nx) (n3 : (b1, W.listOf (List.toArray u1) 0) ∈ nx)
   (i0 : IntsAre v0 H0) (i1 : IntsAre v1 H1) (i2 : IntsAre u0 T0) (i3 : IntsAre u1 T1) (hl0 : H0.length ≤ 8) (hl1 : H1.length ≤ 8) (hl2 : T0.length ≤ 8) (hl3 : T1.length ≤ 8)
   (nD : (Dr, LCg.lst vd) ∈ nx) (hD : IntsAre vd dr) (hdr : dr.length = 16) (nF : (Fl, W.listOf #[.ref A, .ref B] 0) ∈ nx)
   (nc2 : (L + 1 + 1, o2) ∈ nx) (nc3 : (L + 1 + 1 + 1, o3) ∈ nx) (d2 : o2.data = .cell (some (.ref Dr))) (d3 : o3.data = .cell (some (.ref Fl)))
   (hmH : m (PySem.Str.ofString "head") = some (.ref Hd)) (hmT : m (PySem.Str.ofString "tail") = some (.ref Tl)) (hmf : m (PySem.Str.ofString "front") = some (.ref Df)) (hmb : m (PySem.Str.ofString "back") = some (.ref Db))
   (hret : Stop (∀ h1 tk1 R r2 r3 r4 w2 w3 w4 nx', Fr g L h1 (fun z => if z = PySem.Str.ofString "rows" then some (.ref R) else m z) → News g L h1 nx' → (∀ q ∈ nx, q ∈ nx') →
      (R, W.listOf #[.ref A, .ref B, .ref r2, .ref r3, .ref r4] 0) ∈ nx' → (r2, W.listOf (List.toArray w2) 0) ∈ nx' → (r3, W.listOf (List.toArray w3) 0) ∈ nx' → (r4, W.listOf (List.toArray w4) 0) ∈ nx' →
      IntsAre w2 (H0 ++ H1.drop fy ++ midOf dr ++ (T0 ++ T1.drop bY).reverse) → IntsAre w3 (H1 ++ H0.drop fx ++ midOf dr ++ (T1 ++ T0.drop bx).reverse) → IntsAre w4 (H0 ++ (T0.take (T0.length - 1)).reverse) →
      wpAny (model PG w) (callerA.deeper (lawEnv L fa cd)) (execs ((theBody 16).drop 11) (lawEnv L fa cd)) Q (lawE w L fa cd E) { heap := h1, gens := gens, drawn := drawn, toks := tk1, os := os })) :
   wpAny (model PG w) (callerA.deeper (lawEnv L fa cd)) (execs ((theBody 16).drop 10) (lawEnv L fa cd)) Q (lawE w L fa cd E) { heap := h', gens := gens, drawn := drawn, toks := tk, os := os } := by
  k_with_none
  k_with "subscriptTail" => (refine stop ?_)
  k_with "call ref" => (refine stop ?_)
  k_with "subscriptTail Subscript" => (refine stop ?_)
  k_with "newList" => (refine stop ?_)
  k_with "exec Assign cons ListComp" => (refine stop ?_)
  k_with "CompSrc" => (refine stop ?_)
  k_with "subscriptTail Name Slice ref ref" => (refine stop ?_)
  k_with "call builtin:list.append" => (refine stop ?_)
  k_with "eval Name" => ((with_reducible show wpAny _ _ (eval (Expr.Name (PySem.Str.ofString "kept") _) _) _ _ _); refine stop ?_)
  k_with "eval Name" => ((with_reducible show wpAny _ _ (eval (Expr.Name (PySem.Str.ofString "full") _) _) _ _ _); refine stop ?_)
  k_with "subscriptTail BinOp" => (refine stop ?_)
  k_with "binaryOp Add ref ref" => (refine stop ?_)
  k_with "eval Name" => ((with_reducible show wpAny _ _ (eval (Expr.Name (PySem.Str.ofString "drawn") _) _) _ _ _); refine stop ?_)
  k_with "execs cons" => ((with_reducible show wpAny _ _ (execs (Stmt.Assign [Expr.Name (PySem.Str.ofString "texts") _] _ _ :: _) _) _ _ _); refine stop ?_)
  unfold lawE; delta PG; revert X; k_fill; intro X
  conv in (List.drop 10 _) => whnf
  unfold lawEnv
  generalize hsc : theScope 16 = sc9
  conv at hsc => lhs; whnf
  subst hsc
  unfold tupObj at nf nb
  rw [← kst_same (m := m) (ps := [(PySem.Str.ofString "head", .ref Hd), (PySem.Str.ofString "tail", .ref Tl), (PySem.Str.ofString "front", .ref Df), (PySem.Str.ofString "back", .ref Db)]) (by simp [hmH, hmT, hmf, hmb])] at F
  k_steps
  unfold Stop
  refine nameX_C N (by rfl) nc3 d3 ?_ (by rfl) (by rfl)
  k_steps
  unfold Stop
  refine item_any ⟨_, (N _ nH).1, rfl, _, rfl⟩ (by decide) (by decide) (v := .ref a0) rfl ?_
  k_steps
  unfold Stop
  refine item_any ⟨_, (N _ nH).1, rfl, _, rfl⟩ (by decide) (by decide) (v := .ref a1) rfl ?_
  k_steps
  unfold Stop
  refine item_tupleT (News.isTup N nf) (by decide) (by decide) (j := 2) rfl rfl ?_
  k_steps
  unfold Stop
  refine sliceR F N ⟨_, (N _ n1).1, rfl, _, rfl⟩ (.int _ _) .none .none (by decide) (kmk_from i1 (Int.natCast_nonneg _)) (lenI i1 hl1 (by decide)) ?_
  intro xS wxS h1 F1 N1 l1 IxS
  k_steps
  unfold Stop
  refine add2 F1 N1 ⟨_, (N1 _ (.tail _ n0)).1, rfl, _, rfl⟩ ⟨_, (N1 _ (.head _)).1, rfl, _, rfl⟩ i0 IxS ?_ (sumI hl0 (drop_le hl1) (by decide))
  intro xP h2 F2 N2 IxP
  k_steps
  unfold Stop
  refine nameX_C N2 (by rfl) (.tail _ (.tail _ nc2)) d2 ?_ (by rfl) (by rfl)
  k_steps
  unfold Stop
  refine sliceR F2 N2 ⟨_, (N2 _ (.tail _ (.tail _ nD))).1, rfl, _, rfl⟩ (.int _ _) (.int _ _) .none (by decide) (kmk_run hD (by decide) (by decide)) (lenI hD (Nat.le_of_eq hdr) (by decide)) ?_
  intro xM wxM h3 F3 N3 l3 IxM
  k_steps
  unfold Stop
  refine add2 F3 N3 ⟨_, (N3 _ (.tail _ (.head _))).1, rfl, _, rfl⟩ ⟨_, (N3 _ (.head _)).1, rfl, _, rfl⟩ IxP IxM ?_ (sumI (app_le hl0 (drop_le hl1)) (take_le (drop_le (Nat.le_of_eq hdr))) (by decide))
  intro xQ h4 F4 N4 IxQ
  k_steps
  unfold Stop
  refine item_any ⟨_, (N4 _ (.tail _ (.tail _ (.tail _ (.tail _ nT))))).1, rfl, _, rfl⟩ (by decide) (by decide) (v := .ref b0) rfl ?_
  k_steps
  unfold Stop
  refine item_any ⟨_, (N4 _ (.tail _ (.tail _ (.tail _ (.tail _ nT))))).1, rfl, _, rfl⟩ (by decide) (by decide) (v := .ref b1) rfl ?_
  k_steps
  unfold Stop
  refine item_tupleT (News.isTup N4 (.tail _ (.tail _ (.tail _ (.tail _ nb))))) (by decide) (by decide) (j := 2) rfl rfl ?_
  k_steps
  unfold Stop
  refine sliceR F4 N4 ⟨_, (N4 _ (.tail _ (.tail _ (.tail _ (.tail _ n3))))).1, rfl, _, rfl⟩ (.int _ _) .none .none (by decide) (kmk_from i3 (Int.natCast_nonneg _)) (lenI i3 hl3 (by decide)) ?_
  intro xT wxT h5 F5 N5 l5 IxT
  k_steps
  unfold Stop
  refine add2 F5 N5 ⟨_, (N5 _ (.tail _ (.tail _ (.tail _ (.tail _ (.tail _ n2)))))).1, rfl, _, rfl⟩ ⟨_, (N5 _ (.head _)).1, rfl, _, rfl⟩ i2 IxT ?_ (sumI hl2 (drop_le hl3) (by decide))
  intro xU h6 F6 N6 IxU
  k_steps
  unfold Stop
  refine sliceR F6 N6 ⟨_, (N6 _ (.head _)).1, rfl, _, rfl⟩ .none .none (.int _ _) (by decide) (rev_pick IxU) (lenI IxU (app_le hl2 (drop_le hl3)) (by decide)) ?_
  intro xV wxV h7 F7 N7 l7 IxV
  k_steps
  unfold Stop
  refine add2 F7 N7 ⟨_, (N7 _ (.tail _ (.tail _ (.tail _ (.head _))))).1, rfl, _, rfl⟩ ⟨_, (N7 _ (.head _)).1, rfl, _, rfl⟩ IxQ IxV ?_ (sumI (app_le (app_le hl0 (drop_le hl1)) (take_le (drop_le (Nat.le_of_eq hdr)))) (rev_le (app_le hl2 (drop_le hl3))) (by decide))
  intro xZ h8 F8 N8 IxZ
  k_steps
  unfold Stop
  refine item_any ⟨_, (N8 _ (.tail _ (.tail _ (.tail _ (.tail _ (.tail _ (.tail _ (.tail _ (.tail _ nH))))))))).1, rfl, _, rfl⟩ (by decide) (by decide) (v := .ref a1) rfl ?_
  k_steps
  unfold Stop
  refine item_any ⟨_, (N8 _ (.tail _ (.tail _ (.tail _ (.tail _ (.tail _ (.tail _ (.tail _ (.tail _ nH))))))))).1, rfl, _, rfl⟩ (by decide) (by decide) (v := .ref a0) rfl ?_
  k_steps
  unfold Stop
  refine item_tupleT (News.isTup N8 (.tail _ (.tail _ (.tail _ (.tail _ (.tail _ (.tail _ (.tail _ (.tail _ nf))))))))) (by decide) (by decide) (j := 1) rfl rfl ?_
  k_steps
  unfold Stop
  refine sliceR F8 N8 ⟨_, (N8 _ (.tail _ (.tail _ (.tail _ (.tail _ (.tail _ (.tail _ (.tail _ (.tail _ n0))))))))).1, rfl, _, rfl⟩ (.int _ _) .none .none (by decide) (kmk_from i0 (Int.natCast_nonneg _)) (lenI i0 hl0 (by decide)) ?_
  intro yS wyS h9 F9 N9 l9 IyS
  k_steps
  unfold Stop
  refine add2 F9 N9 ⟨_, (N9 _ (.tail _ (.tail _ (.tail _ (.tail _ (.tail _ (.tail _ (.tail _ (.tail _ (.tail _ n1)))))))))).1, rfl, _, rfl⟩ ⟨_, (N9 _ (.head _)).1, rfl, _, rfl⟩ i1 IyS ?_ (sumI hl1 (drop_le hl0) (by decide))
  intro yP h10 F10 N10 IyP
  k_steps
  unfold Stop
  refine nameX_C N10 (by rfl) (.tail _ (.tail _ (.tail _ (.tail _ (.tail _ (.tail _ (.tail _ (.tail _ (.tail _ (.tail _ nc2)))))))))) d2 ?_ (by rfl) (by rfl)
  k_steps
  unfold Stop
  refine sliceR F10 N10 ⟨_, (N10 _ (.tail _ (.tail _ (.tail _ (.tail _ (.tail _ (.tail _ (.tail _ (.tail _ (.tail _ (.tail _ nD))))))))))).1, rfl, _, rfl⟩ (.int _ _) (.int _ _) .none (by decide) (kmk_run hD (by decide) (by decide)) (lenI hD (Nat.le_of_eq hdr) (by decide)) ?_
  intro yM wyM h11 F11 N11 l11 IyM
  k_steps
  unfold Stop
  refine add2 F11 N11 ⟨_, (N11 _ (.tail _ (.head _))).1, rfl, _, rfl⟩ ⟨_, (N11 _ (.head _)).1, rfl, _, rfl⟩ IyP IyM ?_ (sumI (app_le hl1 (drop_le hl0)) (take_le (drop_le (Nat.le_of_eq hdr))) (by decide))
  intro yQ h12 F12 N12 IyQ
  k_steps
  unfold Stop
  refine item_any ⟨_, (N12 _ (.tail _ (.tail _ (.tail _ (.tail _ (.tail _ (.tail _ (.tail _ (.tail _ (.tail _ (.tail _ (.tail _ (.tail _ nT))))))))))))).1, rfl, _, rfl⟩ (by decide) (by decide) (v := .ref b1) rfl ?_
  k_steps
  unfold Stop
  refine item_any ⟨_, (N12 _ (.tail _ (.tail _ (.tail _ (.tail _ (.tail _ (.tail _ (.tail _ (.tail _ (.tail _ (.tail _ (.tail _ (.tail _ nT))))))))))))).1, rfl, _, rfl⟩ (by decide) (by decide) (v := .ref b0) rfl ?_
  k_steps
  unfold Stop
  refine item_tupleT (News.isTup N12 (.tail _ (.tail _ (.tail _ (.tail _ (.tail _ (.tail _ (.tail _ (.tail _ (.tail _ (.tail _ (.tail _ (.tail _ nb))))))))))))) (by decide) (by decide) (j := 1) rfl rfl ?_
  k_steps
  unfold Stop
  refine sliceR F12 N12 ⟨_, (N12 _ (.tail _ (.tail _ (.tail _ (.tail _ (.tail _ (.tail _ (.tail _ (.tail _ (.tail _ (.tail _ (.tail _ (.tail _ n2))))))))))))).1, rfl, _, rfl⟩ (.int _ _) .none .none (by decide) (kmk_from i2 (Int.natCast_nonneg _)) (lenI i2 hl2 (by decide)) ?_
  intro yT wyT h13 F13 N13 l13 IyT
  k_steps
  unfold Stop
  refine add2 F13 N13 ⟨_, (N13 _ (.tail _ (.tail _ (.tail _ (.tail _ (.tail _ (.tail _ (.tail _ (.tail _ (.tail _ (.tail _ (.tail _ (.tail _ (.tail _ n3)))))))))))))).1, rfl, _, rfl⟩ ⟨_, (N13 _ (.head _)).1, rfl, _, rfl⟩ i3 IyT ?_ (sumI hl3 (drop_le hl2) (by decide))
  intro yU h14 F14 N14 IyU
  k_steps
  unfold Stop
  refine sliceR F14 N14 ⟨_, (N14 _ (.head _)).1, rfl, _, rfl⟩ .none .none (.int _ _) (by decide) (rev_pick IyU) (lenI IyU (app_le hl3 (drop_le hl2)) (by decide)) ?_
  intro yV wyV h15 F15 N15 l15 IyV
  k_steps
  unfold Stop
  refine add2 F15 N15 ⟨_, (N15 _ (.tail _ (.tail _ (.tail _ (.head _))))).1, rfl, _, rfl⟩ ⟨_, (N15 _ (.head _)).1, rfl, _, rfl⟩ IyQ IyV ?_ (sumI (app_le (app_le hl1 (drop_le hl0)) (take_le (drop_le (Nat.le_of_eq hdr)))) (rev_le (app_le hl3 (drop_le hl2))) (by decide))
  intro yZ h16 F16 N16 IyZ
  k_steps
  unfold Stop
  refine item_any ⟨_, (N16 _ (.tail _ (.tail _ (.tail _ (.tail _ (.tail _ (.tail _ (.tail _ (.tail _ (.tail _ (.tail _ (.tail _ (.tail _ (.tail _ (.tail _ (.tail _ (.tail _ nH))))))))))))))))).1, rfl, _, rfl⟩ (by decide) (by decide) (v := .ref a0) rfl ?_
  k_steps
  unfold Stop
  refine item_any ⟨_, (N16 _ (.tail _ (.tail _ (.tail _ (.tail _ (.tail _ (.tail _ (.tail _ (.tail _ (.tail _ (.tail _ (.tail _ (.tail _ (.tail _ (.tail _ (.tail _ (.tail _ nT))))))))))))))))).1, rfl, _, rfl⟩ (by decide) (by decide) (v := .ref b0) rfl ?_
  k_steps
  unfold Stop
  refine sliceR F16 N16 ⟨_, (N16 _ (.tail _ (.tail _ (.tail _ (.tail _ (.tail _ (.tail _ (.tail _ (.tail _ (.tail _ (.tail _ (.tail _ (.tail _ (.tail _ (.tail _ (.tail _ (.tail _ n2))))))))))))))))).1, rfl, _, rfl⟩ .none (.int _ _) .none (by decide) (kmk_upto_neg i2 (by decide)) (lenI i2 hl2 (by decide)) ?_
  intro zS wzS h17 F17 N17 l17 IzS
  k_steps
  unfold Stop
  refine sliceR F17 N17 ⟨_, (N17 _ (.head _)).1, rfl, _, rfl⟩ .none .none (.int _ _) (by decide) (rev_pick IzS) (lenI IzS (take_le hl2) (by decide)) ?_
  intro zV wzV h18 F18 N18 l18 IzV
  k_steps
  unfold Stop
  refine add2 F18 N18 ⟨_, (N18 _ (.tail _ (.tail _ (.tail _ (.tail _ (.tail _ (.tail _ (.tail _ (.tail _ (.tail _ (.tail _ (.tail _ (.tail _ (.tail _ (.tail _ (.tail _ (.tail _ (.tail _ (.tail _ n0))))))))))))))))))).1, rfl, _, rfl⟩ ⟨_, (N18 _ (.head _)).1, rfl, _, rfl⟩ i0 IzV ?_ (sumI hl0 (rev_le (take_le hl2)) (by decide))
  intro zZ h19 F19 N19 IzZ
  k_steps
  unfold Stop
  refine newList_K (vs := [.ref xZ, .ref yZ, .ref zZ]) F19 N19 ?_ (by rw [PySem.sizeLine_eq]; simp)
  intro zL h20 F20 N20 l20
  k_steps
  unfold Stop
  refine add3 (vs := [.ref A, .ref B]) (ws := [.ref xZ, .ref yZ, .ref zZ]) F20 N20 ⟨_, (N20 _ (.tail _ (.tail _ (.tail _ (.tail _ (.tail _ (.tail _ (.tail _ (.tail _ (.tail _ (.tail _ (.tail _ (.tail _ (.tail _ (.tail _ (.tail _ (.tail _ (.tail _ (.tail _ (.tail _ (.tail _ nF))))))))))))))))))))).1, rfl, _, rfl⟩ ⟨_, (N20 _ (.head _)).1, rfl, _, rfl⟩ ?_ (by simp)
  intro R h21 F21 N21
  k_steps
  unfold Stop
  rename Fr _ _ _ _ => F8
  rename News _ _ _ _ => N8
  rw [kst_same (by simp [hmH, hmT, hmf, hmb])] at F8
  unfold Stop at hret
  rw [Int.toNat_natCast, Int.toNat_natCast] at IxZ IyZ
  exact hret _ _ R xZ yZ zZ _ _ _ _ F8 N8 (fun q hq => .tail _ (.tail _ (.tail _ (.tail _ (.tail _ (.tail _ (.tail _ (.tail _ (.tail _ (.tail _ (.tail _ (.tail _ (.tail _ (.tail _ (.tail _ (.tail _ (.tail _ (.tail _ (.tail _ (.tail _ (.tail _ (hq)))))))))))))))))))))) (.head _) (.tail _ (.tail _ (.tail _ (.tail _ (.tail _ (.tail _ (.tail _ (.tail _ (.tail _ (.tail _ (.tail _ (.tail _ (.tail _ (.head _)))))))))))))) (.tail _ (.tail _ (.tail _ (.tail _ (.tail _ (.head _)))))) (.tail _ (.tail _ (.head _))) IxZ IyZ IzZ
end
end
section
def RowsAre (rs : List Value) (zs : List (List Int)) (nx : List (Addr × Obj)) : Prop :=
  rs.length = zs.length ∧ ∀ (j : Nat) (v : Value), rs[j]? = some v → ∃ (a : Addr) (va : List Value) (Z : List Int), v = Value.ref a ∧ zs[j]? = some Z ∧ (a, W.listOf (List.toArray va) 0) ∈ nx ∧ IntsAre va Z
theorem RowsAre.mono {rs : List Value} {zs : List (List Int)} {nx nx' : List (Addr × Obj)} (h : RowsAre rs zs nx) (k : ∀ q ∈ nx, q ∈ nx') : RowsAre rs zs nx' :=
  ⟨h.1, fun j v e => let ⟨a, va, Z, e1, e2, e3, e4⟩ := h.2 j v e; ⟨a, va, Z, e1, e2, k _ e3, e4⟩⟩
theorem txAre_snoc : ∀ {vs : List Value} {zs : List (List Int)} {Z : List Int} {t : Tok}, TxAre vs zs → TxAre (vs ++ [.str (tx Z) t]) (zs ++ [Z])
  | _, _, _, _, .nil => .cons _ _ .nil
  | _, _, _, _, .cons Z t h => .cons Z t (txAre_snoc h)
variable {w : World} {p : Program} {loose : List PySem.Str} {mean : ExcName → Option Value} {mg mb : PySem.Str → Option Value}
  {g h' : Heap} {gens : Array GenState} {drawn : Drawn} {tk : Nat} {os : OsState} {L : Addr} {m : PySem.Str → Option Value} {Q : Flow → Shared → Prop} {E : Value → Shared → Prop} {fa : Addr} {cd : Value}
section
theorem law_7 (R : Addr) (rs : List Value) (zs : List (List Int)) (nx : List (Addr × Obj))
   (B0 : Below callerA base [] g) (F : Fr g L h' m) (X : (hd.heap_39 w.params).In g) (T : Top p loose mean mg mb g) (N : News g L h' nx)
   (nR : (R, W.listOf (List.toArray rs) 0) ∈ nx) (hR : RowsAre rs zs nx) (hz : zs.length ≤ 100) (hzs : ∀ Z ∈ zs, Sg Z ∧ Z.length ≤ 100) (hmR : m (PySem.Str.ofString "rows") = some (.ref R))
   (hret : Stop (∀ h1 tk1 Tx ts, Fr g L h1 (fun z => if z = PySem.Str.ofString "texts" then some (.ref Tx) else m z) → News g L h1 ((Tx, LCg.lst ts) :: nx) → TxAre ts zs →
      wpAny (model PG w) (callerA.deeper (lawEnv L fa cd)) (execs ((theBody 16).drop 12) (lawEnv L fa cd)) Q (lawE w L fa cd E) { heap := h1, gens := gens, drawn := drawn, toks := tk1, os := os })) :
   wpAny (model PG w) (callerA.deeper (lawEnv L fa cd)) (execs ((theBody 16).drop 11) (lawEnv L fa cd)) Q (lawE w L fa cd E) { heap := h', gens := gens, drawn := drawn, toks := tk, os := os } := by
  k_with_none
  k_with "subscriptTail" => (refine stop ?_)
  k_with "call ref" => (refine stop ?_)
  k_with "subscriptTail Subscript" => (refine stop ?_)
  k_with "newList" => (refine stop ?_)
  k_with "exec Assign cons ListComp" => (refine stop ?_)
  k_with "CompSrc" => (refine stop ?_)
  k_with "subscriptTail Name Slice ref ref" => (refine stop ?_)
  k_with "call builtin:list.append" => (refine stop ?_)
  k_with "eval Name" => ((with_reducible show wpAny _ _ (eval (Expr.Name (PySem.Str.ofString "kept") _) _) _ _ _); refine stop ?_)
  k_with "eval Name" => ((with_reducible show wpAny _ _ (eval (Expr.Name (PySem.Str.ofString "full") _) _) _ _ _); refine stop ?_)
  k_with "execs cons Assign cons" => ((with_reducible show wpAny _ _ (execs (Stmt.Assign [Expr.Name (PySem.Str.ofString "stands") _] _ _ :: _) _) _ _ _); refine stop ?_)
  unfold lawE; delta PG; revert X; k_fill; intro X
  conv in (List.drop 11 _) => whnf
  unfold lawEnv
  generalize hsc : theScope 16 = sc9
  conv at hsc => lhs; whnf
  subst hsc
  rw [← kst_same (m := m) (ps := [(PySem.Str.ofString "rows", .ref R)]) (by simp [hmR])] at F
  k_steps
  unfold Stop
  refine LCg.Assign_ListComp_U (F₀ := F) (by rfl) (by with_unfolding_all rfl) (by rfl) (by decide) (by rfl) (by decide) (by rfl) (by rfl) (by rfl) ?_
  k_steps
  unfold Stop
  refine LCg.CompSrc.ledger rfl F N nR (by rw [List.size_toArray, hR.1, PySem.sizeLine_eq]; omega) ?_
  intro g9
  rw [List.size_toArray]
  refine comp_vals (fun i ys nw => nw = nx ∧ ys.length = i ∧ TxAre ys (zs.take i)) ⟨rfl, rfl, .nil⟩ ?_ ?_
  · rintro j v ys nw I oI C oC D m₂ h tk E' hj hv ⟨rfl, hyl, hT⟩ hC hx F1 N1 off ne
    obtain ⟨a, va, Z, rfl, hZ, hm, hI⟩ := hR.2 j v (by simpa using hv)
    have hZm : Z ∈ zs := List.mem_of_getElem? hZ
    k_steps
    unfold Stop
    refine' c_text a va Z hI (hzs Z hZm).2 (hzs Z hZm).1 _ _ _ _ _ _ _ _ _ _ _ _ _ _ _ _ _ _ _ _ _ ?k1 ?k2 ?k3 ?k4 ?k5 ?k6 ?k7 ⟨_, (N1 _ (.tail _ (.tail _ (.tail _ hm)))).1, rfl, _, rfl⟩ ?_
    case k1 => k_asm
    case k2 => exact F1
    case k3 => k_asm
    case k4 => k_asm
    case k5 => rfl
    case k6 => ktr_room
    case k7 => ktr_units
    intro r h9 tk9 F9 K9 hr
    obtain ⟨t, rfl⟩ := hr
    refine ⟨_, _, _, rfl, F9, nkeep N1 K9, off, .inr ⟨_, nR, rfl, _, rfl⟩, rfl, by rw [List.length_append, hyl]; rfl, ?_⟩
    rw [List.take_add_one, hZ]
    exact txAre_snoc hT
  · rintro ys nw ⟨rfl, hyl, hT⟩ D h tk F1 N1 of1
    rw [hR.1, List.take_length] at hT
    k_steps
    unfold Stop
    rename Fr _ _ _ _ => F8
    rename News _ _ _ _ => N8
    rw [kst_same (by simp [hmR])] at F8
    unfold Stop at hret
    exact hret _ _ D ys F8 N8 hT
end
end
section
theorem txAre_get : ∀ {vs : List Value} {zs : List (List Int)} (_ : TxAre vs zs) {i : Nat} {Z : List Int}, zs[i]? = some Z → ∃ t, vs[i]? = some (.str (tx Z) t)
  | _, _, .nil, _, _, e => by simp at e
  | _, _, .cons Z t h, 0, _, e => by simp at e; subst e; exact ⟨t, rfl⟩
  | _, _, .cons Z t h, i + 1, _, e => by
    obtain ⟨t', h'⟩ := txAre_get h (i := i) (by simpa using e)
    exact ⟨t', by simpa using h'⟩
section
variable {prog : Program} {w : World} {A : Around} {E : Value → Shared → Prop} {s : Shared}
theorem ne_str_same {x : PySem.Str} {t u : Tok} {Q : Value → Shared → Prop} (h : Q (.bool false) s) : wpAny (model prog w) A (compareOp .NotEq (.str x t) (.str x u)) Q E s :=
  PySem.P.ne_str (by rw [show (x.cps.toList != x.cps.toList) = false by simp]; exact h)
end
def lawK : List Stmt := match (theBody 16).drop 13 with
  | s :: _ => forBody s
  | _ => []
variable {w : World} {p : Program} {loose : List PySem.Str} {mean : ExcName → Option Value} {mg mb : PySem.Str → Option Value}
  {g h' : Heap} {gens : Array GenState} {drawn : Drawn} {tk : Nat} {os : OsState} {L : Addr} {m : PySem.Str → Option Value} {Q : Flow → Shared → Prop} {E : Value → Shared → Prop} {fa : Addr} {cd : Value}
section
theorem turn_1 (k : Nat) (kz wk : Int) (ktk twk : Tok) (Tx W' Hd Tl ak bk : Addr) (ts va vb : List Value) (zs : List (List Int)) (Z Z2 H T : List Int) (wls hls tls : List Value) (nx : List (Addr × Obj))
   (B0 : Below callerA base [] g) (F : Fr g L h' m) (X : (hd.heap_39 w.params).In g) (T0 : Top p loose mean mg mb g) (N : News g L h' nx)
   (hk : kz = (k : Int)) (hk2 : k < 2) (nT : (Tx, LCg.lst ts) ∈ nx) (hT : TxAre ts zs) (hZ : zs[k]? = some Z) (hZ2 : zs[k + 2]? = some Z2)
   (nW : (W', W.listOf (List.toArray wls) 0) ∈ nx) (hW : wls[k]? = some (.int wk twk)) (hw0 : 0 ≤ wk) (hw1 : wk ≤ 100)
   (nH : (Hd, LCg.lst hls) ∈ nx) (hH : hls[k]? = some (.ref ak)) (nA : (ak, W.listOf (List.toArray va) 0) ∈ nx) (hA : IntsAre va H)
   (nL : (Tl, LCg.lst tls) ∈ nx) (hL : tls[k]? = some (.ref bk)) (nB : (bk, W.listOf (List.toArray vb) 0) ∈ nx) (hB : IntsAre vb T)
   (sH : Sg H) (sT : Sg T) (lH : H.length ≤ 8) (lT : T.length ≤ 8) (lZ : Z.length ≤ 100) (lZ2 : Z2.length ≤ 100)
   (c1 : cramV (tx Z) wk = tx H ++ PySem.Str.ofString "..." ++ tx T.reverse) (c2 : cramV (tx Z2) wk = tx H ++ PySem.Str.ofString "..." ++ tx T.reverse) (c3 : cramV (tx Z) 8 = tx Z)
   (mk : m (PySem.Str.ofString "k") = some (.int kz ktk)) (mT : m (PySem.Str.ofString "texts") = some (.ref Tx)) (mW : m (PySem.Str.ofString "width") = some (.ref W')) (mH : m (PySem.Str.ofString "head") = some (.ref Hd)) (mL : m (PySem.Str.ofString "tail") = some (.ref Tl))
   (hret : Stop (∀ h1 tk1 Du Da Db t9 kA, Fr g L h1 (fun z => if z = PySem.Str.ofString "due" then some (.ref Du) else if z = PySem.Str.ofString "short" then some (.str (tx H ++ PySem.Str.ofString "..." ++ tx T.reverse) t9) else m z) → News g L h1 ((Du, { cls := .type "tuple", data := .seq #[.ref Da, .ref Db] kA }) :: (Db, W.listOf (List.toArray []) 0) :: (Da, W.listOf (List.toArray []) 0) :: nx) → (∀ q ∈ nx, @LT.lt Nat _ q.1 Da) → @LT.lt Nat _ Da Db → @LT.lt Nat _ Db Du →
      wpAny (model PG w) (callerA.deeper (lawEnv L fa cd)) (execs (lawK.drop 4) (lawEnv L fa cd)) Q (lawE w L fa cd E) { heap := h1, gens := gens, drawn := drawn, toks := tk1, os := os })) :
   wpAny (model PG w) (callerA.deeper (lawEnv L fa cd)) (execs lawK (lawEnv L fa cd)) Q (lawE w L fa cd E) { heap := h', gens := gens, drawn := drawn, toks := tk, os := os } := by
  k_with_none
  k_with "subscriptTail" => (refine stop ?_)
  k_with "call ref" => (refine stop ?_)
  k_with "subscriptTail Subscript" => (refine stop ?_)
  k_with "newList" => (refine stop ?_)
  k_with "exec Assign cons ListComp" => (refine stop ?_)
  k_with "CompSrc" => (refine stop ?_)
  k_with "subscriptTail Name Slice ref ref" => (refine stop ?_)
  k_with "call builtin:list.append" => (refine stop ?_)
  k_with "eval Name" => ((with_reducible show wpAny _ _ (eval (Expr.Name (PySem.Str.ofString "kept") _) _) _ _ _); refine stop ?_)
  k_with "eval Name" => ((with_reducible show wpAny _ _ (eval (Expr.Name (PySem.Str.ofString "full") _) _) _ _ _); refine stop ?_)
  k_with "compareOp NotEq str str" => (refine ne_str_same ?_)
  k_with "newTuple" => (refine stop ?_)
  k_with "execs cons" => ((with_reducible show wpAny _ _ (execs (Stmt.For (Expr.Name (PySem.Str.ofString "row") _) _ _ _ _ :: _) _) _ _ _); refine stop ?_)
  unfold lawE; delta PG; revert X; k_fill; intro X
  conv in lawK => whnf
  unfold lawEnv
  generalize hsc : theScope 16 = sc9
  conv at hsc => lhs; whnf
  subst hsc
  rw [← kst_same (m := m) (ps := [(PySem.Str.ofString "k", .int kz ktk), (PySem.Str.ofString "texts", .ref Tx), (PySem.Str.ofString "width", .ref W'), (PySem.Str.ofString "head", .ref Hd), (PySem.Str.ofString "tail", .ref Tl)]) (by simp [mk, mT, mW, mH, mL])] at F
  obtain ⟨tZ, eT⟩ := txAre_get hT hZ
  obtain ⟨tZ2, eT2⟩ := txAre_get hT hZ2
  have xT : ts[(kz).toNat]? = some (.str (tx Z) tZ) := by rw [hk, Int.toNat_natCast]; exact eT
  have xT2 : ts[(kz + 2).toNat]? = some (.str (tx Z2) tZ2) := by rw [show (kz + 2).toNat = k + 2 by omega]; exact eT2
  have xW : wls[(kz).toNat]? = some (.int wk twk) := by rw [hk, Int.toNat_natCast]; exact hW
  have xH : hls[(kz).toNat]? = some (.ref ak) := by rw [hk, Int.toNat_natCast]; exact hH
  have xL : tls[(kz).toNat]? = some (.ref bk) := by rw [hk, Int.toNat_natCast]; exact hL
  have zl : (tx Z).length ≤ 100 := by rw [tx_length]; exact lZ
  have yl1 : (tx H).length ≤ 8 := by rw [tx_length]; exact lH
  have yl2 : (tx T.reverse).length ≤ 8 := by rw [tx_length, List.length_reverse]; exact lT
  have zl2 : (tx Z2).length ≤ 100 := by rw [tx_length]; exact lZ2
  k_steps
  unfold Stop
  refine item_any ⟨_, (N _ nT).1, rfl, _, rfl⟩ (by omega) (by omega) xT ?_
  k_steps
  unfold Stop
  refine item_any ⟨_, (N _ nW).1, rfl, _, rfl⟩ (by omega) (by omega) xW ?_
  k_steps
  unfold Stop
  refine' c_cram (tx Z) wk _ _ zl hw0 hw1 _ _ _ _ _ _ _ _ _ _ _ _ _ _ _ _ _ _ _ _ _ ?k1a ?k2a ?k3a ?k4a ?k5a ?k6a ?k7a True.intro ?_
  case k1a => k_asm
  case k2a => exact F
  case k3a => k_asm
  case k4a => k_asm
  case k5a => rfl
  case k6a => ktr_room
  case k7a => ktr_units
  intro r h9 tk9 F9 K9 hr
  obtain ⟨t9, rfl⟩ := hr
  rw [c1]
  have N9 := nkeep N K9
  clear N F K9
  k_steps
  unfold Stop
  rename Fr _ _ _ _ => F
  rename News _ _ _ _ => N
  refine item_any ⟨_, (N _ nH).1, rfl, _, rfl⟩ (by omega) (by omega) xH ?_
  k_steps
  unfold Stop
  refine' c_text ak va H hA (by omega) sH _ _ _ _ _ _ _ _ _ _ _ _ _ _ _ _ _ _ _ _ _ ?k1b ?k2b ?k3b ?k4b ?k5b ?k6b ?k7b ⟨_, (N _ nA).1, rfl, _, rfl⟩ ?_
  case k1b => k_asm
  case k2b => exact F
  case k3b => k_asm
  case k4b => k_asm
  case k5b => rfl
  case k6b => ktr_room
  case k7b => ktr_units
  intro r h9 tk9 F9 K9 hr
  obtain ⟨t8, rfl⟩ := hr
  have N9 := nkeep N K9
  clear N F K9
  k_steps
  unfold Stop
  rename Fr _ _ _ _ => F
  rename News _ _ _ _ => N
  refine item_any ⟨_, (N _ nL).1, rfl, _, rfl⟩ (by omega) (by omega) xL ?_
  k_steps
  unfold Stop
  refine sliceR F N ⟨_, (N _ nB).1, rfl, _, rfl⟩ .none .none (.int _ _) (by decide) (rev_pick hB) (by rw [hB.length]; omega) ?_
  intro S9 w9 h8 F8 N8 l8 I8
  k_steps
  unfold Stop
  refine' c_text S9 w9 T.reverse I8 (by rw [List.length_reverse]; omega) sT.rev _ _ _ _ _ _ _ _ _ _ _ _ _ _ _ _ _ _ _ _ _ ?k1c ?k2c ?k3c ?k4c ?k5c ?k6c ?k7c ⟨_, (N8 _ (.head _)).1, rfl, _, rfl⟩ ?_
  case k1c => k_asm
  case k2c => exact F8
  case k3c => k_asm
  case k4c => k_asm
  case k5c => rfl
  case k6c => ktr_room
  case k7c => ktr_units
  intro r h9 tk9 F9 K9 hr
  obtain ⟨t7, rfl⟩ := hr
  have N9 := nkeep (news_sub N8 (.cons _ (List.Sublist.refl _))) K9
  clear N F K9 N8 F8
  k_steps
  unfold Stop
  rename Fr _ _ _ _ => F
  rename News _ _ _ _ => N
  refine item_any ⟨_, (N _ nT).1, rfl, _, rfl⟩ (by omega) (by omega) xT2 ?_
  k_steps
  unfold Stop
  refine item_any ⟨_, (N _ nW).1, rfl, _, rfl⟩ (by omega) (by omega) xW ?_
  k_steps
  unfold Stop
  refine' c_cram (tx Z2) wk _ _ zl2 hw0 hw1 _ _ _ _ _ _ _ _ _ _ _ _ _ _ _ _ _ _ _ _ _ ?k1d ?k2d ?k3d ?k4d ?k5d ?k6d ?k7d True.intro ?_
  case k1d => k_asm
  case k2d => exact F
  case k3d => k_asm
  case k4d => k_asm
  case k5d => rfl
  case k6d => ktr_room
  case k7d => ktr_units
  intro r h9 tk9 F9 K9 hr
  obtain ⟨t6, rfl⟩ := hr
  rw [c2]
  have N9 := nkeep N K9
  clear N F K9
  k_steps
  unfold Stop
  rename Fr _ _ _ _ => F
  rename News _ _ _ _ => N
  refine item_any ⟨_, (N _ nT).1, rfl, _, rfl⟩ (by omega) (by omega) xT ?_
  k_steps
  unfold Stop
  refine' c_cram (tx Z) 8 _ _ zl (by decide) (by decide) _ _ _ _ _ _ _ _ _ _ _ _ _ _ _ _ _ _ _ _ _ ?k1e ?k2e ?k3e ?k4e ?k5e ?k6e ?k7e True.intro ?_
  case k1e => k_asm
  case k2e => exact F
  case k3e => k_asm
  case k4e => k_asm
  case k5e => rfl
  case k6e => ktr_room
  case k7e => ktr_units
  intro r h9 tk9 F9 K9 hr
  obtain ⟨t5, rfl⟩ := hr
  rw [c3]
  have N9 := nkeep N K9
  clear N F K9
  k_steps
  unfold Stop
  rename Fr _ _ _ _ => F
  rename News _ _ _ _ => N
  refine item_any ⟨_, (N _ nT).1, rfl, _, rfl⟩ (by omega) (by omega) xT ?_
  k_steps
  unfold Stop
  refine newList_K (vs := []) F N ?_ (by exact Nat.zero_le _)
  intro Da h7 F7 N7 l7
  k_steps
  unfold Stop
  refine newList_K (vs := []) F7 N7 ?_ (by exact Nat.zero_le _)
  intro Db h6 F6 N6 l6
  k_steps
  unfold Stop
  refine kup_newTuple F6 N6 ?_ (by simp [PySem.sizeLine_eq])
  intro Du h5 F5 N5 l5
  k_steps
  unfold Stop
  rename Fr _ _ _ _ => F4
  rename News _ _ _ _ => N4
  rw [kst_same (by simp [mk, mT, mW, mH, mL])] at F4
  unfold Stop at hret
  exact hret _ _ Du Da Db t9 _ F4 N4 l7 (l6 _ (.head _)) (l5 _ (.head _))
end
end
section
def rowBody : List Stmt := match lawK.drop 4 with
  | s :: _ => forBody s
  | _ => []
variable {w : World} {p : Program} {loose : List PySem.Str} {mean : ExcName → Option Value} {mg mb : PySem.Str → Option Value}
  {g h' : Heap} {gens : Array GenState} {drawn : Drawn} {tk : Nat} {os : OsState} {L : Addr} {m : PySem.Str → Option Value} {Q : Flow → Shared → Prop} {E : Value → Shared → Prop} {fa : Addr} {cd : Value}
section
theorem turn_2b (b : Bool) (I Da Db Du r : Addr) (io : Obj) (dy dn vr : List Value) (ky kn kA : Nat) (Z : List Int) (rest : List (Addr × Obj))
   (B0 : Below callerA base [] g) (F : Fr g L h' m) (X : (hd.heap_39 w.params).In g) (T0 : Top p loose mean mg mb g) (N : News g L h' ((I, io) :: (Db, W.listOf (List.toArray dn) kn) :: (Da, W.listOf (List.toArray dy) ky) :: rest))
   (o1 : Db ≠ I) (o2 : Da ≠ I) (o3 : Da ≠ Db) (o4 : ∀ q ∈ rest, q.1 ≠ Da) (o5 : ∀ q ∈ rest, q.1 ≠ Db)
   (nD : (Du, ({ cls := .type "tuple", data := .seq #[.ref Da, .ref Db] kA } : Obj)) ∈ rest) (nr : (r, W.listOf (List.toArray vr) 0) ∈ rest) (hZ : IntsAre vr Z) (sZ : Sg Z) (lZ : Z.length ≤ 100) (ly : dy.length ≤ 100) (ln : dn.length ≤ 100)
   (md : m (PySem.Str.ofString "due") = some (.ref Du)) (mr : m (PySem.Str.ofString "row") = some (.ref r)) (mf : m (PySem.Str.ofString "fits") = some (.bool b))
   (hret : Stop (∀ h1 tk1 t ky' kn', Fr g L h1 m → News g L h1 ((I, io) :: (Db, W.listOf (List.toArray (if b then dn else dn ++ [.str (tx Z) t])) kn') :: (Da, W.listOf (List.toArray (if b then dy ++ [.str (tx Z) t] else dy)) ky') :: rest) →
      Q .next { heap := h1, gens := gens, drawn := drawn, toks := tk1, os := os })) :
   wpAny (model PG w) (callerA.deeper (lawEnv L fa cd)) (execs (rowBody.drop 1) (lawEnv L fa cd)) Q (lawE w L fa cd E) { heap := h', gens := gens, drawn := drawn, toks := tk, os := os } := by
  k_with_none
  k_with "subscriptTail" => (refine stop ?_)
  k_with "call ref" => (refine stop ?_)
  k_with "subscriptTail Subscript" => (refine stop ?_)
  k_with "newList" => (refine stop ?_)
  k_with "exec Assign cons ListComp" => (refine stop ?_)
  k_with "CompSrc" => (refine stop ?_)
  k_with "subscriptTail Name Slice ref ref" => (refine stop ?_)
  k_with "call builtin:list.append" => (refine stop ?_)
  k_with "eval Name" => ((with_reducible show wpAny _ _ (eval (Expr.Name (PySem.Str.ofString "kept") _) _) _ _ _); refine stop ?_)
  k_with "eval Name" => ((with_reducible show wpAny _ _ (eval (Expr.Name (PySem.Str.ofString "full") _) _) _ _ _); refine stop ?_)
  k_with "subscriptTail IfExp" => (refine stop ?_)
  k_with "subscriptTail Name IfExp" => (refine stop ?_)
  unfold lawE; delta PG; revert X; k_fill; intro X
  conv in (List.drop 1 rowBody) => whnf
  unfold lawEnv
  generalize hsc : theScope 16 = sc9
  conv at hsc => lhs; whnf
  subst hsc
  unfold Stop at hret
  rw [← kst_same (m := m) (ps := [(PySem.Str.ofString "due", .ref Du), (PySem.Str.ofString "row", .ref r), (PySem.Str.ofString "fits", .bool b)]) (by simp [md, mr, mf])] at F
  have offB : ∀ q ∈ (Da, W.listOf (List.toArray dy) ky) :: rest, q.1 ≠ Db := fun q hq => by
    rcases List.mem_cons.mp hq with rfl | hq
    · exact o3
    · exact o5 q hq
  cases b
  · k_steps
    unfold Stop
    refine item_tupleT (News.isTup N (.tail _ (.tail _ (.tail _ nD)))) (by decide) (by decide) (j := 1) rfl rfl ?_
    k_steps
    unfold Stop
    refine' c_text r vr Z hZ lZ sZ _ _ _ _ _ _ _ _ _ _ _ _ _ _ _ _ _ _ _ _ _ ?k1 ?k2 ?k3 ?k4 ?k5 ?k6 ?k7 ⟨_, (N _ (.tail _ (.tail _ (.tail _ nr)))).1, rfl, _, rfl⟩ ?_
    case k1 => k_asm
    case k2 => exact F
    case k3 => k_asm
    case k4 => k_asm
    case k5 => rfl
    case k6 => ktr_room
    case k7 => ktr_units
    intro r' h9 tk9 F9 K9 hr
    obtain ⟨t9, rfl⟩ := hr
    have N9 := nkeep N K9
    clear N F K9
    k_steps
    unfold Stop
    refine append_K F9 N9 (.tail o1.symm (.head offB)) ?_ (by rw [PySem.sizeLine_eq, List.size_toArray]; omega)
    intro h8 F8 N8
    rw [kst_same (by simp [md, mr, mf])] at F8
    rw [List.push_toArray] at N8
    k_steps
    exact hret _ _ t9 _ _ F8 N8
  · k_steps
    unfold Stop
    refine item_tupleT (News.isTup N (.tail _ (.tail _ (.tail _ nD)))) (by decide) (by decide) (j := 0) rfl rfl ?_
    k_steps
    unfold Stop
    refine' c_text r vr Z hZ lZ sZ _ _ _ _ _ _ _ _ _ _ _ _ _ _ _ _ _ _ _ _ _ ?k1 ?k2 ?k3 ?k4 ?k5 ?k6 ?k7 ⟨_, (N _ (.tail _ (.tail _ (.tail _ nr)))).1, rfl, _, rfl⟩ ?_
    case k1 => k_asm
    case k2 => exact F
    case k3 => k_asm
    case k4 => k_asm
    case k5 => rfl
    case k6 => ktr_room
    case k7 => ktr_units
    intro r' h9 tk9 F9 K9 hr
    obtain ⟨t9, rfl⟩ := hr
    have N9 := nkeep N K9
    clear N F K9
    k_steps
    unfold Stop
    refine append_K F9 N9 (.tail o2.symm (.tail o3.symm (.head o4))) ?_ (by rw [PySem.sizeLine_eq, List.size_toArray]; omega)
    intro h8 F8 N8
    rw [kst_same (by simp [md, mr, mf])] at F8
    rw [List.push_toArray] at N8
    k_steps
    exact hret _ _ t9 _ _ F8 N8
end
end
section
section
variable {prog : Program} {w : World} {A : Around} {E : Value → Shared → Prop} {s : Shared}
theorem len_ints {l : Addr} {vs : List Value} {ns : List Int} {Q : Value → Shared → Prop} (hl : s.heap.IsList l vs.toArray) (hi : IntsAre vs ns) (hb : ns.length ≤ 1000)
    (h : ∀ t k, Q (.int (ns.length : Int) t) { s with toks := k }) : wpAny (model prog w) A (call (.builtin "len") [.ref l]) Q E s := by
  refine len_list_made hl hi.carried (by rw [List.length_map]; omega) ?_
  rw [List.length_map]
  exact h _ _
end
theorem fits_law (H T Z : List Int) : fitsB H T.reverse Z = (decide (Z.take H.length = H) && decide (Z.reverse.take T.length = T) && decide ((Z.length : Int) ≥ ((H.length + T.length : Nat) : Int))) := by
  unfold fitsB
  have a : (H <+: Z) ↔ Z.take H.length = H := ⟨fun h => (List.prefix_iff_eq_take.mp h).symm, fun h => List.prefix_iff_eq_take.mpr h.symm⟩
  have b : (T.reverse <:+ Z) ↔ Z.reverse.take T.length = T := by
    rw [← List.reverse_prefix, List.reverse_reverse]
    exact ⟨fun h => (List.prefix_iff_eq_take.mp h).symm, fun h => List.prefix_iff_eq_take.mpr h.symm⟩
  have c : (H.length + T.reverse.length ≤ Z.length) ↔ ((Z.length : Int) ≥ ((H.length + T.length : Nat) : Int)) := by rw [List.length_reverse]; omega
  rw [decide_eq_decide.mpr a, decide_eq_decide.mpr b, decide_eq_decide.mpr c]
def RowJ (m0 : PySem.Str → Option Value) (Da Db : Addr) (zs : List (List Int)) (P : List Int → Bool) (rest : List (Addr × Obj)) (i : Nat) (m : PySem.Str → Option Value) (nx : List (Addr × Obj)) : Prop :=
  ∃ (dy dn : List Value) (ky kn : Nat), nx = (Db, W.listOf (List.toArray dn) kn) :: (Da, W.listOf (List.toArray dy) ky) :: rest ∧ TxAre dy ((zs.take i).filter P) ∧ TxAre dn ((zs.take i).filter fun Z => !P Z) ∧
    ∀ z, z ≠ PySem.Str.ofString "row" → z ≠ PySem.Str.ofString "fits" → m z = m0 z
theorem row_get {m₁ m : PySem.Str → Option Value} {x : PySem.Str} {v u : Value} (hm : ∀ z, z ≠ PySem.Str.ofString "row" → z ≠ PySem.Str.ofString "fits" → m₁ z = m z) (h1 : x ≠ PySem.Str.ofString "row") (h2 : x ≠ PySem.Str.ofString "fits") (e : m x = some v) :
    (fun y => if y = PySem.Str.ofString "row" then some u else m₁ y) x = some v := (if_neg h1).trans ((hm _ h1 h2).trans e)
theorem row_end {g h1 : Heap} {L I Da Db : Addr} {io : Obj} {m m0 : PySem.Str → Option Value} {zs : List (List Int)} {P : List Int → Bool} {rest : List (Addr × Obj)} {i tk1 ky kn : Nat} {Z : List Int} {t : Tok} {dy dn : List Value} {b : Bool} {s : Shared}
    (hb : P Z = b) (hZ : zs[i]? = some Z) (hy : TxAre dy ((zs.take i).filter P)) (hn : TxAre dn ((zs.take i).filter fun Z => !P Z)) (hm : ∀ z, z ≠ PySem.Str.ofString "row" → z ≠ PySem.Str.ofString "fits" → m z = m0 z)
    (F : Fr g L h1 m) (N : News g L h1 ((I, io) :: (Db, W.listOf (List.toArray (if b then dn else dn ++ [.str (tx Z) t])) kn) :: (Da, W.listOf (List.toArray (if b then dy ++ [.str (tx Z) t] else dy)) ky) :: rest))
    (o1 : Db ≠ I) (o2 : Da ≠ I) (o3 : ∀ q ∈ rest, q.1 ≠ I) : TurnEnd g L I io (RowJ m0 Da Db zs P rest (i + 1)) s { s with heap := h1, toks := tk1 } := by
  refine ⟨h1, tk1, m, _, rfl, F, N, ?_, _, _, _, _, rfl, ?_, ?_, hm⟩
  · intro q hq
    rcases List.mem_cons.mp hq with rfl | hq
    · exact o1
    · rcases List.mem_cons.mp hq with rfl | hq
      · exact o2
      · exact o3 q hq
  · cases b
    · rw [flt_out hZ hb]; exact hy
    · rw [flt_in hZ hb]; exact hy.snoc Z t
  · cases b
    · rw [flt_in hZ (by rw [hb]; rfl)]; exact hn.snoc Z t
    · rw [flt_out hZ (by rw [hb]; rfl)]; exact hn
variable {w : World} {p : Program} {loose : List PySem.Str} {mean : ExcName → Option Value} {mg mb : PySem.Str → Option Value}
  {g h' : Heap} {gens : Array GenState} {drawn : Drawn} {tk : Nat} {os : OsState} {L : Addr} {m : PySem.Str → Option Value} {Q : Flow → Shared → Prop} {E : Value → Shared → Prop} {fa : Addr} {cd : Value}
section
local macro_rules | `(tactic| k_mem) => `(tactic| first | with_reducible assumption | (refine List.Mem.tail _ ?_; first | with_reducible assumption | (refine List.Mem.tail _ ?_; first | with_reducible assumption | (refine List.Mem.tail _ ?_; first | with_reducible assumption | (refine List.Mem.tail _ ?_; first | with_reducible assumption | (refine List.Mem.tail _ ?_; first | with_reducible assumption | (refine List.Mem.tail _ ?_; first | with_reducible assumption | (refine List.Mem.tail _ ?_; with_reducible assumption))))))))
local macro_rules | `(tactic| walk_at "exec For Name Name cons nil") => `(tactic| (k_here; (rename Fr _ _ _ _ => lF'); (with_unfolding_all refine' For_invVF lF' ?k1 ?k2 ?_; (case k1 => exact rfl); (case k2 => exact rfl); k_whole)))
theorem turn_2 (k : Nat) (kz : Int) (ktk tkk : Tok) (R K' Hd Tl ak bk Da Db Du : Addr) (rs va vb hls tls kls : List Value) (kA : Nat) (zs : List (List Int)) (H T : List Int) (o4 : Obj) (rest : List (Addr × Obj))
   (B0 : Below callerA base [] g) (F : Fr g L h' m) (X : (hd.heap_39 w.params).In g) (T0 : Top p loose mean mg mb g)
   (N : News g L h' ((Db, W.listOf (List.toArray []) 0) :: (Da, W.listOf (List.toArray []) 0) :: rest))
   (o3 : Da ≠ Db) (oA : ∀ q ∈ rest, q.1 ≠ Da) (oB : ∀ q ∈ rest, q.1 ≠ Db) (nD : (Du, ({ cls := .type "tuple", data := .seq #[.ref Da, .ref Db] kA } : Obj)) ∈ rest)
   (hk : kz = (k : Int)) (hk2 : k < 2) (nR : (R, W.listOf (List.toArray rs) 0) ∈ rest) (hR : RowsAre rs zs rest) (hzs : ∀ Z ∈ zs, Sg Z ∧ Z.length ≤ 100) (hz : zs.length ≤ 100)
   (n4 : (L + 1 + 1 + 1 + 1, o4) ∈ rest) (d4 : o4.data = .cell (some (.ref K'))) (nK : (K', LCg.lst kls) ∈ rest) (hK : kls[k]? = some (.int ((H.length + T.length : Nat) : Int) tkk))
   (nH : (Hd, LCg.lst hls) ∈ rest) (hH : hls[k]? = some (.ref ak)) (nA : (ak, W.listOf (List.toArray va) 0) ∈ rest) (hA : IntsAre va H)
   (nL : (Tl, LCg.lst tls) ∈ rest) (hL : tls[k]? = some (.ref bk)) (nB : (bk, W.listOf (List.toArray vb) 0) ∈ rest) (hB : IntsAre vb T)
   (lH : H.length ≤ 8) (lT : T.length ≤ 8)
   (mk : m (PySem.Str.ofString "k") = some (.int kz ktk)) (mR : m (PySem.Str.ofString "rows") = some (.ref R)) (mH : m (PySem.Str.ofString "head") = some (.ref Hd)) (mL : m (PySem.Str.ofString "tail") = some (.ref Tl)) (mD : m (PySem.Str.ofString "due") = some (.ref Du))
   (hret : Stop (∀ h1 tk1 m1 dy dn ky kn, Fr g L h1 m1 → (∀ z, z ≠ PySem.Str.ofString "row" → z ≠ PySem.Str.ofString "fits" → m1 z = m z) → News g L h1 ((Db, W.listOf (List.toArray dn) kn) :: (Da, W.listOf (List.toArray dy) ky) :: rest) →
      TxAre dy (zs.filter (fitsB H T.reverse)) → TxAre dn (zs.filter fun Z => !fitsB H T.reverse Z) →
      wpAny (model PG w) (callerA.deeper (lawEnv L fa cd)) (execs (lawK.drop 5) (lawEnv L fa cd)) Q (lawE w L fa cd E) { heap := h1, gens := gens, drawn := drawn, toks := tk1, os := os })) :
   wpAny (model PG w) (callerA.deeper (lawEnv L fa cd)) (execs (lawK.drop 4) (lawEnv L fa cd)) Q (lawE w L fa cd E) { heap := h', gens := gens, drawn := drawn, toks := tk, os := os } := by
  k_with_none
  k_with "subscriptTail" => (refine stop ?_)
  k_with "call ref" => (refine stop ?_)
  k_with "subscriptTail Subscript" => (refine stop ?_)
  k_with "newList" => (refine stop ?_)
  k_with "exec Assign cons ListComp" => (refine stop ?_)
  k_with "CompSrc" => (refine stop ?_)
  k_with "subscriptTail Name Slice ref ref" => (refine stop ?_)
  k_with "call builtin:list.append" => (refine stop ?_)
  k_with "eval Name" => ((with_reducible show wpAny _ _ (eval (Expr.Name (PySem.Str.ofString "kept") _) _) _ _ _); refine stop ?_)
  k_with "eval Name" => ((with_reducible show wpAny _ _ (eval (Expr.Name (PySem.Str.ofString "full") _) _) _ _ _); refine stop ?_)
  k_with "call builtin:len" => (refine stop ?_)
  k_with "compareOp Eq ref ref" => (refine stop ?_)
  k_with "pyIter ref" => (refine stop ?_)
  k_with "execs cons" => ((with_reducible show wpAny _ _ (execs (Stmt.Expr _ _ :: _) _) _ _ _); refine stop ?_)
  unfold lawE; delta PG; revert X; k_fill; intro X
  conv in (List.drop 4 lawK) => whnf
  unfold lawEnv
  generalize hsc : theScope 16 = sc9
  conv at hsc => lhs; whnf
  subst hsc
  have xH : hls[(kz).toNat]? = some (.ref ak) := by rw [hk, Int.toNat_natCast]; exact hH
  have xL : tls[(kz).toNat]? = some (.ref bk) := by rw [hk, Int.toNat_natCast]; exact hL
  have xK : kls[(kz).toNat]? = some (.int ((H.length + T.length : Nat) : Int) tkk) := by rw [hk, Int.toNat_natCast]; exact hK
  unfold Stop at hret
  rw [← kst_same (m := m) (ps := [(PySem.Str.ofString "rows", .ref R)]) (by simp [mR])] at F
  k_steps
  unfold Stop
  rename Fr _ _ _ _ => F9
  refine iter_vals (RowJ m Da Db zs (fitsB H T.reverse) rest) rfl (nn := 0) (N _ (.tail _ (.tail _ nR))).1 (N _ (.tail _ (.tail _ nR))).2.1 F9 N ⟨[], [], 0, 0, rfl, .nil, .nil, fun z _ _ => by rw [kst_same (by simp [mR])]⟩ ?_ ?_ ?_
  · rintro i m1 nx h ⟨dy, dn, ky, kn, rfl, _⟩ _ N1
    exact (N1 _ (.tail _ (.tail _ nR))).1
  · rintro i v m₁ nx h tk I io hv off ⟨dy, dn, ky, kn, rfl, hy, hn, hm⟩ F1 N1
    obtain ⟨r, vr, Z, rfl, hZ, hm9, hI⟩ := hR.2 i v hv
    have hZm : Z ∈ zs := List.mem_of_getElem? hZ
    obtain ⟨sZ, lZ⟩ := hzs Z hZm
    clear N
    have hks : ∀ q ∈ [(PySem.Str.ofString "row", Value.ref r), (PySem.Str.ofString "k", .int kz ktk), (PySem.Str.ofString "head", .ref Hd), (PySem.Str.ofString "tail", .ref Tl), (PySem.Str.ofString "due", .ref Du)], (fun y => if y = PySem.Str.ofString "row" then some (Value.ref r) else m₁ y) q.1 = some q.2 := by
      intro q hq
      simp only [List.mem_cons, List.not_mem_nil, or_false] at hq
      rcases hq with rfl | rfl | rfl | rfl | rfl
      · exact if_pos rfl
      · exact row_get (x := PySem.Str.ofString "k") hm (by decide +kernel) (by decide +kernel) mk
      · exact row_get (x := PySem.Str.ofString "head") hm (by decide +kernel) (by decide +kernel) mH
      · exact row_get (x := PySem.Str.ofString "tail") hm (by decide +kernel) (by decide +kernel) mL
      · exact row_get (x := PySem.Str.ofString "due") hm (by decide +kernel) (by decide +kernel) mD
    have oDb : Db ≠ I := off _ (.head _)
    have oDa : Da ≠ I := off _ (.tail _ (.head _))
    have oI : ∀ q ∈ rest, q.1 ≠ I := fun q hq => off q (.tail _ (.tail _ hq))
    have by1 : dy.length ≤ 100 := by rw [hy.length]; exact Nat.le_trans (List.length_filter_le _ _) (by rw [List.length_take]; omega)
    have bn1 : dn.length ≤ 100 := by rw [hn.length]; exact Nat.le_trans (List.length_filter_le _ _) (by rw [List.length_take]; omega)
    have md2 : ∀ b : Bool, (fun y => if y = PySem.Str.ofString "fits" then some (Value.bool b) else (fun y => if y = PySem.Str.ofString "row" then some (Value.ref r) else m₁ y) y) (PySem.Str.ofString "due") = some (.ref Du) := fun b => (if_neg (by decide +kernel)).trans (hks (PySem.Str.ofString "due", .ref Du) (by simp))
    have mr2 : ∀ b : Bool, (fun y => if y = PySem.Str.ofString "fits" then some (Value.bool b) else (fun y => if y = PySem.Str.ofString "row" then some (Value.ref r) else m₁ y) y) (PySem.Str.ofString "row") = some (.ref r) := fun b => (if_neg (by decide +kernel)).trans (if_pos rfl)
    have hm2 : ∀ b : Bool, ∀ z, z ≠ PySem.Str.ofString "row" → z ≠ PySem.Str.ofString "fits" → (fun y => if y = PySem.Str.ofString "fits" then some (Value.bool b) else (fun y => if y = PySem.Str.ofString "row" then some (Value.ref r) else m₁ y) y) z = m z := fun b z h1 h2 => (if_neg h2).trans ((if_neg h1).trans (hm z h1 h2))
    rw [← kst_same (m := fun y => if y = PySem.Str.ofString "row" then some (Value.ref r) else m₁ y) hks] at F1
    k_steps
    unfold Stop
    refine item_any ⟨_, (N1 _ (.tail _ (.tail _ (.tail _ nH)))).1, rfl, _, rfl⟩ (by omega) (by omega) xH ?_
    k_steps
    unfold Stop
    refine len_ints ⟨_, (N1 _ (.tail _ (.tail _ (.tail _ nA)))).1, rfl, _, rfl⟩ hA (by omega) ?_
    intro t1 kk1
    k_steps
    unfold Stop
    refine sliceR F1 N1 ⟨_, (N1 _ (.tail _ (.tail _ (.tail _ hm9)))).1, rfl, _, rfl⟩ .none (.int _ _) .none (by decide) (kmk_upto hI (by omega)) (by rw [hI.length]; omega) ?_
    intro S1 w1 h1 F2 N2 l2 I2
    rw [Int.toNat_natCast] at I2
    k_steps
    unfold Stop
    refine item_any ⟨_, (N2 _ (.tail _ (.tail _ (.tail _ (.tail _ nH))))).1, rfl, _, rfl⟩ (by omega) (by omega) xH ?_
    k_steps
    unfold Stop
    refine eq_intsK ⟨_, (N2 _ (.head _)).1, rfl, _, rfl⟩ I2 ⟨_, (N2 _ (.tail _ (.tail _ (.tail _ (.tail _ nA))))).1, rfl, _, rfl⟩ hA (by ktr_units) ?_
    have nr9 := hm9
    by_cases e1 : Z.take H.length = H
    · rw [decide_eq_true e1]
      k_steps
      unfold Stop
      refine sliceR F2 N2 ⟨_, (N2 _ (.tail _ (.tail _ (.tail _ (.tail _ hm9))))).1, rfl, _, rfl⟩ .none .none (.int _ _) (by decide) (rev_pick hI) (by rw [hI.length]; omega) ?_
      intro S2 w2 h2 F3 N3 l3 I3
      k_steps
      unfold Stop
      refine item_any ⟨_, (N3 _ (.tail _ (.tail _ (.tail _ (.tail _ (.tail _ nL)))))).1, rfl, _, rfl⟩ (by omega) (by omega) xL ?_
      k_steps
      unfold Stop
      refine len_ints ⟨_, (N3 _ (.tail _ (.tail _ (.tail _ (.tail _ (.tail _ nB)))))).1, rfl, _, rfl⟩ hB (by omega) ?_
      intro t2 kk2
      k_steps
      unfold Stop
      refine sliceR F3 N3 ⟨_, (N3 _ (.head _)).1, rfl, _, rfl⟩ .none (.int _ _) .none (by decide) (kmk_upto I3 (by omega)) (by rw [I3.length, List.length_reverse]; omega) ?_
      intro S3 w3 h3 F4 N4 l4 I4
      rw [Int.toNat_natCast] at I4
      k_steps
      unfold Stop
      refine item_any ⟨_, (N4 _ (.tail _ (.tail _ (.tail _ (.tail _ (.tail _ (.tail _ nL))))))).1, rfl, _, rfl⟩ (by omega) (by omega) xL ?_
      k_steps
      unfold Stop
      refine eq_intsK ⟨_, (N4 _ (.head _)).1, rfl, _, rfl⟩ I4 ⟨_, (N4 _ (.tail _ (.tail _ (.tail _ (.tail _ (.tail _ (.tail _ nB))))))).1, rfl, _, rfl⟩ hB (by ktr_units) ?_
      by_cases e2 : Z.reverse.take T.length = T
      · rw [decide_eq_true e2]
        k_steps
        unfold Stop
        refine len_ints ⟨_, (N4 _ (.tail _ (.tail _ (.tail _ (.tail _ (.tail _ (.tail _ hm9))))))).1, rfl, _, rfl⟩ hI (by omega) ?_
        intro t3 kk3
        k_steps
        unfold Stop
        refine nameX_C N4 (by rfl) (.tail _ (.tail _ (.tail _ (.tail _ (.tail _ (.tail _ n4)))))) d4 ?_ (by rfl) (by rfl)
        k_steps
        unfold Stop
        refine item_any ⟨_, (N4 _ (.tail _ (.tail _ (.tail _ (.tail _ (.tail _ (.tail _ nK))))))).1, rfl, _, rfl⟩ (by omega) (by omega) xK ?_
        k_steps
        unfold Stop
        rename Fr _ _ _ _ => F9
        rename News _ _ _ _ => N9
        rw [kst_same hks] at F9
        refine turn_2b (decide ((Z.length : Int) ≥ ((H.length + T.length : Nat) : Int))) I Da Db Du r io dy dn vr ky kn kA Z rest B0 F9 X T0 (news_sub N9 (.cons _ (.cons _ (.cons _ (List.Sublist.refl _))))) oDb oDa o3 oA oB nD nr9 hI sZ lZ by1 bn1 (md2 _) (mr2 _) (if_pos rfl) ?_
        intro h9 tk9 t9 ky9 kn9 F8 N8
        exact row_end (by rw [fits_law, decide_eq_true e1, decide_eq_true e2]; rfl) hZ hy hn (hm2 _) F8 N8 oDb oDa oI
      · rw [decide_eq_false e2]
        k_steps
        unfold Stop
        rename Fr _ _ _ _ => F9
        rename News _ _ _ _ => N9
        rw [kst_same hks] at F9
        refine turn_2b false I Da Db Du r io dy dn vr ky kn kA Z rest B0 F9 X T0 (news_sub N9 (.cons _ (.cons _ (.cons _ (List.Sublist.refl _))))) oDb oDa o3 oA oB nD nr9 hI sZ lZ by1 bn1 (md2 _) (mr2 _) (if_pos rfl) ?_
        intro h9 tk9 t9 ky9 kn9 F8 N8
        exact row_end (by rw [fits_law, decide_eq_true e1, decide_eq_false e2]; rfl) hZ hy hn (hm2 _) F8 N8 oDb oDa oI
    · rw [decide_eq_false e1]
      k_steps
      unfold Stop
      rename Fr _ _ _ _ => F9
      rename News _ _ _ _ => N9
      rw [kst_same hks] at F9
      refine turn_2b false I Da Db Du r io dy dn vr ky kn kA Z rest B0 F9 X T0 (news_sub N9 (.cons _ (List.Sublist.refl _))) oDb oDa o3 oA oB nD nr9 hI sZ lZ by1 bn1 (md2 _) (mr2 _) (if_pos rfl) ?_
      intro h9 tk9 t9 ky9 kn9 F8 N8
      exact row_end (by rw [fits_law, decide_eq_false e1]; rfl) hZ hy hn (hm2 _) F8 N8 oDb oDa oI
  · rintro m₁ nx h tk ⟨dy, dn, ky, kn, rfl, hy, hn, hm⟩ F1 N1
    rw [hR.1, List.take_length] at hy hn
    exact hret _ _ _ dy dn ky kn F1 hm N1 hy hn
end
end
section
theorem txs_read {h : Heap} : ∀ {vs : List Value} {zs : List (List Int)}, TxAre vs zs → ReadsAll h vs (zs.map fun Z => PyData.str (tx Z)) []
  | _, _, .nil => .nil
  | _, _, .cons Z t r => readsAll_cons_val (.str _ _) (txs_read r)
theorem sgn_small (i : Int) : sgn i < 1114112 := by
  unfold sgn
  match i.toNat with
  | 0 | 1 | 2 | 3 | 4 | 5 => decide
  | n + 6 =>
    show (if h : n + 6 < 6 then _ else 0) < 1114112
    rw [dif_neg (by omega)]; decide
theorem tx_ok (Z : List Int) : PyData.strOk (tx Z) = true := by
  unfold PyData.strOk tx
  rw [Array.all_eq_true']
  intro c hc
  simp only [List.mem_toArray, List.mem_map] at hc
  obtain ⟨i, _, rfl⟩ := hc
  exact decide_eq_true (sgn_small i)
theorem txs_lay : ∀ zs : List (List Int), PyData.canLayAll0 (zs.map fun Z => PyData.str (tx Z)) = true
  | [] => rfl
  | _ :: r => by simp [PyData.canLayAll0, PyData.canLay0, txs_lay r, tx_ok]
theorem txs_depth : ∀ zs : List (List Int), PyData.depthAll (zs.map fun Z => PyData.str (tx Z)) = 0
  | [] => rfl
  | _ :: r => by simp [PyData.depthAll, PyData.depth, txs_depth r]
def duo (ys ns : List (List Int)) : PyData := .tuple [.list (ys.map fun Z => PyData.str (tx Z)), .list (ns.map fun Z => PyData.str (tx Z))]
theorem duo_shaped (ys ns : List (List Int)) : SeqAt.shaped (duo ys ns) = true := by
  simp [duo, SeqAt.shaped, PyData.canLay0, PyData.canLayAll0, PyData.depth, PyData.depthAll, txs_lay, txs_depth]
theorem texts_noMix : ∀ zs : List (List Int), SeqAt.noMixAll (zs.map fun Z => PyData.str (tx Z)) (zs.map fun Z => PyData.str (tx Z)) = true
  | [] => by simp [SeqAt.noMixAll]
  | _ :: r => by simp [SeqAt.noMixAll, SeqAt.noMix, texts_noMix r]
section
variable {prog : Program} {w : World} {A : Around} {E : Value → Shared → Prop} {s : Shared}
theorem duo_ne {a b y n y' n' : Addr} {yv nv yv' nv' : List Value} {ky kn kd ky' kn' kd' : Nat} {ys ns : List (List Int)} {Q : Value → Shared → Prop}
    (ha : s.heap.get? a = some { cls := .type "tuple", data := .seq #[.ref y, .ref n] kd }) (hy : s.heap.get? y = some (W.listOf (List.toArray yv) ky)) (hn : s.heap.get? n = some (W.listOf (List.toArray nv) kn)) (ty : TxAre yv ys) (tn : TxAre nv ns)
    (hb : s.heap.get? b = some { cls := .type "tuple", data := .seq #[.ref y', .ref n'] kd' }) (hy' : s.heap.get? y' = some (W.listOf (List.toArray yv') ky')) (hn' : s.heap.get? n' = some (W.listOf (List.toArray nv') kn')) (ty' : TxAre yv' ys) (tn' : TxAre nv' ns)
    (hu : A.units + 64 < cLine) (h : Q (.bool false) s) : wpAny (model prog w) A (compareOp .NotEq (.ref a) (.ref b)) Q E s := by
  have r1 : Reads s.heap (.ref a) (duo ys ns) _ := reads_tuple_at ha rfl rfl (.cons (reads_list_at hy rfl rfl (txs_read ty)) (.cons (reads_list_at hn rfl rfl (txs_read tn)) .nil))
  have r2 : Reads s.heap (.ref b) (duo ys ns) _ := reads_tuple_at hb rfl rfl (.cons (reads_list_at hy' rfl rfl (txs_read ty')) (.cons (reads_list_at hn' rfl rfl (txs_read tn')) .nil))
  refine ne_dataH_same r1 r2 (duo_shaped ys ns) (duo_shaped ys ns) hu ?_ ?_
  · simp [duo, SeqAt.noMix, SeqAt.noMixAll, texts_noMix]
  · rw [PySem.Spec.same_self]; exact h
end

variable {w : World} {p : Program} {loose : List PySem.Str} {mean : ExcName → Option Value} {mg mb : PySem.Str → Option Value}
  {g h' : Heap} {gens : Array GenState} {drawn : Drawn} {tk : Nat} {os : OsState} {L : Addr} {m : PySem.Str → Option Value} {Q : Flow → Shared → Prop} {E : Value → Shared → Prop} {fa : Addr} {cd : Value}
theorem keep61 {h₀ h h9 : Heap} {L : Addr} {rest : List (Addr × Obj)} {o1 : Obj} (N : News h₀ L h rest) (K : ∀ b o, @Ne Nat b 61 → h.get? b = some o → h9.get? b = some o) (off : ∀ q ∈ rest, @Ne Nat q.1 61) (N61 : News h₀ L h9 [(61, o1)]) : News h₀ L h9 ((61, o1) :: rest) := by
  intro q hq
  rcases List.mem_cons.mp hq with rfl | hq
  · exact N61 _ (.head _)
  · exact ⟨K _ _ (off q hq) (N q hq).1, (N q hq).2⟩
theorem tab_extra {g h : Heap} {L St : Addr} {m : PySem.Str → Option Value} {ps ss : Array Value} {k : Nat} (F : Fr g L h m) (hp : TabSt h ps) (hSt : h.get? St = some (W.listOf ss k)) :
    ∃ ex : List (Addr × Obj), News g L h ex ∧ (∀ q ∈ ex, q.1 ≠ St) ∧ ∀ h8 m8, Fr g L h8 m8 → News g L h8 ex → TabSt h8 ps := by
  rcases hp with rfl | ⟨c', rfl, hc⟩
  · exact ⟨[], fun q hq => (by cases hq), fun q hq => (by cases hq), fun _ _ _ _ => .inl rfl⟩
  · have hc0 := hc
    obtain ⟨c, oc, vs, tq, e1, e2, e3, e4⟩ := hc
    cases e1
    cases q : g.get? c' with
    | some o =>
      have e5 := F.keep _ _ q
      rw [e2] at e5
      cases e5
      exact ⟨[], fun q hq => (by cases hq), fun q hq => (by cases hq), fun h8 m8 F8 _ => .inr ⟨c', rfl, c', oc, vs, tq, rfl, F8.keep _ _ q, e3, e4⟩⟩
    | none =>
      refine ⟨[(c', oc)], fun p hp => ?_, fun p hp => ?_, fun h8 m8 _ N8 => .inr ⟨c', rfl, c', oc, vs, tq, rfl, (N8 _ (.head _)).1, e3, e4⟩⟩
      · rw [List.mem_singleton.mp hp]
        refine ⟨e2, fun hL => ?_, q⟩
        obtain ⟨o', e', es, ep, hd, _⟩ := LCg.ns_obj F.ns
        rw [show c' = L from hL, e'] at e2
        cases e2
        rw [hd] at e3
        cases e3
      · rw [List.mem_singleton.mp hp]
        intro hS
        rw [show c' = St from hS, hSt] at e2
        cases e2
        cases e3
section
theorem turn_3 (k : Nat) (kz : Int) (ktk t9 : Tok) (Tx St Da Db Du : Addr) (ts ss dy dn : List Value) (kss ky kn kA : Nat) (zs : List (List Int)) (H T : List Int) (ps : Array Value) (rest : List (Addr × Obj))
   (B0 : Below callerA base [] g) (F : Fr g L h' m) (X : (hd.heap_39 w.params).In g) (T0 : Top p loose mean mg mb g) (C : CodeHd g 65 61)
   (N : News g L h' ((St, W.listOf (List.toArray ss) kss) :: (61, tabObj ps) :: rest)) (hps : TabSt h' ps) (o61 : ∀ q ∈ rest, @Ne Nat q.1 61) (oS : ∀ q ∈ rest, q.1 ≠ St) (oS61 : @Ne Nat St 61)
   (hk : kz = (k : Int)) (hk2 : k < 2) (hss : ss.length = k) (nT : (Tx, LCg.lst ts) ∈ rest) (hT : TxAre ts zs) (hzs : ∀ Z ∈ zs, Sg Z ∧ Z.length ≤ 100) (hz : zs.length ≤ 100)
   (nDu : (Du, ({ cls := .type "tuple", data := .seq #[.ref Da, .ref Db] kA } : Obj)) ∈ rest) (nDa : (Da, W.listOf (List.toArray dy) ky) ∈ rest) (nDb : (Db, W.listOf (List.toArray dn) kn) ∈ rest)
   (hy : TxAre dy (zs.filter (fitsB H T.reverse))) (hn : TxAre dn (zs.filter fun Z => !fitsB H T.reverse Z)) (sH : Sg H) (sT : Sg T) (lH : H.length ≤ 8) (lT : T.length ≤ 8)
   (mk : m (PySem.Str.ofString "k") = some (.int kz ktk)) (mS : m (PySem.Str.ofString "stands") = some (.ref St)) (mT : m (PySem.Str.ofString "texts") = some (.ref Tx)) (mD : m (PySem.Str.ofString "due") = some (.ref Du))
   (ms : m (PySem.Str.ofString "short") = some (.str (tx H ++ PySem.Str.ofString "..." ++ tx T.reverse) t9))
   (hret : Stop (∀ h1 tk1 kss1 ps1 D Y N1 yv nv ky1 kn1 kd, Fr g L h1 m → TabSt h1 ps1 → News g L h1 ((St, W.listOf (List.toArray (ss ++ [.ref D])) kss1) :: (61, tabObj ps1) :: (D, { cls := .type "tuple", data := .seq #[.ref Y, .ref N1] kd }) :: (Y, W.listOf (List.toArray yv) ky1) :: (N1, W.listOf (List.toArray nv) kn1) :: rest) →
      (∀ q ∈ (D, ({ cls := .type "tuple", data := .seq #[.ref Y, .ref N1] kd } : Obj)) :: (Y, W.listOf (List.toArray yv) ky1) :: (N1, W.listOf (List.toArray nv) kn1) :: rest, @Ne Nat q.1 61 ∧ q.1 ≠ St) →
      TxAre yv (zs.filter (fitsB H T.reverse)) → (∀ q ∈ rest, D ≠ q.1 ∧ Y ≠ q.1) → Q .next { heap := h1, gens := gens, drawn := drawn, toks := tk1, os := os })) :
   wpAny (model PG w) (callerA.deeper (lawEnv L fa cd)) (execs (lawK.drop 5) (lawEnv L fa cd)) Q (lawE w L fa cd E) { heap := h', gens := gens, drawn := drawn, toks := tk, os := os } := by
  k_with_none
  k_with "subscriptTail" => (refine stop ?_)
  k_with "call ref" => (refine stop ?_)
  k_with "subscriptTail Subscript" => (refine stop ?_)
  k_with "newList" => (refine stop ?_)
  k_with "exec Assign cons ListComp" => (refine stop ?_)
  k_with "CompSrc" => (refine stop ?_)
  k_with "subscriptTail Name Slice ref ref" => (refine stop ?_)
  k_with "call builtin:list.append" => (refine stop ?_)
  k_with "eval Name" => ((with_reducible show wpAny _ _ (eval (Expr.Name (PySem.Str.ofString "kept") _) _) _ _ _); refine stop ?_)
  k_with "eval Name" => ((with_reducible show wpAny _ _ (eval (Expr.Name (PySem.Str.ofString "full") _) _) _ _ _); refine stop ?_)
  k_with "compareOp NotEq ref ref" => (refine stop ?_)
  unfold lawE; delta PG; revert X; k_fill; intro X
  conv in (List.drop 5 lawK) => whnf
  unfold lawEnv
  generalize hsc : theScope 16 = sc9
  conv at hsc => lhs; whnf
  subst hsc
  have hks : ∀ q ∈ [(PySem.Str.ofString "k", Value.int kz ktk), (PySem.Str.ofString "stands", .ref St), (PySem.Str.ofString "texts", .ref Tx), (PySem.Str.ofString "due", .ref Du), (PySem.Str.ofString "short", .str (tx H ++ PySem.Str.ofString "..." ++ tx T.reverse) t9)], m q.1 = some q.2 := by simp [mk, mS, mT, mD, ms]
  unfold Stop at hret
  rw [← kst_same (m := m) hks] at F
  have nSt : (St, W.listOf (List.toArray ss) kss) ∈ (St, W.listOf (List.toArray ss) kss) :: (61, tabObj ps) :: rest := .head _
  k_steps
  unfold Stop
  refine c_parted Tx _ ts zs hT hz hzs H T.reverse sH sT.rev (by omega) (by rw [List.length_reverse]; omega) t9 ps _ _ _ _ _ _ _ _ _ _ _ _ _ _ _ _ _ _ _ _ _ B0 F X T0 rfl (by ktr_room) (by ktr_units) C (news_sub N (.cons _ (.cons_cons _ (List.nil_sublist _)))) hps (N _ (.tail _ (.tail _ nT))).1 (o61 _ nT) ?_
  intro r h9 tk9 ps9 F9 N61 hps9 K9 hr
  obtain ⟨D, Y, N1, yv, nv, ky1, kn1, kd, rfl, ⟨fD, fY, fN⟩, hD, hY, hN, hyv, hnv⟩ := hr
  have gone : ∀ {b o}, h'.get? b = none → (b, o) ∈ (St, W.listOf (List.toArray ss) kss) :: (61, tabObj ps) :: rest → False := fun e q => by rw [(N _ q).1] at e; cases e
  have N4 := keep61 (news_sub N (.cons_cons _ (.cons _ (List.Sublist.refl _)))) K9 (fun q hq => by
    rcases List.mem_cons.mp hq with rfl | hq
    · exact oS61
    · exact o61 q hq) N61
  have N5 := news_add F (news_add F (news_add F N4 fN hN) fY hY) fD hD
  have N6 : News g L h9 ((St, W.listOf (List.toArray ss) kss) :: (61, tabObj ps9) :: (D, { cls := .type "tuple", data := .seq #[.ref Y, .ref N1] kd }) :: (Y, W.listOf (List.toArray yv) ky1) :: (N1, W.listOf (List.toArray nv) kn1) :: rest) := by
    intro q hq
    rcases List.mem_cons.mp hq with rfl | hq
    · exact N5 _ (.tail _ (.tail _ (.tail _ (.tail _ (.head _)))))
    rcases List.mem_cons.mp hq with rfl | hq
    · exact N5 _ (.tail _ (.tail _ (.tail _ (.head _))))
    rcases List.mem_cons.mp hq with rfl | hq
    · exact N5 _ (.head _)
    rcases List.mem_cons.mp hq with rfl | hq
    · exact N5 _ (.tail _ (.head _))
    rcases List.mem_cons.mp hq with rfl | hq
    · exact N5 _ (.tail _ (.tail _ (.head _)))
    · exact N5 _ (.tail _ (.tail _ (.tail _ (.tail _ (.tail _ hq)))))
  have offs : ∀ q ∈ (D, ({ cls := .type "tuple", data := .seq #[.ref Y, .ref N1] kd } : Obj)) :: (Y, W.listOf (List.toArray yv) ky1) :: (N1, W.listOf (List.toArray nv) kn1) :: rest, @Ne Nat q.1 61 ∧ q.1 ≠ St := by
    have one : ∀ b, h'.get? b = none → @Ne Nat b 61 ∧ b ≠ St := fun b e => ⟨fun q => by subst q; exact gone e (.tail _ (.head _)), fun q => by subst q; exact gone e (.head _)⟩
    intro q hq
    rcases List.mem_cons.mp hq with rfl | hq
    · exact one _ fD
    rcases List.mem_cons.mp hq with rfl | hq
    · exact one _ fY
    rcases List.mem_cons.mp hq with rfl | hq
    · exact one _ fN
    · exact ⟨o61 q hq, oS q hq⟩
  have offS : ∀ q ∈ (61, tabObj ps9) :: (D, ({ cls := .type "tuple", data := .seq #[.ref Y, .ref N1] kd } : Obj)) :: (Y, W.listOf (List.toArray yv) ky1) :: (N1, W.listOf (List.toArray nv) kn1) :: rest, q.1 ≠ St := by
    intro q hq
    rcases List.mem_cons.mp hq with rfl | hq
    · exact Ne.symm oS61
    · exact (offs q hq).2
  have apart : ∀ q ∈ rest, D ≠ q.1 ∧ Y ≠ q.1 := fun q hq =>
    ⟨fun e => gone (b := q.1) (o := q.2) (by rw [← e]; exact fD) (.tail _ (.tail _ hq)), fun e => gone (b := q.1) (o := q.2) (by rw [← e]; exact fY) (.tail _ (.tail _ hq))⟩
  clear N F K9 N4 N5 N61
  k_steps
  unfold Stop
  obtain ⟨ex, Nex, oex, hex⟩ := tab_extra F9 hps9 (N6 _ (.head _)).1
  have N7 : News g L h9 ((St, W.listOf (List.toArray ss) kss) :: (((61, tabObj ps9) :: (D, { cls := .type "tuple", data := .seq #[.ref Y, .ref N1] kd }) :: (Y, W.listOf (List.toArray yv) ky1) :: (N1, W.listOf (List.toArray nv) kn1) :: rest) ++ ex)) := by
    intro q hq
    rcases List.mem_cons.mp hq with rfl | hq
    · exact N6 _ (.head _)
    · rcases List.mem_append.mp hq with hq | hq
      · exact N6 _ (.tail _ hq)
      · exact Nex _ hq
  refine append_K F9 N7 (Upd.head fun q hq => ?_) ?_ (by rw [PySem.sizeLine_eq, List.size_toArray]; omega)
  · rcases List.mem_append.mp hq with hq | hq
    · exact offS q hq
    · exact oex q hq
  intro h8 F8 N8
  rw [List.push_toArray] at N8
  have hps8 : TabSt h8 ps9 := hex _ _ F8 fun q hq => N8 _ (.tail _ (List.mem_append_right _ hq))
  have N8 : News g L h8 ((St, W.listOf (List.toArray (ss ++ [.ref D])) (kss + 1)) :: (61, tabObj ps9) :: (D, { cls := .type "tuple", data := .seq #[.ref Y, .ref N1] kd }) :: (Y, W.listOf (List.toArray yv) ky1) :: (N1, W.listOf (List.toArray nv) kn1) :: rest) := by
    intro q hq
    rcases List.mem_cons.mp hq with rfl | hq
    · exact N8 _ (.head _)
    · exact N8 _ (.tail _ (List.mem_append_left _ hq))
  k_steps
  unfold Stop
  have xS : (ss ++ [Value.ref D])[kz.toNat]? = some (.ref D) := by
    rw [hk, Int.toNat_natCast, ← hss]
    simp
  refine item_any ⟨_, (N8 _ (.head _)).1, rfl, _, rfl⟩ (by omega) (by omega) xS ?_
  k_steps
  unfold Stop
  refine duo_ne (N8 _ (.tail _ (.tail _ (.head _)))).1 (N8 _ (.tail _ (.tail _ (.tail _ (.head _))))).1 (N8 _ (.tail _ (.tail _ (.tail _ (.tail _ (.head _)))))).1 hyv hnv (N8 _ (.tail _ (.tail _ (.tail _ (.tail _ (.tail _ nDu)))))).1 (N8 _ (.tail _ (.tail _ (.tail _ (.tail _ (.tail _ nDa)))))).1 (N8 _ (.tail _ (.tail _ (.tail _ (.tail _ (.tail _ nDb)))))).1 hy hn (by ktr_units) ?_
  k_steps
  rw [kst_same hks] at F8
  exact hret _ _ _ ps9 D Y N1 yv nv ky1 kn1 kd F8 hps8 N8 offs hyv apart
end
end
section
theorem tab_extra2 {g h : Heap} {L : Addr} {m : PySem.Str → Option Value} {ps : Array Value} (F : Fr g L h m) (hp : TabSt h ps) :
    ∃ ex : List (Addr × Obj), News g L h ex ∧ (∀ q ∈ ex, ∃ vs t, q.2.data = .fields vs ∧ vs[1]? = some (.str lamQual t)) ∧ ∀ h8 m8, Fr g L h8 m8 → News g L h8 ex → TabSt h8 ps := by
  rcases hp with rfl | ⟨c', rfl, hc⟩
  · exact ⟨[], fun q hq => (by cases hq), fun q hq => (by cases hq), fun _ _ _ _ => .inl rfl⟩
  · have hc0 := hc
    obtain ⟨c, oc, vs, tq, e1, e2, e3, e4⟩ := hc
    cases e1
    cases q : g.get? c' with
    | some o =>
      have e5 := F.keep _ _ q
      rw [e2] at e5
      cases e5
      exact ⟨[], fun q hq => (by cases hq), fun q hq => (by cases hq), fun h8 m8 F8 _ => .inr ⟨c', rfl, c', oc, vs, tq, rfl, F8.keep _ _ q, e3, e4⟩⟩
    | none =>
      refine ⟨[(c', oc)], fun p hp => ?_, fun p hp => ?_, fun h8 m8 _ N8 => .inr ⟨c', rfl, c', oc, vs, tq, rfl, (N8 _ (.head _)).1, e3, e4⟩⟩
      · rw [List.mem_singleton.mp hp]
        refine ⟨e2, fun hL => ?_, q⟩
        obtain ⟨o', e', es, ep, hd, _⟩ := LCg.ns_obj F.ns
        rw [show c' = L from hL, e'] at e2
        cases e2
        rw [hd] at e3
        cases e3
      · rw [List.mem_singleton.mp hp]
        exact ⟨vs, tq, e3, e4⟩
variable {w : World} {p : Program} {loose : List PySem.Str} {mean : ExcName → Option Value} {mg mb : PySem.Str → Option Value}
  {g h' : Heap} {gens : Array GenState} {drawn : Drawn} {tk : Nat} {os : OsState} {L : Addr} {m : PySem.Str → Option Value} {Q : Flow → Shared → Prop} {E : Value → Shared → Prop} {fa : Addr} {cd : Value}
theorem law_turn (k : Nat) (kz wk : Int) (ktk twk tkk : Tok) (Tx W' Hd Tl ak bk R K' St : Addr) (ts va vb wls hls tls rs kls ss : List Value) (zs : List (List Int)) (Z Z2 H T : List Int) (o4 : Obj) (kss : Nat) (ps : Array Value) (rest : List (Addr × Obj))
   (B0 : Below callerA base [] g) (F : Fr g L h' m) (X : (hd.heap_39 w.params).In g) (T0 : Top p loose mean mg mb g) (C : CodeHd g 65 61)
   (N : News g L h' ((St, W.listOf (List.toArray ss) kss) :: (61, tabObj ps) :: rest)) (hps : ∀ h8 m8, Fr g L h8 m8 → News g L h8 rest → TabSt h8 ps) (o61 : ∀ q ∈ rest, @Ne Nat q.1 61) (oS : ∀ q ∈ rest, q.1 ≠ St) (oS61 : @Ne Nat St 61)
   (hk : kz = (k : Int)) (hk2 : k < 2) (hss : ss.length = k) (nT : (Tx, LCg.lst ts) ∈ rest) (hT : TxAre ts zs) (hZ : zs[k]? = some Z) (hZ2 : zs[k + 2]? = some Z2)
   (nR : (R, W.listOf (List.toArray rs) 0) ∈ rest) (hR : RowsAre rs zs rest) (hzs : ∀ Z ∈ zs, Sg Z ∧ Z.length ≤ 100) (hz : zs.length ≤ 100)
   (nW : (W', W.listOf (List.toArray wls) 0) ∈ rest) (hW : wls[k]? = some (.int wk twk)) (hw0 : 0 ≤ wk) (hw1 : wk ≤ 100)
   (nH : (Hd, LCg.lst hls) ∈ rest) (hH : hls[k]? = some (.ref ak)) (nA : (ak, W.listOf (List.toArray va) 0) ∈ rest) (hA : IntsAre va H)
   (nL : (Tl, LCg.lst tls) ∈ rest) (hL : tls[k]? = some (.ref bk)) (nB : (bk, W.listOf (List.toArray vb) 0) ∈ rest) (hB : IntsAre vb T)
   (n4 : (L + 1 + 1 + 1 + 1, o4) ∈ rest) (d4 : o4.data = .cell (some (.ref K'))) (nK : (K', LCg.lst kls) ∈ rest) (hK : kls[k]? = some (.int ((H.length + T.length : Nat) : Int) tkk))
   (sH : Sg H) (sT : Sg T) (lH : H.length ≤ 8) (lT : T.length ≤ 8)
   (c1 : cramV (tx Z) wk = tx H ++ PySem.Str.ofString "..." ++ tx T.reverse) (c2 : cramV (tx Z2) wk = tx H ++ PySem.Str.ofString "..." ++ tx T.reverse) (c3 : cramV (tx Z) 8 = tx Z)
   (mk : m (PySem.Str.ofString "k") = some (.int kz ktk)) (mS : m (PySem.Str.ofString "stands") = some (.ref St)) (mT : m (PySem.Str.ofString "texts") = some (.ref Tx)) (mW : m (PySem.Str.ofString "width") = some (.ref W')) (mH : m (PySem.Str.ofString "head") = some (.ref Hd)) (mL : m (PySem.Str.ofString "tail") = some (.ref Tl)) (mR : m (PySem.Str.ofString "rows") = some (.ref R))
   (hret : Stop (∀ h1 tk1 m1 kss1 ps1 D Y N1 yv ky1 kd, Fr g L h1 m1 → (∀ z, z ≠ PySem.Str.ofString "row" → z ≠ PySem.Str.ofString "fits" → z ≠ PySem.Str.ofString "due" → z ≠ PySem.Str.ofString "short" → m1 z = m z) → TabSt h1 ps1 →
      News g L h1 ((St, W.listOf (List.toArray (ss ++ [.ref D])) kss1) :: (61, tabObj ps1) :: (D, { cls := .type "tuple", data := .seq #[.ref Y, .ref N1] kd }) :: (Y, W.listOf (List.toArray yv) ky1) :: rest) →
      (@Ne Nat D 61 ∧ D ≠ St ∧ @Ne Nat Y 61 ∧ Y ≠ St) → (∀ q ∈ rest, D ≠ q.1 ∧ Y ≠ q.1) → TxAre yv (zs.filter (fitsB H T.reverse)) → Q .next { heap := h1, gens := gens, drawn := drawn, toks := tk1, os := os })) :
   wpAny (model PG w) (callerA.deeper (lawEnv L fa cd)) (execs lawK (lawEnv L fa cd)) Q (lawE w L fa cd E) { heap := h', gens := gens, drawn := drawn, toks := tk, os := os } := by
  unfold Stop at hret
  have zL : Z.length ≤ 100 := (hzs Z (List.mem_of_getElem? hZ)).2
  have zL2 : Z2.length ≤ 100 := (hzs Z2 (List.mem_of_getElem? hZ2)).2
  refine turn_1 k kz wk ktk twk Tx W' Hd Tl ak bk ts va vb zs Z Z2 H T wls hls tls _ B0 F X T0 N hk hk2 (.tail _ (.tail _ nT)) hT hZ hZ2 (.tail _ (.tail _ nW)) hW hw0 hw1 (.tail _ (.tail _ nH)) hH (.tail _ (.tail _ nA)) hA (.tail _ (.tail _ nL)) hL (.tail _ (.tail _ nB)) hB sH sT lH lT zL zL2 c1 c2 c3 mk mT mW mH mL ?_
  intro h2 tk2 Du Da Db t9 kA F2 N2 lA lB lD
  have nlt : ∀ q ∈ rest, @LT.lt Nat _ q.1 Da := fun q hq => lA q (.tail _ (.tail _ hq))
  have N3 : News g L h2 ((Db, W.listOf (List.toArray []) 0) :: (Da, W.listOf (List.toArray []) 0) :: ((Du, ({ cls := .type "tuple", data := .seq #[.ref Da, .ref Db] kA } : Obj)) :: (St, W.listOf (List.toArray ss) kss) :: (61, tabObj ps) :: rest)) := by
    intro q hq
    rcases List.mem_cons.mp hq with rfl | hq
    · exact N2 _ (.tail _ (.head _))
    rcases List.mem_cons.mp hq with rfl | hq
    · exact N2 _ (.tail _ (.tail _ (.head _)))
    rcases List.mem_cons.mp hq with rfl | hq
    · exact N2 _ (.head _)
    · exact N2 _ (.tail _ (.tail _ (.tail _ hq)))
  have g2 : ∀ (x : PySem.Str) v, m x = some v → x ≠ PySem.Str.ofString "due" → x ≠ PySem.Str.ofString "short" → (fun z => if z = PySem.Str.ofString "due" then some (Value.ref Du) else if z = PySem.Str.ofString "short" then some (.str (tx H ++ PySem.Str.ofString "..." ++ tx T.reverse) t9) else m z) x = some v := fun x v e h1 h2 => (if_neg h1).trans ((if_neg h2).trans e)
  refine turn_2 k kz ktk tkk R K' Hd Tl ak bk Da Db Du rs va vb hls tls kls kA zs H T o4 _ B0 F2 X T0 N3 (by exact Nat.ne_of_lt lB) ?_ ?_ (.head _) hk hk2 (.tail _ (.tail _ (.tail _ nR))) (hR.mono fun q hq => .tail _ (.tail _ (.tail _ hq))) hzs hz (.tail _ (.tail _ (.tail _ n4))) d4 (.tail _ (.tail _ (.tail _ nK))) hK
    (.tail _ (.tail _ (.tail _ nH))) hH (.tail _ (.tail _ (.tail _ nA))) hA (.tail _ (.tail _ (.tail _ nL))) hL (.tail _ (.tail _ (.tail _ nB))) hB lH lT (g2 _ _ mk (by decide +kernel) (by decide +kernel)) (g2 _ _ mR (by decide +kernel) (by decide +kernel)) (g2 _ _ mH (by decide +kernel) (by decide +kernel)) (g2 _ _ mL (by decide +kernel) (by decide +kernel)) (if_pos rfl) ?_
  · intro q hq
    rcases List.mem_cons.mp hq with rfl | hq
    · exact Nat.ne_of_gt (Nat.lt_trans lB lD)
    · exact Nat.ne_of_lt (lA q hq)
  · intro q hq
    rcases List.mem_cons.mp hq with rfl | hq
    · exact Nat.ne_of_gt lD
    · exact Nat.ne_of_lt (Nat.lt_trans (lA q hq) lB)
  intro h3 tk3 m3 dy dn ky kn F3 hm3 N4 hy hn
  have N5 : News g L h3 ((St, W.listOf (List.toArray ss) kss) :: (61, tabObj ps) :: ((Db, W.listOf (List.toArray dn) kn) :: (Da, W.listOf (List.toArray dy) ky) :: (Du, ({ cls := .type "tuple", data := .seq #[.ref Da, .ref Db] kA } : Obj)) :: rest)) := by
    intro q hq
    rcases List.mem_cons.mp hq with rfl | hq
    · exact N4 _ (.tail _ (.tail _ (.tail _ (.head _))))
    rcases List.mem_cons.mp hq with rfl | hq
    · exact N4 _ (.tail _ (.tail _ (.tail _ (.tail _ (.head _)))))
    rcases List.mem_cons.mp hq with rfl | hq
    · exact N4 _ (.head _)
    rcases List.mem_cons.mp hq with rfl | hq
    · exact N4 _ (.tail _ (.head _))
    rcases List.mem_cons.mp hq with rfl | hq
    · exact N4 _ (.tail _ (.tail _ (.head _)))
    · exact N4 _ (.tail _ (.tail _ (.tail _ (.tail _ (.tail _ hq)))))
  have l61 : @LT.lt Nat _ 61 Da := lA (61, tabObj ps) (.tail _ (.head _))
  have lSt : @LT.lt Nat _ St Da := lA (St, W.listOf (List.toArray ss) kss) (.head _)
  have offN : ∀ q ∈ (Db, W.listOf (List.toArray dn) kn) :: (Da, W.listOf (List.toArray dy) ky) :: (Du, ({ cls := .type "tuple", data := .seq #[.ref Da, .ref Db] kA } : Obj)) :: rest, @Ne Nat q.1 61 ∧ @Ne Nat q.1 St := by
    intro q hq
    rcases List.mem_cons.mp hq with rfl | hq
    · exact ⟨Nat.ne_of_gt (Nat.lt_trans l61 lB), Nat.ne_of_gt (Nat.lt_trans lSt lB)⟩
    rcases List.mem_cons.mp hq with rfl | hq
    · exact ⟨Nat.ne_of_gt l61, Nat.ne_of_gt lSt⟩
    rcases List.mem_cons.mp hq with rfl | hq
    · exact ⟨Nat.ne_of_gt (Nat.lt_trans l61 (Nat.lt_trans lB lD)), Nat.ne_of_gt (Nat.lt_trans lSt (Nat.lt_trans lB lD))⟩
    · exact ⟨o61 q hq, oS q hq⟩
  have g3 : ∀ (x : PySem.Str) v, m x = some v → x ≠ PySem.Str.ofString "row" → x ≠ PySem.Str.ofString "fits" → x ≠ PySem.Str.ofString "due" → x ≠ PySem.Str.ofString "short" → m3 x = some v := fun x v e h1 h2 h3 h4 => (hm3 x h1 h2).trans (g2 x v e h3 h4)
  have hst := hps _ _ F3 fun q hq => N5 q (.tail _ (.tail _ (.tail _ (.tail _ (.tail _ hq)))))
  refine turn_3 k kz ktk t9 Tx St Da Db Du ts ss dy dn kss ky kn kA zs H T ps _ B0 F3 X T0 C N5 hst (fun q hq => (offN q hq).1) (fun q hq => (offN q hq).2) oS61 hk hk2 hss (.tail _ (.tail _ (.tail _ nT))) hT hzs hz (.tail _ (.tail _ (.head _))) (.tail _ (.head _)) (.head _) hy hn sH sT lH lT
    (g3 _ _ mk (by decide +kernel) (by decide +kernel) (by decide +kernel) (by decide +kernel)) (g3 _ _ mS (by decide +kernel) (by decide +kernel) (by decide +kernel) (by decide +kernel)) (g3 _ _ mT (by decide +kernel) (by decide +kernel) (by decide +kernel) (by decide +kernel))
    ((hm3 _ (by decide +kernel) (by decide +kernel)).trans (if_pos rfl)) ((hm3 _ (by decide +kernel) (by decide +kernel)).trans ((if_neg (by decide +kernel)).trans (if_pos rfl))) ?_
  intro h4 tk4 kss1 ps1 D Y N1 yv nv ky1 kn1 kd F4 hst4 N6 off6 hyv apart
  refine hret h4 tk4 m3 kss1 ps1 D Y N1 yv ky1 kd F4 (fun z h1 h2 h3 h4 => (hm3 z h1 h2).trans ((if_neg h3).trans (if_neg h4))) hst4 ?_ ⟨(off6 _ (.head _)).1, (off6 _ (.head _)).2, (off6 _ (.tail _ (.head _))).1, (off6 _ (.tail _ (.head _))).2⟩ (fun q hq => apart q (.tail _ (.tail _ (.tail _ hq)))) hyv
  intro q hq
  rcases List.mem_cons.mp hq with rfl | hq
  · exact N6 _ (.head _)
  rcases List.mem_cons.mp hq with rfl | hq
  · exact N6 _ (.tail _ (.head _))
  rcases List.mem_cons.mp hq with rfl | hq
  · exact N6 _ (.tail _ (.tail _ (.head _)))
  rcases List.mem_cons.mp hq with rfl | hq
  · exact N6 _ (.tail _ (.tail _ (.tail _ (.head _))))
  · exact N6 _ (.tail _ (.tail _ (.tail _ (.tail _ (.tail _ (.tail _ (.tail _ (.tail _ hq))))))))
end
section
theorem al_leave {H0 H1 A B : List Int} {c : Int} (h : Al (H0 ++ A) (H1 ++ B) c) :
    ∃ x y c1 c2, x ≤ H0.length ∧ y ≤ H1.length ∧ (x = H0.length ∨ y = H1.length) ∧ Al (H0.take x) (H1.take y) c1 ∧ Al (H0.drop x ++ A) (H1.drop y ++ B) c2 ∧ c = c1 + c2 := by
  obtain ⟨j, c1, c2, hj, h1, h2, e⟩ := h.part H1.length (by simp)
  rw [List.take_left] at h1
  rw [List.drop_left] at h2
  by_cases hjl : j ≤ H0.length
  · refine ⟨j, H1.length, c1, c2, hjl, Nat.le_refl _, .inr rfl, ?_, ?_, e⟩
    · rw [List.take_length]; rwa [List.take_append_of_le_length hjl] at h1
    · rw [List.drop_length, List.nil_append]; rwa [List.drop_append_of_le_length hjl] at h2
  · obtain ⟨y, c11, c12, hy, h11, h12, e'⟩ := h1.symm.part H0.length (by rw [List.length_take]; omega)
    have t1 : ((H0 ++ A).take j).take H0.length = H0 := by
      rw [List.take_take, Nat.min_eq_left (by omega), List.take_left]
    have t2 : ((H0 ++ A).take j).drop H0.length ++ (H0 ++ A).drop j = A := by
      have : ((H0 ++ A).take j ++ (H0 ++ A).drop j).drop H0.length = A := by rw [List.take_append_drop, List.drop_left]
      rwa [List.drop_append_of_le_length (by rw [List.length_take]; omega)] at this
    rw [t1] at h11
    have := h12.symm.app h2
    rw [t2] at this
    refine ⟨H0.length, y, c11, c12 + c2, Nat.le_refl _, hy, .inl rfl, ?_, ?_, by omega⟩
    · rw [List.take_length]; exact h11.symm
    · rw [List.drop_length, List.nil_append]; exact this
theorem least_leave {H0 H1 A B : List Int} {c f i j : Int} (h : Al (H0 ++ A) (H1 ++ B) c) (hl : LeastSays H0 H1 f i j) :
    ∃ A' B' c2, Al (A' ++ A) (B' ++ B) c2 ∧ f + c2 ≤ c := by
  obtain ⟨x, y, c1, c2, hx, hy, hxy, h1, h2, e⟩ := al_leave h
  obtain ⟨_, _, _, _, _, _, _, _, l1, l2⟩ := hl
  refine ⟨_, _, c2, h2, ?_⟩
  obtain ⟨d, hd⟩ := dist_ex (H0.take x) (H1.take y)
  have hdc := hd.2 _ h1
  rcases hxy with rfl | rfl
  · rw [List.take_length] at hd
    have := l1 y d hy hd
    omega
  · rw [List.take_length] at hd
    have := l2 x d hx hd
    omega
def Fits (H T Z : List Int) : Prop := H <+: Z ∧ T.reverse <:+ Z ∧ H.length + T.length ≤ Z.length
theorem Fits.parts {H T Z : List Int} (h : Fits H T Z) : ∃ M, Z = H ++ (M ++ T.reverse) := by
  obtain ⟨⟨A, rfl⟩, h2, h3⟩ := h
  have : T.reverse <:+ A := List.suffix_of_suffix_length_le h2 (List.suffix_append _ _) (by rw [List.length_reverse]; rw [List.length_append] at h3; omega)
  obtain ⟨M, rfl⟩ := this
  exact ⟨M, rfl⟩
theorem forms_apart {H0 H1 T0 T1 Z Y : List Int} {f b c i j i' j' : Int} (hf : LeastSays H0 H1 f i j) (hb : LeastSays T0 T1 b i' j') (hZ : Fits H0 T0 Z) (hY : Fits H1 T1 Y) (h : Al Z Y c) : f + b ≤ c := by
  obtain ⟨M, rfl⟩ := hZ.parts
  obtain ⟨M', rfl⟩ := hY.parts
  obtain ⟨A', B', c2, h2, e⟩ := least_leave h hf
  rw [← List.append_assoc, ← List.append_assoc] at h2
  have h3 := h2.rev
  simp only [List.reverse_append, List.reverse_reverse] at h3
  obtain ⟨A'', B'', c3, h4, e'⟩ := least_leave h3 hb
  have := h4.nonneg
  omega
theorem least_join {H0 H1 : List Int} {f : Int} {x y : Nat} (h : LeastSays H0 H1 f x y) : Al (H0 ++ H1.drop y) (H1 ++ H0.drop x) f := by
  obtain ⟨x', y', e1, e2, hx, hy, hxy, hd, _, _⟩ := h
  have e1 : x = x' := by omega
  have e2 : y = y' := by omega
  subst e1 e2
  rcases hxy with rfl | rfl
  · rw [List.take_length] at hd
    rw [List.drop_length, List.append_nil]
    have := hd.1.app (Al.refl (H1.drop y))
    rw [List.take_append_drop] at this
    exact this.cast (by omega)
  · rw [List.take_length] at hd
    rw [List.drop_length, List.append_nil]
    have := hd.1.app (Al.refl (H0.drop x))
    rw [List.take_append_drop] at this
    exact this.cast (by omega)
theorem pair_price {H0 H1 T0 T1 mid : List Int} {f b : Int} {fx fy bx bY : Nat} (hf : LeastSays H0 H1 f fx fy) (hb : LeastSays T0 T1 b bx bY) :
    Dist (H0 ++ H1.drop fy ++ mid ++ (T0 ++ T1.drop bY).reverse) (H1 ++ H0.drop fx ++ mid ++ (T1 ++ T0.drop bx).reverse) (f + b) ∧
    Fits H0 T0 (H0 ++ H1.drop fy ++ mid ++ (T0 ++ T1.drop bY).reverse) ∧ Fits H1 T1 (H1 ++ H0.drop fx ++ mid ++ (T1 ++ T0.drop bx).reverse) := by
  have fit : ∀ H T A B : List Int, Fits H T (H ++ A ++ mid ++ (T ++ B).reverse) := fun H T A B =>
    ⟨⟨A ++ (mid ++ (T ++ B).reverse), by simp only [List.append_assoc]⟩, ⟨H ++ A ++ mid ++ B.reverse, by rw [List.reverse_append]; simp only [List.append_assoc]⟩, by simp only [List.length_append, List.length_reverse]; omega⟩
  have f1 := fit H0 T0 (H1.drop fy) (T1.drop bY)
  have f2 := fit H1 T1 (H0.drop fx) (T0.drop bx)
  refine ⟨⟨?_, fun c hc => forms_apart hf hb f1 f2 hc⟩, f1, f2⟩
  exact (((least_join hf).app (Al.refl mid)).app (least_join hb).rev).cast (by omega)
theorem fits_bool {H T Z : List Int} (h : fitsB H T.reverse Z = true) : Fits H T Z := by
  unfold fitsB at h
  simp only [Bool.and_eq_true, decide_eq_true_eq, List.length_reverse] at h
  exact ⟨h.1.1, h.1.2, h.2⟩
theorem cram_short {Z : List Int} (h : Z.length = 8) : cramV (tx Z) 8 = tx Z := by
  unfold cramV
  rw [tx_length, h]
  exact if_neg (by decide)
theorem cram_cut {H T Z : List Int} {n : Int} {k : Nat} (hZ : Fits H T Z) (hk : (k : Int) = max 0 (n - 3)) (hH : H.length = k / 2) (hT : T.length = k - k / 2) (hn : n < (Z.length : Int)) :
    cramV (tx Z) n = tx H ++ PySem.Str.ofString "..." ++ tx T.reverse := by
  obtain ⟨M, rfl⟩ := hZ.parts
  have e1 : (if (n - 3).fdiv 2 > 0 then (n - 3).fdiv 2 else 0) = ((k / 2 : Nat) : Int) := by
    rw [Int.fdiv_eq_ediv_of_nonneg _ (by decide)]
    split <;> omega +splitDisjunctions
  have e2 : (if n - 3 - ((k / 2 : Nat) : Int) > 0 then n - 3 - ((k / 2 : Nat) : Int) else 0) = ((k - k / 2 : Nat) : Int) := by
    split <;> omega +splitDisjunctions
  unfold cramV
  rw [tx_length, if_pos hn]
  dsimp only
  rw [e1, e2]
  have hl : (H ++ (M ++ T.reverse)).length = k / 2 + M.length + (k - k / 2) := by
    simp only [List.length_append, List.length_reverse, hH, hT]; omega +splitDisjunctions
  rw [slice_to (by omega +splitDisjunctions) (by omega +splitDisjunctions), slice_from (by omega +splitDisjunctions) (by omega +splitDisjunctions)]
  have d1 : (H ++ (M ++ T.reverse)).take (((k / 2 : Nat) : Int)).toNat = H := by
    rw [Int.toNat_natCast, ← hH, List.take_left]
  have d2 : (H ++ (M ++ T.reverse)).drop ((((H ++ (M ++ T.reverse)).length : Nat) : Int) - ((k - k / 2 : Nat) : Int)).toNat = T.reverse := by
    rw [show ((((H ++ (M ++ T.reverse)).length : Nat) : Int) - ((k - k / 2 : Nat) : Int)).toNat = (H ++ M).length by simp only [List.length_append, List.length_reverse, hH, hT]; omega +splitDisjunctions, ← List.append_assoc, List.drop_left]
  rw [d1, d2]
theorem full_fits {dr : List Int} {kp : Nat → Nat} (hdr : dr.length = 16) (j : Nat) (hk : kp j ≤ 8) : Fits (headOf dr kp j) (tailOf dr kp j) (fullOf dr j) := by
  have hl := full_len hdr j
  refine ⟨List.take_prefix _ _, ?_, ?_⟩
  · unfold tailOf
    rw [← List.reverse_prefix, List.reverse_reverse]
    exact List.take_prefix _ _
  · unfold headOf tailOf
    rw [List.length_take, List.length_take, List.length_reverse, hl]
    omega
theorem kept_lens {dr : List Int} {kp : Nat → Nat} (hdr : dr.length = 16) (j : Nat) (hk : kp j ≤ 8) : (headOf dr kp j).length = kp j / 2 ∧ (tailOf dr kp j).length = kp j - kp j / 2 := by
  unfold headOf tailOf
  rw [List.length_take, List.length_take, List.length_reverse, full_len hdr]
  omega
theorem mid_len {dr : List Int} (hdr : dr.length = 16) : (midOf dr).length = 4 := by
  unfold midOf
  rw [List.length_take, List.length_drop, hdr]
  decide
theorem sg_full {dr : List Int} (h : Sg dr) (j : Nat) : Sg (fullOf dr j) := by
  unfold fullOf
  split
  · exact h.take 8
  · exact h.drop 8
theorem sg_head {dr : List Int} {kp : Nat → Nat} (h : Sg dr) (j : Nat) : Sg (headOf dr kp j) := (sg_full h j).take _
theorem sg_tail {dr : List Int} {kp : Nat → Nat} (h : Sg dr) (j : Nat) : Sg (tailOf dr kp j) := (sg_full h j).rev.take _
theorem sg_mid {dr : List Int} (h : Sg dr) : Sg (midOf dr) := (h.drop _).take _
def lawRows (H0 H1 T0 T1 dr : List Int) (fx fy bx bY : Nat) : List (List Int) :=
  [dr.take 8, dr.drop 8, H0 ++ H1.drop fy ++ midOf dr ++ (T0 ++ T1.drop bY).reverse, H1 ++ H0.drop fx ++ midOf dr ++ (T1 ++ T0.drop bx).reverse, H0 ++ (T0.take (T0.length - 1)).reverse]
theorem rows_ok {H0 H1 T0 T1 dr : List Int} {fx fy bx bY : Nat} (hdr : dr.length = 16) (sd : Sg dr) (s0 : Sg H0) (s1 : Sg H1) (t0 : Sg T0) (t1 : Sg T1) (l0 : H0.length ≤ 4) (l1 : H1.length ≤ 4) (l2 : T0.length ≤ 4) (l3 : T1.length ≤ 4) :
    ∀ Z ∈ lawRows H0 H1 T0 T1 dr fx fy bx bY, Sg Z ∧ Z.length ≤ 30 := by
  intro Z hZ
  have hm := mid_len hdr
  rcases List.mem_cons.mp hZ with rfl | hZ
  · exact ⟨sd.take 8, by rw [List.length_take]; omega⟩
  rcases List.mem_cons.mp hZ with rfl | hZ
  · exact ⟨sd.drop 8, by rw [List.length_drop]; omega⟩
  rcases List.mem_cons.mp hZ with rfl | hZ
  · refine ⟨((s0.app (s1.drop _)).app (sg_mid sd)).app (t0.app (t1.drop _)).rev, ?_⟩
    simp only [List.length_append, List.length_reverse, List.length_drop, hm]; omega
  rcases List.mem_cons.mp hZ with rfl | hZ
  · refine ⟨((s1.app (s0.drop _)).app (sg_mid sd)).app (t1.app (t0.drop _)).rev, ?_⟩
    simp only [List.length_append, List.length_reverse, List.length_drop, hm]; omega
  rw [List.mem_singleton.mp hZ]
  refine ⟨s0.app (t0.take _).rev, ?_⟩
  simp only [List.length_append, List.length_reverse, List.length_take]; omega
end
section
theorem itR_apart {g h : Heap} {L I : Addr} {a b : Int} {ex : List (Addr × Obj)} {rest : List (Addr × Obj)} (N : News g L h ((I, W.itR a b) :: rest)) (Nex : News g L h ex) (hx : ∀ q ∈ ex, ∃ vs t, q.2.data = .fields vs ∧ vs[1]? = some (.str lamQual t)) : ∀ q ∈ ex, q.1 ≠ I := by
  intro q hq e
  obtain ⟨vs, t, e1, e2⟩ := hx q hq
  have g1 := (Nex q hq).1
  rw [e, (N _ (.head _)).1] at g1
  rw [← Option.some.inj g1] at e1
  cases e1
  cases e2
theorem st_apart {g h : Heap} {L St : Addr} {ss : Array Value} {k : Nat} {ex : List (Addr × Obj)} {rest : List (Addr × Obj)} (N : News g L h ((St, W.listOf ss k) :: rest)) (Nex : News g L h ex) (hx : ∀ q ∈ ex, ∃ vs t, q.2.data = .fields vs ∧ vs[1]? = some (.str lamQual t)) : ∀ q ∈ ex, q.1 ≠ St := by
  intro q hq e
  obtain ⟨vs, t, e1, e2⟩ := hx q hq
  have g1 := (Nex q hq).1
  rw [e, (N _ (.head _)).1] at g1
  rw [← Option.some.inj g1] at e1
  cases e1
theorem tab_apart {g h : Heap} {L : Addr} {ps : Array Value} {ex : List (Addr × Obj)} (N : News g L h [(61, tabObj ps)]) (Nex : News g L h ex) (hx : ∀ q ∈ ex, ∃ vs t, q.2.data = .fields vs ∧ vs[1]? = some (.str lamQual t)) (hps : TabSt h ps) : ∀ q ∈ ex, @Ne Nat q.1 61 := by
  intro q hq e
  obtain ⟨vs, t, e1, e2⟩ := hx q hq
  have g1 := (Nex q hq).1
  rw [show q.1 = (61 : Nat) from e, (N _ (.head _)).1] at g1
  rw [← Option.some.inj g1] at e1
  rcases hps with rfl | ⟨c', rfl, _⟩
  · cases e1; cases e2
  · cases e1; cases e2
theorem allLt_mem {d : Nat} : ∀ {l : List (Addr × Obj)}, AllLt d l → ∀ q ∈ l, @LT.lt Nat _ q.1 d
  | [], _, _, hq => by cases hq
  | _ :: _, h, q, hq => by
    rcases List.mem_cons.mp hq with rfl | hq
    · exact h.1
    · exact allLt_mem h.2 q hq
variable {w : World} {p : Program} {loose : List PySem.Str} {mean : ExcName → Option Value} {mg mb : PySem.Str → Option Value}
  {g h' : Heap} {gens : Array GenState} {drawn : Drawn} {tk : Nat} {os : OsState} {L : Addr} {m : PySem.Str → Option Value} {Q : Flow → Shared → Prop} {E : Value → Shared → Prop} {fa : Addr} {cd : Value}
section
theorem law_B (Tx W' Hd Tl a0 a1 b0 b1 R K' : Addr) (ts v0 v1 u0 u1 rs : List Value) (zs : List (List Int)) (z0 z1 z2 z3 H0 H1 T0 T1 : List Int) (x y : Int) (tx1 ty1 tk1 tk2 : Tok) (o4 : Obj) (nx : List (Addr × Obj))
   (B0 : Below callerA base [] g) (F : Fr g L h' m) (X : (hd.heap_39 w.params).In g) (TT : Top p loose mean mg mb g) (C : CodeHd g 65 61)
   (N : News g L h' ((61, tabObj #[]) :: nx)) (o61 : ∀ q ∈ nx, @Ne Nat q.1 61)
   (nT : (Tx, LCg.lst ts) ∈ nx) (hT : TxAre ts zs) (hz0 : zs[0]? = some z0) (hz1 : zs[1]? = some z1) (hz2 : zs[2]? = some z2) (hz3 : zs[3]? = some z3)
   (nR : (R, W.listOf (List.toArray rs) 0) ∈ nx) (hR : RowsAre rs zs nx) (hzs : ∀ Z ∈ zs, Sg Z ∧ Z.length ≤ 100) (hz : zs.length ≤ 100)
   (nW : (W', W.listOf #[.int x tx1, .int y ty1] 0) ∈ nx) (hx0 : 0 ≤ x) (hx1 : x ≤ 100) (hy0 : 0 ≤ y) (hy1 : y ≤ 100)
   (nH : (Hd, LCg.lst [.ref a0, .ref a1]) ∈ nx) (n0 : (a0, W.listOf (List.toArray v0) 0) ∈ nx) (n1 : (a1, W.listOf (List.toArray v1) 0) ∈ nx) (i0 : IntsAre v0 H0) (i1 : IntsAre v1 H1)
   (nL : (Tl, LCg.lst [.ref b0, .ref b1]) ∈ nx) (n2 : (b0, W.listOf (List.toArray u0) 0) ∈ nx) (n3 : (b1, W.listOf (List.toArray u1) 0) ∈ nx) (i2 : IntsAre u0 T0) (i3 : IntsAre u1 T1)
   (n4 : (L + 1 + 1 + 1 + 1, o4) ∈ nx) (d4 : o4.data = .cell (some (.ref K'))) (nK : (K', LCg.lst [.int ((H0.length + T0.length : Nat) : Int) tk1, .int ((H1.length + T1.length : Nat) : Int) tk2]) ∈ nx)
   (sH0 : Sg H0) (sT0 : Sg T0) (lH0 : H0.length ≤ 8) (lT0 : T0.length ≤ 8) (sH1 : Sg H1) (sT1 : Sg T1) (lH1 : H1.length ≤ 8) (lT1 : T1.length ≤ 8)
   (c1 : cramV (tx z0) x = tx H0 ++ PySem.Str.ofString "..." ++ tx T0.reverse) (c2 : cramV (tx z2) x = tx H0 ++ PySem.Str.ofString "..." ++ tx T0.reverse) (c3 : cramV (tx z0) 8 = tx z0)
   (e1 : cramV (tx z1) y = tx H1 ++ PySem.Str.ofString "..." ++ tx T1.reverse) (e2 : cramV (tx z3) y = tx H1 ++ PySem.Str.ofString "..." ++ tx T1.reverse) (e3 : cramV (tx z1) 8 = tx z1)
   (mT : m (PySem.Str.ofString "texts") = some (.ref Tx)) (mW : m (PySem.Str.ofString "width") = some (.ref W')) (mH : m (PySem.Str.ofString "head") = some (.ref Hd)) (mL : m (PySem.Str.ofString "tail") = some (.ref Tl)) (mR : m (PySem.Str.ofString "rows") = some (.ref R))
   (hret : Stop (∀ h1 tk1 m1 kss1 ps1 St D0 Y0 N0 D1 Y1 N1 yv0 yv1 ky0 ky1 kd0 kd1 ex, Fr g L h1 m1 → m1 (PySem.Str.ofString "stands") = some (.ref St) → (∀ z, z ≠ PySem.Str.ofString "row" → z ≠ PySem.Str.ofString "fits" → z ≠ PySem.Str.ofString "due" → z ≠ PySem.Str.ofString "short" → z ≠ PySem.Str.ofString "k" → z ≠ PySem.Str.ofString "stands" → m1 z = m z) →
      (∀ h8 m8, Fr g L h8 m8 → News g L h8 ex → TabSt h8 ps1) →
      News g L h1 ((St, W.listOf #[.ref D0, .ref D1] kss1) :: (61, tabObj ps1) :: (D1, { cls := .type "tuple", data := .seq #[.ref Y1, .ref N1] kd1 }) :: (Y1, W.listOf (List.toArray yv1) ky1) :: (D0, { cls := .type "tuple", data := .seq #[.ref Y0, .ref N0] kd0 }) :: (Y0, W.listOf (List.toArray yv0) ky0) :: (ex ++ nx)) →
      TxAre yv0 (zs.filter (fitsB H0 T0.reverse)) → TxAre yv1 (zs.filter (fitsB H1 T1.reverse)) →
      wpAny (model PG w) (callerA.deeper (lawEnv L fa cd)) (execs ((theBody 16).drop 14) (lawEnv L fa cd)) Q (lawE w L fa cd E) { heap := h1, gens := gens, drawn := drawn, toks := tk1, os := os })) :
   wpAny (model PG w) (callerA.deeper (lawEnv L fa cd)) (execs ((theBody 16).drop 12) (lawEnv L fa cd)) Q (lawE w L fa cd E) { heap := h', gens := gens, drawn := drawn, toks := tk, os := os } := by
  k_with_none
  k_with "subscriptTail" => (refine stop ?_)
  k_with "call ref" => (refine stop ?_)
  k_with "subscriptTail Subscript" => (refine stop ?_)
  k_with "newList" => (refine stop ?_)
  k_with "exec Assign cons ListComp" => (refine stop ?_)
  k_with "CompSrc" => (refine stop ?_)
  k_with "subscriptTail Name Slice ref ref" => (refine stop ?_)
  k_with "call builtin:list.append" => (refine stop ?_)
  k_with "eval Name" => ((with_reducible show wpAny _ _ (eval (Expr.Name (PySem.Str.ofString "kept") _) _) _ _ _); refine stop ?_)
  k_with "eval Name" => ((with_reducible show wpAny _ _ (eval (Expr.Name (PySem.Str.ofString "full") _) _) _ _ _); refine stop ?_)
  k_with "execs cons" => ((with_reducible show wpAny _ _ (execs (Stmt.Assign [Expr.Name (PySem.Str.ofString "short") _] _ _ :: _) _) _ _ _); refine stop ?_)
  k_with "execs cons" => ((with_reducible show wpAny _ _ (execs (Stmt.For (Expr.Tuple _ _ _) _ _ _ _ :: _) _) _ _ _); refine stop ?_)
  unfold Stop at hret
  unfold lawE; delta PG; revert X; k_fill; intro X
  conv in (List.drop 12 _) => whnf
  unfold lawEnv
  generalize hsc : theScope 16 = sc9
  conv at hsc => lhs; whnf
  subst hsc
  k_steps
  unfold Stop
  refine newList_K (vs := []) F N ?_ (by exact Nat.zero_le _)
  intro St h7 F7 N7 l7
  k_steps
  unfold Stop
  rename Fr _ _ _ _ => F8
  rename News _ _ _ _ => N8
  rename _ < _ ∧ _ => lI
  rename_i I t9 h9 tk9
  have g8 : ∀ (a : PySem.Str) (v : Value) (u : Tok), m a = some v → a ≠ PySem.Str.ofString "k" → a ≠ PySem.Str.ofString "stands" → (fun y => if y = PySem.Str.ofString "k" then some (Value.int (0 + ((0 : Nat) : Int)) u) else if y = PySem.Str.ofString "stands" then some (.ref St) else m y) a = some v := fun a v u e q1 q2 => (if_neg q1).trans ((if_neg q2).trans e)
  have o61I : ∀ q ∈ (I, W.itR (0 + ((0 + 1 : Nat) : Int)) (((2 : Nat) : Int) - ((0 + 1 : Nat) : Int))) :: nx, @Ne Nat q.1 61 := by
    intro q hq
    rcases List.mem_cons.mp hq with rfl | hq
    · exact Nat.ne_of_gt lI.2.1
    · exact o61 q hq
  have oSI : ∀ q ∈ (I, W.itR (0 + ((0 + 1 : Nat) : Int)) (((2 : Nat) : Int) - ((0 + 1 : Nat) : Int))) :: nx, @Ne Nat q.1 St := by
    intro q hq
    rcases List.mem_cons.mp hq with rfl | hq
    · exact Nat.ne_of_gt lI.1
    · exact Nat.ne_of_lt (l7 q (.tail _ hq))
  refine law_turn 0 (0 + ((0 : Nat) : Int)) x t9 tx1 tk1 Tx W' Hd Tl a0 b0 R K' St ts v0 u0 [.int x tx1, .int y ty1] [.ref a0, .ref a1] [.ref b0, .ref b1] rs _ [] zs z0 z2 H0 T0 o4 0 #[] ((I, W.itR (0 + ((0 + 1 : Nat) : Int)) (((2 : Nat) : Int) - ((0 + 1 : Nat) : Int))) :: nx) B0 F8 X TT C ?_ (fun _ _ _ _ => .inl rfl) o61I oSI (Nat.ne_of_gt (l7 _ (.head _))) rfl (by decide) rfl (.tail _ nT) hT hz0 hz2 (.tail _ nR) (hR.mono fun q hq => .tail _ hq) hzs hz
    (.tail _ nW) rfl hx0 hx1 (.tail _ nH) rfl (.tail _ n0) i0 (.tail _ nL) rfl (.tail _ n2) i2 (.tail _ n4) d4 (.tail _ nK) rfl sH0 sT0 lH0 lT0 c1 c2 c3 (if_pos rfl) ((if_neg (by decide +kernel)).trans (if_pos rfl)) (g8 _ _ t9 mT (by decide +kernel) (by decide +kernel)) (g8 _ _ t9 mW (by decide +kernel) (by decide +kernel)) (g8 _ _ t9 mH (by decide +kernel) (by decide +kernel)) (g8 _ _ t9 mL (by decide +kernel) (by decide +kernel)) (g8 _ _ t9 mR (by decide +kernel) (by decide +kernel)) ?_
  · intro q hq
    rcases List.mem_cons.mp hq with rfl | hq
    · exact N8 _ (.tail _ (.head _))
    rcases List.mem_cons.mp hq with rfl | hq
    · exact N8 _ (.tail _ (.tail _ (.head _)))
    rcases List.mem_cons.mp hq with rfl | hq
    · exact N8 _ (.head _)
    · exact N8 _ (.tail _ (.tail _ (.tail _ hq)))
  intro h1 tk1' m1 kss1 ps1 D0 Y0 N0 yv0 ky0 kd0 F1 hm1 hst1 N1 off1 apart1 hyv0
  obtain ⟨ex, Nex, hex1, hex⟩ := tab_extra2 F1 hst1
  have NI : News g L h1 [(I, W.itR (0 + ((0 + 1 : Nat) : Int)) (((2 : Nat) : Int) - ((0 + 1 : Nat) : Int)))] := fun q hq => by rw [List.mem_singleton.mp hq]; exact N1 _ (.tail _ (.tail _ (.tail _ (.tail _ (.head _)))))
  have exI := itR_apart NI Nex hex1
  have exS := st_apart (news_sub N1 (.cons_cons _ (List.nil_sublist _))) Nex hex1
  have ex61 := tab_apart (news_sub N1 (.cons _ (.cons_cons _ (List.nil_sublist _)))) Nex hex1 hst1
  have N1' : News g L h1 ((I, W.itR (0 + ((0 + 1 : Nat) : Int)) (((2 : Nat) : Int) - ((0 + 1 : Nat) : Int))) :: (St, W.listOf (List.toArray ([] ++ [Value.ref D0])) kss1) :: (61, tabObj ps1) :: (D0, ({ cls := .type "tuple", data := .seq #[.ref Y0, .ref N0] kd0 } : Obj)) :: (Y0, W.listOf (List.toArray yv0) ky0) :: (ex ++ nx)) := by
    intro q hq
    rcases List.mem_cons.mp hq with rfl | hq
    · exact NI _ (.head _)
    rcases List.mem_cons.mp hq with rfl | hq
    · exact N1 _ (.head _)
    rcases List.mem_cons.mp hq with rfl | hq
    · exact N1 _ (.tail _ (.head _))
    rcases List.mem_cons.mp hq with rfl | hq
    · exact N1 _ (.tail _ (.tail _ (.head _)))
    rcases List.mem_cons.mp hq with rfl | hq
    · exact N1 _ (.tail _ (.tail _ (.tail _ (.head _))))
    rcases List.mem_append.mp hq with hq | hq
    · exact Nex _ hq
    · exact N1 _ (.tail _ (.tail _ (.tail _ (.tail _ (.tail _ hq)))))
  refine UnrEnd.intro F1 N1' _ (fun q hq => hq) ?_ ?_
  · intro q hq
    rcases List.mem_cons.mp hq with rfl | hq
    · exact Nat.ne_of_lt lI.1
    rcases List.mem_cons.mp hq with rfl | hq
    · exact Nat.ne_of_lt lI.2.1
    rcases List.mem_cons.mp hq with rfl | hq
    · exact (apart1 _ (.head _)).1
    rcases List.mem_cons.mp hq with rfl | hq
    · exact (apart1 _ (.head _)).2
    rcases List.mem_append.mp hq with hq | hq
    · exact exI q hq
    · exact Nat.ne_of_lt (allLt_mem lI.2.2 q hq)
  k_steps
  unfold Stop
  rename Fr _ _ _ _ => F2
  rename News _ _ _ _ => N2
  rename_i t8 h8 tk8
  have g9 : ∀ (a : PySem.Str) (v : Value), m a = some v → a ≠ PySem.Str.ofString "row" → a ≠ PySem.Str.ofString "fits" → a ≠ PySem.Str.ofString "due" → a ≠ PySem.Str.ofString "short" → a ≠ PySem.Str.ofString "k" → a ≠ PySem.Str.ofString "stands" → (fun y => if y = PySem.Str.ofString "k" then some (Value.int (0 + ((0 + 1 : Nat) : Int)) t8) else m1 y) a = some v :=
    fun a v e q1 q2 q3 q4 q5 q6 => (if_neg q5).trans ((hm1 a q1 q2 q3 q4).trans (g8 a v t9 e q5 q6))
  have o61J : ∀ q ∈ (I, W.itR (0 + ((0 + 1 + 1 : Nat) : Int)) (((2 : Nat) : Int) - ((0 + 1 + 1 : Nat) : Int))) :: (D0, ({ cls := .type "tuple", data := .seq #[.ref Y0, .ref N0] kd0 } : Obj)) :: (Y0, W.listOf (List.toArray yv0) ky0) :: (ex ++ nx), @Ne Nat q.1 61 := by
    intro q hq
    rcases List.mem_cons.mp hq with rfl | hq
    · exact Nat.ne_of_gt lI.2.1
    rcases List.mem_cons.mp hq with rfl | hq
    · exact off1.1
    rcases List.mem_cons.mp hq with rfl | hq
    · exact off1.2.2.1
    rcases List.mem_append.mp hq with hq | hq
    · exact ex61 q hq
    · exact o61 q hq
  have oSJ : ∀ q ∈ (I, W.itR (0 + ((0 + 1 + 1 : Nat) : Int)) (((2 : Nat) : Int) - ((0 + 1 + 1 : Nat) : Int))) :: (D0, ({ cls := .type "tuple", data := .seq #[.ref Y0, .ref N0] kd0 } : Obj)) :: (Y0, W.listOf (List.toArray yv0) ky0) :: (ex ++ nx), q.1 ≠ St := by
    intro q hq
    rcases List.mem_cons.mp hq with rfl | hq
    · exact Nat.ne_of_gt lI.1
    rcases List.mem_cons.mp hq with rfl | hq
    · exact off1.2.1
    rcases List.mem_cons.mp hq with rfl | hq
    · exact off1.2.2.2
    rcases List.mem_append.mp hq with hq | hq
    · exact exS q hq
    · exact Nat.ne_of_lt (l7 q (.tail _ hq))
  refine law_turn 1 (0 + ((0 + 1 : Nat) : Int)) y t8 ty1 tk2 Tx W' Hd Tl a1 b1 R K' St ts v1 u1 [.int x tx1, .int y ty1] [.ref a0, .ref a1] [.ref b0, .ref b1] rs _ ([] ++ [.ref D0]) zs z1 z3 H1 T1 o4 kss1 ps1 ((I, W.itR (0 + ((0 + 1 + 1 : Nat) : Int)) (((2 : Nat) : Int) - ((0 + 1 + 1 : Nat) : Int))) :: (D0, ({ cls := .type "tuple", data := .seq #[.ref Y0, .ref N0] kd0 } : Obj)) :: (Y0, W.listOf (List.toArray yv0) ky0) :: (ex ++ nx)) B0 F2 X TT C ?_ (fun h9 m9 F9 N9 => hex h9 m9 F9 fun q hq => N9 q (.tail _ (.tail _ (.tail _ (List.mem_append_left _ hq))))) o61J oSJ (Nat.ne_of_gt (l7 _ (.head _))) rfl (by decide) rfl (.tail _ (.tail _ (.tail _ (List.mem_append_right _ nT)))) hT hz1 hz3 (.tail _ (.tail _ (.tail _ (List.mem_append_right _ nR)))) (hR.mono fun q hq => (.tail _ (.tail _ (.tail _ (List.mem_append_right _ hq))))) hzs hz
    (.tail _ (.tail _ (.tail _ (List.mem_append_right _ nW)))) rfl hy0 hy1 (.tail _ (.tail _ (.tail _ (List.mem_append_right _ nH)))) rfl (.tail _ (.tail _ (.tail _ (List.mem_append_right _ n1)))) i1 (.tail _ (.tail _ (.tail _ (List.mem_append_right _ nL)))) rfl (.tail _ (.tail _ (.tail _ (List.mem_append_right _ n3)))) i3 (.tail _ (.tail _ (.tail _ (List.mem_append_right _ n4)))) d4 (.tail _ (.tail _ (.tail _ (List.mem_append_right _ nK)))) rfl sH1 sT1 lH1 lT1 e1 e2 e3 (if_pos rfl) ((if_neg (by decide +kernel)).trans ((hm1 _ (by decide +kernel) (by decide +kernel) (by decide +kernel) (by decide +kernel)).trans ((if_neg (by decide +kernel)).trans (if_pos rfl))))
    (g9 _ _ mT (by decide +kernel) (by decide +kernel) (by decide +kernel) (by decide +kernel) (by decide +kernel) (by decide +kernel)) (g9 _ _ mW (by decide +kernel) (by decide +kernel) (by decide +kernel) (by decide +kernel) (by decide +kernel) (by decide +kernel)) (g9 _ _ mH (by decide +kernel) (by decide +kernel) (by decide +kernel) (by decide +kernel) (by decide +kernel) (by decide +kernel)) (g9 _ _ mL (by decide +kernel) (by decide +kernel) (by decide +kernel) (by decide +kernel) (by decide +kernel) (by decide +kernel)) (g9 _ _ mR (by decide +kernel) (by decide +kernel) (by decide +kernel) (by decide +kernel) (by decide +kernel) (by decide +kernel)) ?_
  · intro q hq
    rcases List.mem_cons.mp hq with rfl | hq
    · exact N2 _ (.tail _ (.head _))
    rcases List.mem_cons.mp hq with rfl | hq
    · exact N2 _ (.tail _ (.tail _ (.head _)))
    rcases List.mem_cons.mp hq with rfl | hq
    · exact N2 _ (.head _)
    · exact N2 _ (.tail _ (.tail _ (.tail _ hq)))
  intro h3 tk3 m3 kss3 ps3 D1 Y1 N1q yv1 ky1 kd1 F3 hm3 hst3 N3 off3 apart3 hyv1
  obtain ⟨ex3, Nex3, hex31, hex3⟩ := tab_extra2 F3 hst3
  have NI3 : News g L h3 [(I, W.itR (0 + ((0 + 1 + 1 : Nat) : Int)) (((2 : Nat) : Int) - ((0 + 1 + 1 : Nat) : Int)))] := fun q hq => by rw [List.mem_singleton.mp hq]; exact N3 _ (.tail _ (.tail _ (.tail _ (.tail _ (.head _)))))
  have exI3 := itR_apart NI3 Nex3 hex31
  have N3' : News g L h3 ((I, W.itR (0 + ((0 + 1 + 1 : Nat) : Int)) (((2 : Nat) : Int) - ((0 + 1 + 1 : Nat) : Int))) :: (St, W.listOf #[.ref D0, .ref D1] kss3) :: (61, tabObj ps3) :: (D1, ({ cls := .type "tuple", data := .seq #[.ref Y1, .ref N1q] kd1 } : Obj)) :: (Y1, W.listOf (List.toArray yv1) ky1) :: (D0, ({ cls := .type "tuple", data := .seq #[.ref Y0, .ref N0] kd0 } : Obj)) :: (Y0, W.listOf (List.toArray yv0) ky0) :: (ex3 ++ nx)) := by
    intro q hq
    rcases List.mem_cons.mp hq with rfl | hq
    · exact NI3 _ (.head _)
    rcases List.mem_cons.mp hq with rfl | hq
    · exact N3 _ (.head _)
    rcases List.mem_cons.mp hq with rfl | hq
    · exact N3 _ (.tail _ (.head _))
    rcases List.mem_cons.mp hq with rfl | hq
    · exact N3 _ (.tail _ (.tail _ (.head _)))
    rcases List.mem_cons.mp hq with rfl | hq
    · exact N3 _ (.tail _ (.tail _ (.tail _ (.head _))))
    rcases List.mem_cons.mp hq with rfl | hq
    · exact N3 _ (.tail _ (.tail _ (.tail _ (.tail _ (.tail _ (.head _))))))
    rcases List.mem_cons.mp hq with rfl | hq
    · exact N3 _ (.tail _ (.tail _ (.tail _ (.tail _ (.tail _ (.tail _ (.head _)))))))
    rcases List.mem_append.mp hq with hq | hq
    · exact Nex3 _ hq
    · exact N3 _ (.tail _ (.tail _ (.tail _ (.tail _ (.tail _ (.tail _ (.tail _ (List.mem_append_right _ hq))))))))
  refine UnrEnd.intro F3 N3' _ (fun q hq => hq) ?_ ?_
  · intro q hq
    rcases List.mem_cons.mp hq with rfl | hq
    · exact Nat.ne_of_lt lI.1
    rcases List.mem_cons.mp hq with rfl | hq
    · exact Nat.ne_of_lt lI.2.1
    rcases List.mem_cons.mp hq with rfl | hq
    · exact (apart3 _ (.head _)).1
    rcases List.mem_cons.mp hq with rfl | hq
    · exact (apart3 _ (.head _)).2
    rcases List.mem_cons.mp hq with rfl | hq
    · exact (apart1 _ (.head _)).1
    rcases List.mem_cons.mp hq with rfl | hq
    · exact (apart1 _ (.head _)).2
    rcases List.mem_append.mp hq with hq | hq
    · exact exI3 q hq
    · exact Nat.ne_of_lt (allLt_mem lI.2.2 q hq)
  clear F2 N2
  k_steps
  unfold Stop
  rename Fr _ _ _ _ => F4
  rename News _ _ _ _ => N4
  exact hret _ _ m3 kss3 ps3 St D0 Y0 N0 D1 Y1 N1q yv0 yv1 ky0 ky1 kd0 kd1 ex3 F4 ((hm3 _ (by decide +kernel) (by decide +kernel) (by decide +kernel) (by decide +kernel)).trans ((if_neg (by decide +kernel)).trans ((hm1 _ (by decide +kernel) (by decide +kernel) (by decide +kernel) (by decide +kernel)).trans ((if_neg (by decide +kernel)).trans (if_pos rfl)))))
    (fun z q1 q2 q3 q4 q5 q6 => (hm3 z q1 q2 q3 q4).trans ((if_neg q5).trans ((hm1 z q1 q2 q3 q4).trans ((if_neg q5).trans (if_neg q6))))) hex3 N4 hyv0 hyv1
end
end
section
def zipBody : List Stmt := match (theBody 16).drop 14 with
  | s :: _ => forBody s
  | _ => []
def zipTarget : PySem.Expr := match (theBody 16).drop 14 with
  | .For t _ _ _ _ :: _ => t
  | _ => .Name "" default
variable {w : World} {p : Program} {loose : List PySem.Str} {mean : ExcName → Option Value} {mg mb : PySem.Str → Option Value}
  {g h' : Heap} {gens : Array GenState} {drawn : Drawn} {tk : Nat} {os : OsState} {L : Addr} {m : PySem.Str → Option Value} {Q : Flow → Shared → Prop} {E : Value → Shared → Prop} {fa : Addr} {cd : Value}
section
theorem zip_turn (I T : Addr) (a b : List Int) (ta tb tp : Tok) (price : Int) (its nx0 : List (Addr × Obj)) (u : Unit)
   (B0 : Below callerA base [] g) (X : (hd.heap_39 w.params).In g) (T0 : Top p loose mean mg mb g) (F : Fr g L h' m) (hT : IsTup h' T #[.str (tx a) ta, .str (tx b) tb]) (N : News g L h' (its ++ nx0))
   (sa : Sg a) (sb : Sg b) (la : a.length ≤ 30) (lb : b.length ≤ 30) (hp0 : 0 ≤ price) (hp1 : price ≤ 100) (hd9 : ∀ d, Dist a b d → price ≤ d) (mp : m (PySem.Str.ofString "price") = some (.int price tp))
   (hret : Stop (∀ h1 tk1 m1, Fr g L h1 m1 → (∀ z, z ≠ PySem.Str.ofString "text" → z ≠ PySem.Str.ofString "other" → m1 z = m z) → News g L h1 (its ++ nx0) → Q .next { heap := h1, gens := gens, drawn := drawn, toks := tk1, os := os })) :
   wpAny (model PG w) (callerA.deeper (lawEnv L fa cd)) (assign zipTarget (lawEnv L fa cd) (.ref T)) (fun _ s₂ => wpAny (model PG w) (callerA.deeper (lawEnv L fa cd)) (execs zipBody (lawEnv L fa cd)) Q (lawE w L fa cd E) s₂) (lawE w L fa cd E) { heap := h', gens := gens, drawn := drawn, toks := tk, os := os } := by
  k_with_none
  k_with "subscriptTail" => (refine stop ?_)
  k_with "call ref" => (refine stop ?_)
  k_with "subscriptTail Subscript" => (refine stop ?_)
  k_with "newList" => (refine stop ?_)
  k_with "exec Assign cons ListComp" => (refine stop ?_)
  k_with "CompSrc" => (refine stop ?_)
  k_with "subscriptTail Name Slice ref ref" => (refine stop ?_)
  k_with "call builtin:list.append" => (refine stop ?_)
  k_with "eval Name" => ((with_reducible show wpAny _ _ (eval (Expr.Name (PySem.Str.ofString "kept") _) _) _ _ _); refine stop ?_)
  k_with "eval Name" => ((with_reducible show wpAny _ _ (eval (Expr.Name (PySem.Str.ofString "full") _) _) _ _ _); refine stop ?_)
  unfold Stop at hret
  unfold lawE; delta PG; revert X; k_fill; intro X
  conv in zipTarget => whnf
  conv in zipBody => whnf
  unfold lawEnv
  generalize hsc : theScope 16 = sc9
  conv at hsc => lhs; whnf
  subst hsc
  have hks : ∀ q ∈ [(PySem.Str.ofString "price", Value.int price tp)], m q.1 = some q.2 := by simp [mp]
  rw [← kst_same (m := m) hks] at F
  have xa := tx_length a
  have xb := tx_length b
  k_steps
  unfold Stop
  rename Fr _ _ _ _ => F9
  rename News _ _ _ _ => N9
  refine' c_lev a b (price - 1) _ _ _ sa sb la lb (by omega) (by omega) _ _ _ _ _ _ _ _ _ _ _ _ _ _ _ _ _ _ _ _ _ ?k1 ?k2 ?k3 ?k4 ?k5 ?k6 ?k7 True.intro ?_
  case k1 => k_asm
  case k2 => exact F9
  case k3 => k_asm
  case k4 => k_asm
  case k5 => rfl
  case k6 => ktr_room
  case k7 => ktr_units
  intro v h9 tk9 F8 K9 hr
  obtain ⟨r, t, rfl, d, hD, hrd⟩ := hr
  have hr9 : price ≤ r := by have := hd9 d hD; omega
  have N8 := nkeep N9 K9
  clear F9 N9 K9
  k_steps
  rw [kst_same hks] at F8
  exact hret _ _ _ F8 (fun z q1 q2 => (if_neg q2).trans (if_neg q1)) N8
end

theorem items_all (I : Addr) (s : Shared) (price : Int) (tp : Tok) (nx0 keep : List (Addr × Obj)) (m0 : PySem.Str → Option Value) (B0 : Below callerA base [] g) (X : (hd.heap_39 w.params).In g) (T0 : Top p loose mean mg mb g) (hp0 : 0 ≤ price) (hp1 : price ≤ 100)
   (lt : ∀ q ∈ nx0, @LT.lt Nat _ q.1 I) (hkeep : SubL keep nx0) (mp : m0 (PySem.Str.ofString "price") = some (.int price tp))
   (fin : ∀ m1, (∀ z, z ≠ PySem.Str.ofString "text" → z ≠ PySem.Str.ofString "other" → m1 z = m0 z) → ∀ h tk, Fr g L h m1 → News g L h nx0 → Q .next { s with heap := h, toks := tk }) :
   ∀ {xs ys : List Value} {z1 z2 : List (List Int)} (m1 : PySem.Str → Option Value), TxAre xs z1 → TxAre ys z2 → (∀ a ∈ z1, ∀ b ∈ z2, Sg a ∧ Sg b ∧ a.length ≤ 30 ∧ b.length ≤ 30 ∧ ∀ d, Dist a b d → price ≤ d) → (∀ z, z ≠ PySem.Str.ofString "text" → z ≠ PySem.Str.ofString "other" → m1 z = m0 z) →
     ItemsRest PG w (callerA.deeper (lawEnv L fa cd)) (lawE w L fa cd E) g (lawEnv L fa cd) zipTarget zipBody Q s [(I + 4, "zip"), (I + 2, "tuple"), (I + 3, "tuple"), (I, "list_iterator"), (I + 1, "list_iterator")] keep (zipItems xs ys) m1 nx0
  | _, _, _, _, m1, .nil, _, _, hm => ItemsRest.zero (fun h tk F N => fin m1 hm h tk F N)
  | _, _, _, _, m1, .cons _ _ _, .nil, _, hm => ItemsRest.zero (fun h tk F N => fin m1 hm h tk F N)
  | _, _, _, _, m1, .cons a ta hx, .cons b tb hy, hall, hm => by
    refine ItemsRest.pair (fun T t h tk hT F => ?_)
    refine AllObj.cons (fun o1 _ => AllObj.cons (fun o2 _ => AllObj.cons (fun o3 _ => AllObj.cons (fun o4 _ => AllObj.cons (fun o5 _ => AllObj.nil (fun N => ?_))))))
    obtain ⟨sa, sb, la, lb, hd⟩ := hall a (.head _) b (.head _)
    refine zip_turn I T a b ta tb tp price _ nx0 () B0 X T0 F hT N sa sb la lb hp0 hp1 hd ((hm _ (by decide +kernel) (by decide +kernel)).trans mp) ?_
    intro h1 tk1 m2 F1 hm2 N1
    refine ⟨h1, tk1, m2, nx0, rfl, F1, N1, fun q hq r hr => ?_, hkeep, items_all I s price tp nx0 keep m0 B0 X T0 hp0 hp1 lt hkeep mp fin m2 hx hy (fun a' ha b' hb => hall a' (.tail _ ha) b' (.tail _ hb)) (fun z q1 q2 => (hm2 z q1 q2).trans (hm z q1 q2))⟩
    have l := lt q hq
    have ge : ∃ k : Nat, r.1 = (I + k : Nat) := by
      rcases List.mem_cons.mp hr with rfl | hr
      · exact ⟨4, rfl⟩
      rcases List.mem_cons.mp hr with rfl | hr
      · exact ⟨2, rfl⟩
      rcases List.mem_cons.mp hr with rfl | hr
      · exact ⟨3, rfl⟩
      rcases List.mem_cons.mp hr with rfl | hr
      · exact ⟨0, rfl⟩
      rcases List.mem_cons.mp hr with rfl | hr
      · exact ⟨1, rfl⟩
      · cases hr
    obtain ⟨k, e⟩ := ge
    rw [e]
    exact ktu_ne k l
end
section
variable {w : World} {p : Program} {loose : List PySem.Str} {mean : ExcName → Option Value} {mg mb : PySem.Str → Option Value}
  {g h' : Heap} {gens : Array GenState} {drawn : Drawn} {tk : Nat} {os : OsState} {L : Addr} {m : PySem.Str → Option Value} {Q : Flow → Shared → Prop} {E : Value → Shared → Prop} {fa : Addr} {cd : Value}
section
local macro_rules | `(tactic| walk_at "exec For Tuple Call cons nil") => `(tactic| (k_here; (rename Fr _ _ _ _ => lF'); (with_unfolding_all refine' For_turns lF' ?_; k_whole)))
theorem law_C (St D0 D1 Y0 Y1 N0 N1 Tx : Addr) (kss ky0 ky1 kd0 kd1 : Nat) (ts yv0 yv1 : List Value) (zs za zb : List (List Int)) (z2 z3 : List Int) (price : Int) (tp : Tok) (nx : List (Addr × Obj))
   (B0 : Below callerA base [] g) (F : Fr g L h' m) (X : (hd.heap_39 w.params).In g) (T0 : Top p loose mean mg mb g) (N : News g L h' nx)
   (nS : (St, W.listOf #[.ref D0, .ref D1] kss) ∈ nx) (nD0 : (D0, ({ cls := .type "tuple", data := .seq #[.ref Y0, .ref N0] kd0 } : Obj)) ∈ nx) (nD1 : (D1, ({ cls := .type "tuple", data := .seq #[.ref Y1, .ref N1] kd1 } : Obj)) ∈ nx)
   (nY0 : (Y0, W.listOf (List.toArray yv0) ky0) ∈ nx) (nY1 : (Y1, W.listOf (List.toArray yv1) ky1) ∈ nx) (hy0 : TxAre yv0 za) (hy1 : TxAre yv1 zb) (nT : (Tx, LCg.lst ts) ∈ nx) (hT : TxAre ts zs) (hz2 : zs[2]? = some z2) (hz3 : zs[3]? = some z3)
   (hall : ∀ a ∈ za, ∀ b ∈ zb, Sg a ∧ Sg b ∧ a.length ≤ 30 ∧ b.length ≤ 30 ∧ ∀ d, Dist a b d → price ≤ d) (hp0 : 0 ≤ price) (hp1 : price ≤ 100) (s2 : Sg z2) (s3 : Sg z3) (l2 : z2.length ≤ 30) (l3 : z3.length ≤ 30) (hdist : Dist z2 z3 price)
   (mS : m (PySem.Str.ofString "stands") = some (.ref St)) (mP : m (PySem.Str.ofString "price") = some (.int price tp)) (mT : m (PySem.Str.ofString "texts") = some (.ref Tx))
   (hret : Stop (∀ h1 tk1 m1, Fr g L h1 m1 → News g L h1 nx → Q (.ret (.bool true)) { heap := h1, gens := gens, drawn := drawn, toks := tk1, os := os })) :
   wpAny (model PG w) (callerA.deeper (lawEnv L fa cd)) (execs ((theBody 16).drop 14) (lawEnv L fa cd)) Q (lawE w L fa cd E) { heap := h', gens := gens, drawn := drawn, toks := tk, os := os } := by
  k_with_none
  k_with "subscriptTail" => (refine stop ?_)
  k_with "call ref" => (refine stop ?_)
  k_with "subscriptTail Subscript" => (refine stop ?_)
  k_with "newList" => (refine stop ?_)
  k_with "exec Assign cons ListComp" => (refine stop ?_)
  k_with "CompSrc" => (refine stop ?_)
  k_with "subscriptTail Name Slice ref ref" => (refine stop ?_)
  k_with "call builtin:list.append" => (refine stop ?_)
  k_with "eval Name" => ((with_reducible show wpAny _ _ (eval (Expr.Name (PySem.Str.ofString "kept") _) _) _ _ _); refine stop ?_)
  k_with "eval Name" => ((with_reducible show wpAny _ _ (eval (Expr.Name (PySem.Str.ofString "full") _) _) _ _ _); refine stop ?_)
  k_with "call type:zip" => (refine stop ?_)
  unfold Stop at hret
  have hks : ∀ q ∈ [(PySem.Str.ofString "stands", Value.ref St), (PySem.Str.ofString "price", .int price tp), (PySem.Str.ofString "texts", .ref Tx)], m q.1 = some q.2 := by simp [mS, mP, mT]
  unfold lawE; delta PG; revert X; k_fill; intro X
  conv in (List.drop 14 _) => whnf
  unfold lawEnv
  generalize hsc : theScope 16 = sc9
  conv at hsc => lhs; whnf
  subst hsc
  rw [← kst_same (m := m) hks] at F
  k_steps
  unfold Stop
  refine item_any ⟨_, (N _ nS).1, rfl, _, rfl⟩ (by omega) (by omega) (v := .ref D0) rfl ?_
  k_steps
  unfold Stop
  refine item_tupleT (News.isTup N nD0) (by decide) (by decide) (j := 0) rfl rfl ?_
  k_steps
  unfold Stop
  refine item_any ⟨_, (N _ nS).1, rfl, _, rfl⟩ (by omega) (by omega) (v := .ref D1) rfl ?_
  k_steps
  unfold Stop
  refine item_tupleT (News.isTup N nD1) (by decide) (by decide) (j := 0) rfl rfl ?_
  k_steps
  unfold Stop
  rename Fr _ _ _ _ => F9
  rw [kst_same hks] at F9
  refine ktu_zip (lo1 := W.listOf (List.toArray yv0) ky0) (lo2 := W.listOf (List.toArray yv1) ky1) (xs := yv0) (ys := yv1) rfl F9 N nY0 rfl rfl nY1 rfl rfl ?_
  intro I lI
  refine items_all I _ price tp nx _ m B0 X T0 hp0 hp1 lI (show SubL [(Y0, W.listOf (List.toArray yv0) ky0), (Y1, W.listOf (List.toArray yv1) ky1)] nx from And.intro nY0 (And.intro nY1 True.intro)) mP ?_ m hy0 hy1 hall (fun _ _ _ => rfl)
  intro m1 hm1 h tk F1 N1
  dsimp only
  have hks1 : ∀ q ∈ [(PySem.Str.ofString "price", Value.int price tp), (PySem.Str.ofString "texts", .ref Tx)], m1 q.1 = some q.2 := by
    intro q hq
    rcases List.mem_cons.mp hq with rfl | hq
    · exact (hm1 (PySem.Str.ofString "price") (by decide +kernel) (by decide +kernel)).trans mP
    · rw [List.mem_singleton.mp hq]
      exact (hm1 (PySem.Str.ofString "texts") (by decide +kernel) (by decide +kernel)).trans mT
  rw [← kst_same (m := m1) hks1] at F1
  clear N F9
  obtain ⟨t2, e2⟩ := txAre_get hT hz2
  obtain ⟨t3, e3⟩ := txAre_get hT hz3
  k_steps
  unfold Stop
  refine item_any ⟨_, (N1 _ nT).1, rfl, _, rfl⟩ (by omega) (by omega) e2 ?_
  k_steps
  unfold Stop
  refine item_any ⟨_, (N1 _ nT).1, rfl, _, rfl⟩ (by omega) (by omega) e3 ?_
  k_steps
  unfold Stop
  refine' c_lev z2 z3 price _ _ _ s2 s3 l2 l3 (by omega) (by omega) _ _ _ _ _ _ _ _ _ _ _ _ _ _ _ _ _ _ _ _ _ ?k1 ?k2 ?k3 ?k4 ?k5 ?k6 ?k7 True.intro ?_
  case k1 => k_asm
  case k2 => exact F1
  case k3 => k_asm
  case k4 => k_asm
  case k5 => rfl
  case k6 => ktr_room
  case k7 => ktr_units
  intro v h9 tk9 F8 K9 hr
  obtain ⟨r, t, rfl, d, hD, hrd⟩ := hr
  have hr9 : r = price := by have := hD.uniq hdist; omega
  subst hr9
  have N8 := nkeep N1 K9
  clear F1 N1 K9
  k_steps
  rw [show (r == r) = true by simp]
  rw [kst_same hks1] at F8
  exact hret _ _ m1 F8 N8
end
end
section
theorem rows_are {A B r2 r3 r4 : Addr} {va vb w2 w3 w4 : List Value} {z0 z1 z2 z3 z4 : List Int} {nx : List (Addr × Obj)} (nA : (A, W.listOf (List.toArray va) 0) ∈ nx) (nB : (B, W.listOf (List.toArray vb) 0) ∈ nx) (n2 : (r2, W.listOf (List.toArray w2) 0) ∈ nx) (n3 : (r3, W.listOf (List.toArray w3) 0) ∈ nx) (n4 : (r4, W.listOf (List.toArray w4) 0) ∈ nx)
    (hA : IntsAre va z0) (hB : IntsAre vb z1) (h2 : IntsAre w2 z2) (h3 : IntsAre w3 z3) (h4 : IntsAre w4 z4) : RowsAre [.ref A, .ref B, .ref r2, .ref r3, .ref r4] [z0, z1, z2, z3, z4] nx := by
  refine ⟨rfl, fun j v e => ?_⟩
  match j, e with
  | 0, e => cases e; exact ⟨_, _, _, rfl, rfl, nA, hA⟩
  | 1, e => cases e; exact ⟨_, _, _, rfl, rfl, nB, hB⟩
  | 2, e => cases e; exact ⟨_, _, _, rfl, rfl, n2, h2⟩
  | 3, e => cases e; exact ⟨_, _, _, rfl, rfl, n3, h3⟩
  | 4, e => cases e; exact ⟨_, _, _, rfl, rfl, n4, h4⟩
  | j + 5, e => simp at e
theorem off_tab {g h : Heap} {L : Addr} {nx nx' : List (Addr × Obj)} (N : News g L h nx') (n61 : (61, tabObj #[]) ∈ nx') (sub : ∀ q ∈ nx, q ∈ nx') (hd : ∀ q ∈ nx, ∀ vs, q.2.data ≠ .fields vs) : ∀ q ∈ nx, @Ne Nat q.1 61 := by
  intro q hq e
  have g1 := (N q (sub q hq)).1
  rw [show q.1 = (61 : Nat) from e, (N _ n61).1] at g1
  exact hd q hq #[] (by rw [← Option.some.inj g1])
theorem least_le {as bs : List Int} {c i j : Int} (h : LeastSays as bs c i j) : 0 ≤ c ∧ c ≤ 2 * (as.length : Int) := by
  obtain ⟨x, y, _, _, _, _, _, hd, l1, _⟩ := h
  refine ⟨hd.1.nonneg, l1 0 _ (Nat.zero_le _) ?_⟩
  rw [List.take_zero]
  exact dist_nil' as
theorem rows_apart {H0 H1 T0 T1 dr : List Int} {fx fy bx bY : Nat} {f b : Int} (hf : LeastSays H0 H1 f fx fy) (hb : LeastSays T0 T1 b bx bY) (hok : ∀ Z ∈ lawRows H0 H1 T0 T1 dr fx fy bx bY, Sg Z ∧ Z.length ≤ 30) :
    ∀ a ∈ (lawRows H0 H1 T0 T1 dr fx fy bx bY).filter (fitsB H0 T0.reverse), ∀ c ∈ (lawRows H0 H1 T0 T1 dr fx fy bx bY).filter (fitsB H1 T1.reverse), Sg a ∧ Sg c ∧ a.length ≤ 30 ∧ c.length ≤ 30 ∧ ∀ d, Dist a c d → f + b ≤ d := by
  intro a ha c hc
  obtain ⟨ha1, ha2⟩ := List.mem_filter.mp ha
  obtain ⟨hc1, hc2⟩ := List.mem_filter.mp hc
  exact ⟨(hok a ha1).1, (hok c hc1).1, (hok a ha1).2, (hok c hc1).2, fun d hd => forms_apart hf hb (fits_bool ha2) (fits_bool hc2) hd.1⟩
theorem kp_le {x : Int} {k : Nat} (h : (k : Int) = max 0 (x - 3)) (hx : x ≤ 7) : k ≤ 4 := by omega
theorem half_le {l k : Nat} (h : l = k / 2) (hk : k ≤ 4) : l ≤ 4 := by omega
theorem rest_le {l k : Nat} (h : l = k - k / 2) (hk : k ≤ 4) : l ≤ 4 := by omega
theorem kept_sum {a b k : Nat} (h1 : a = k / 2) (h2 : b = k - k / 2) : (k : Int) = ((a + b : Nat) : Int) := by omega
theorem le_8 {l : Nat} (h : l ≤ 4) : l ≤ 8 := Nat.le_trans h (by decide)
theorem le_100 {l : Nat} (h : l ≤ 30) : l ≤ 100 := Nat.le_trans h (by decide)
theorem w_le {x : Int} (h : x ≤ 7) : x ≤ 100 := Int.le_trans h (by decide)
theorem w_ge {x : Int} (h : 2 ≤ x) : 0 ≤ x := Int.le_trans (by decide) h
theorem full_room {Z : List Int} {x : Int} (h : Z.length = 8) (hx : x ≤ 7) : x < (Z.length : Int) := by omega
theorem row_room {a b c d e : List Int} {x : Int} {k : Nat} (ha : a.length = k / 2) (hc : c.length = 4) (hd : d.length = k - k / 2) (h : (k : Int) = max 0 (x - 3)) : x < ((a ++ b ++ c ++ (d ++ e).reverse).length : Int) := by
  simp only [List.length_append, List.length_reverse]; omega
theorem take8 {dr : List Int} (h : dr.length = 16) : (dr.take 8).length = 8 := by rw [List.length_take]; omega
theorem drop8 {dr : List Int} (h : dr.length = 16) : (dr.drop 8).length = 8 := by rw [List.length_drop]; omega
theorem price_nn {f b : Int} {m n : Nat} (h : 0 ≤ f ∧ f ≤ 2 * (m : Int)) (h' : 0 ≤ b ∧ b ≤ 2 * (n : Int)) (hm : m ≤ 4) (hn : n ≤ 4) : 0 ≤ f + b ∧ f + b ≤ 100 := by omega
theorem kp_is {x x' : Int} (h : x' = max 0 (x - 3)) : x' = (((x - 3).toNat : Nat) : Int) := by omega
variable {w : World} {p : Program} {loose : List PySem.Str} {mean : ExcName → Option Value} {mg mb : PySem.Str → Option Value}
  {g h' : Heap} {gens : Array GenState} {drawn : Drawn} {tk : Nat} {os : OsState} {L : Addr} {m : PySem.Str → Option Value} {Q : Flow → Shared → Prop} {E : Value → Shared → Prop} {fa : Addr} {cd : Value}
theorem law_all (sl l0 : Addr) (vs v0 : List Value) (ns : List Int) (o1 o2 o3 o4 : Obj) (hi : IntsAre vs ns) (hn : ns.length ≤ 63) (hl : g.IsList sl vs.toArray) (hi0 : IntsAre v0 seed16)
   (B0 : Below callerA base [] g) (F : Fr g L h' m) (X : (hd.heap_39 w.params).In g) (T : Top p loose mean mg mb g) (C : CodeHd g 65 61)
   (N : News g L h' [(l0, W.listOf v0.toArray 0), (L + 1 + 1 + 1 + 1, o4), (L + 1 + 1 + 1, o3), (L + 1 + 1, o2), (L + 1, o1), (61, tabObj #[])])
   (d1 : o1.data = .cell (some (.ref sl))) (d2 : o2.data = .cell (some (.ref l0))) (h61 : @LT.lt Nat _ 61 L) (hl0 : @LT.lt Nat _ (L + 1 + 1 + 1 + 1) l0) (d3 : o3.data = .cell none) (d4 : o4.data = .cell none)
   (hret : Stop (∀ h1 tk1 m1 ps1, Fr g L h1 m1 → News g L h1 [(61, tabObj ps1)] → TabSt h1 ps1 → Q (.ret (.bool true)) { heap := h1, gens := gens, drawn := drawn, toks := tk1, os := os })) :
   wpAny (model PG w) (callerA.deeper (lawEnv L fa cd)) (execs ((theBody 16).drop 1) (lawEnv L fa cd)) Q (lawE w L fa cd E) { heap := h', gens := gens, drawn := drawn, toks := tk, os := os } := by
  unfold Stop at hret
  refine law_1 sl l0 vs v0 ns o1 o2 o3 o4 hi hn hl hi0 B0 F X T N d1 d2 h61 hl0 d3 d4 ?_
  intro h1 tk1 Dr vd c2 dr F1 N1 e2 hD hdr sdr q1 q2
  refine law_2 sl Dr vs vd ns dr o1 c2 o3 o4 hi hn hl B0 F1 X T N1 d1 e2 d3 d4 h61 q1 q2 hD hdr ?_
  intro h2 tk2 Fl A B W' K' x y x' y' txx tyy va vb vk c3 c4 t1 t2 F2 N2 e3 e4 hA hB hvk x2 x7 y2 y7 hx' hy'
  subst hvk
  obtain ⟨kp, hk0, hk1⟩ : ∃ kp : Nat → Nat, x' = ((kp 0 : Nat) : Int) ∧ y' = ((kp 1 : Nat) : Int) := ⟨fun j => if j = 0 then (x - 3).toNat else (y - 3).toNat, kp_is hx', kp_is hy'⟩
  subst hk0 hk1
  refine law_3 Fl A B K' va vb dr kp t1 t2 c3 c4 _ B0 F2 X T N2 (.tail _ (.tail _ (.tail _ (.tail _ (.tail _ (.tail _ (.tail _ (.head _)))))))) (.tail _ (.tail _ (.tail _ (.tail _ (.tail _ (.tail _ (.head _))))))) e3 e4 (.tail _ (.tail _ (.head _))) (.tail _ (.tail _ (.tail _ (.tail _ (.head _))))) (.tail _ (.tail _ (.tail _ (.head _)))) (.head _) hA hB hdr ?_
  intro h3 tk3 Hd a0 a1 v0' v1 nx3 F3 N3 sub3 nH n0 n1 i0 i1
  refine law_4 Fl A B K' va vb dr kp t1 t2 c3 c4 nx3 B0 F3 X T N3 (sub3 _ (.tail _ (.tail _ (.tail _ (.tail _ (.tail _ (.tail _ (.tail _ (.head _))))))))) (sub3 _ (.tail _ (.tail _ (.tail _ (.tail _ (.tail _ (.tail _ (.head _)))))))) e3 e4 (sub3 _ (.tail _ (.tail _ (.head _)))) (sub3 _ (.tail _ (.tail _ (.tail _ (.tail _ (.head _)))))) (sub3 _ (.tail _ (.tail _ (.tail _ (.head _))))) (sub3 _ (.head _)) hA hB hdr ?_
  intro h4 tk4 Tl b0 b1 u0 u1 nx4 F4 N4 sub4 nL n2 n3 i2 i3
  refine law_5 Hd Tl a0 a1 b0 b1 v0' v1 u0 u1 dr kp nx4 B0 F4 X T N4 (sub4 _ nH) nL (sub4 _ n0) (sub4 _ n1) n2 n3 i0 i1 i2 i3 hdr ((if_neg (by decide +kernel)).trans (if_pos rfl)) (if_pos rfl) ?_
  intro h5 tk5 Df Db f fi fj b bi bj x1 xx2 x3 x4 x5 x6 xx7 k1 k2 F5 N5 hf hb
  have hf' := hf
  have hb' := hb
  obtain ⟨fx, fy, ef1, ef2, _⟩ := hf'
  obtain ⟨bx, bY, eb1, eb2, _⟩ := hb'
  subst ef1 ef2 eb1 eb2
  have k04 : kp 0 ≤ 4 := kp_le hx' x7
  have k14 : kp 1 ≤ 4 := kp_le hy' y7
  have L0 := kept_lens (kp := kp) hdr 0 (le_8 k04)
  have L1 := kept_lens (kp := kp) hdr 1 (le_8 k14)
  have lH0 := half_le L0.1 k04
  have lH1 := half_le L1.1 k14
  have lT0 := rest_le L0.2 k04
  have lT1 := rest_le L1.2 k14
  have s0 : Sg (headOf dr kp 0) := sg_head sdr 0
  have s1 : Sg (headOf dr kp 1) := sg_head sdr 1
  have s2 : Sg (tailOf dr kp 0) := sg_tail sdr 0
  have s3 : Sg (tailOf dr kp 1) := sg_tail sdr 1
  have sub5 : ∀ q ∈ nx4, q ∈ (Db, tupObj b bx bY x4 x5 x6 k2) :: (Df, tupObj f fx fy x1 xx2 x3 k1) :: nx4 := fun q hq => .tail _ (.tail _ hq)
  refine law_6 Hd Tl a0 a1 b0 b1 Df Db Dr Fl A B v0' v1 u0 u1 vd (headOf dr kp 0) (headOf dr kp 1) (tailOf dr kp 0) (tailOf dr kp 1) dr f b fx fy bx bY x1 xx2 x3 x4 x5 x6 k1 k2 c2 c3 ((Db, tupObj b bx bY x4 x5 x6 k2) :: (Df, tupObj f fx fy x1 xx2 x3 k1) :: nx4) B0 F5 X T N5
    (sub5 _ (sub4 _ nH)) (sub5 _ nL) (.tail _ (.head _)) (.head _) (sub5 _ (sub4 _ n0)) (sub5 _ (sub4 _ n1)) (sub5 _ n2) (sub5 _ n3) i0 i1 i2 i3 (le_8 lH0) (le_8 lH1) (le_8 lT0) (le_8 lT1)
    (sub5 _ (sub4 _ (sub3 _ (.tail _ (.tail _ (.tail _ (.tail _ (.tail _ (.head _))))))))) hD hdr (sub5 _ (sub4 _ (sub3 _ (.tail _ (.tail _ (.head _)))))) (sub5 _ (sub4 _ (sub3 _ (.tail _ (.tail _ (.tail _ (.tail _ (.tail _ (.tail _ (.tail _ (.tail _ (.head _)))))))))))) (sub5 _ (sub4 _ (sub3 _ (.tail _ (.tail _ (.tail _ (.tail _ (.tail _ (.tail _ (.tail _ (.head _)))))))))))
    e2 e3 ((if_neg (by decide +kernel)).trans ((if_neg (by decide +kernel)).trans ((if_neg (by decide +kernel)).trans ((if_neg (by decide +kernel)).trans (if_pos rfl))))) ((if_neg (by decide +kernel)).trans ((if_neg (by decide +kernel)).trans ((if_neg (by decide +kernel)).trans (if_pos rfl)))) ((if_neg (by decide +kernel)).trans ((if_neg (by decide +kernel)).trans (if_pos rfl))) ((if_neg (by decide +kernel)).trans (if_pos rfl)) ?_
  intro h6 tk6 R r2 r3 r4 w2 w3 w4 nx6 F6 N6 sub6 nR m2 m3 m4 j2 j3 j4
  have hok := rows_ok (fx := fx) (fy := fy) (bx := bx) (bY := bY) hdr sdr s0 s1 s2 s3 lH0 lH1 lT0 lT1
  have up : ∀ q ∈ nx4, q ∈ nx6 := fun q hq => sub6 q (sub5 q hq)
  have up2 : ∀ q ∈ [(K', LCg.lst [Value.int ((kp 0 : Nat) : Int) t1, Value.int ((kp 1 : Nat) : Int) t2]), (W', W.listOf #[.int x txx, .int y tyy] 0), (Fl, W.listOf #[.ref A, .ref B] 0), (B, W.listOf (List.toArray vb) 0), (A, W.listOf (List.toArray va) 0), (Dr, LCg.lst vd), (L + 1 + 1 + 1 + 1, c4), (L + 1 + 1 + 1, c3), (L + 1 + 1, c2), (L + 1, o1), (61, tabObj #[])], q ∈ nx6 := fun q hq => up q (sub4 q (sub3 q hq))
  have nA6 := up2 _ (.tail _ (.tail _ (.tail _ (.tail _ (.head _)))))
  have nB6 := up2 _ (.tail _ (.tail _ (.tail _ (.head _))))
  have hzz : ∀ Z ∈ lawRows (headOf dr kp 0) (headOf dr kp 1) (tailOf dr kp 0) (tailOf dr kp 1) dr fx fy bx bY, Sg Z ∧ Z.length ≤ 100 := fun Z hZ => ⟨(hok Z hZ).1, le_100 (hok Z hZ).2⟩
  refine law_7 R [.ref A, .ref B, .ref r2, .ref r3, .ref r4] (lawRows (headOf dr kp 0) (headOf dr kp 1) (tailOf dr kp 0) (tailOf dr kp 1) dr fx fy bx bY) nx6 B0 F6 X T N6 nR (rows_are nA6 nB6 m2 m3 m4 hA hB j2 j3 j4) (by show 5 ≤ 100; decide) hzz (if_pos rfl) ?_
  intro h7 tk7 Tx ts F7 N7 hT
  have n61 : (61, tabObj #[]) ∈ (Tx, LCg.lst ts) :: nx6 := .tail _ (up2 _ (.tail _ (.tail _ (.tail _ (.tail _ (.tail _ (.tail _ (.tail _ (.tail _ (.tail _ (.tail _ (.head _))))))))))))
  obtain ⟨nxB, hnxB⟩ : ∃ l : List (Addr × Obj), l = [(Tx, LCg.lst ts), (R, W.listOf #[.ref A, .ref B, .ref r2, .ref r3, .ref r4] 0), (A, W.listOf (List.toArray va) 0), (B, W.listOf (List.toArray vb) 0), (r2, W.listOf (List.toArray w2) 0), (r3, W.listOf (List.toArray w3) 0), (r4, W.listOf (List.toArray w4) 0), (W', W.listOf #[.int x txx, .int y tyy] 0), (Hd, LCg.lst [.ref a0, .ref a1]), (a0, W.listOf (List.toArray v0') 0), (a1, W.listOf (List.toArray v1) 0), (Tl, LCg.lst [.ref b0, .ref b1]), (b0, W.listOf (List.toArray u0) 0), (b1, W.listOf (List.toArray u1) 0), (L + 1 + 1 + 1 + 1, c4), (K', LCg.lst [Value.int ((kp 0 : Nat) : Int) t1, Value.int ((kp 1 : Nat) : Int) t2])] := ⟨_, rfl⟩
  have subB : ∀ q ∈ nxB, q ∈ (Tx, LCg.lst ts) :: nx6 := by
    subst hnxB
    intro q hq
    rcases List.mem_cons.mp hq with rfl | hq
    · exact .head _
    rcases List.mem_cons.mp hq with rfl | hq
    · exact .tail _ (nR)
    rcases List.mem_cons.mp hq with rfl | hq
    · exact .tail _ (nA6)
    rcases List.mem_cons.mp hq with rfl | hq
    · exact .tail _ (nB6)
    rcases List.mem_cons.mp hq with rfl | hq
    · exact .tail _ (m2)
    rcases List.mem_cons.mp hq with rfl | hq
    · exact .tail _ (m3)
    rcases List.mem_cons.mp hq with rfl | hq
    · exact .tail _ (m4)
    rcases List.mem_cons.mp hq with rfl | hq
    · exact .tail _ (up2 _ (.tail _ (.head _)))
    rcases List.mem_cons.mp hq with rfl | hq
    · exact .tail _ (up _ (sub4 _ nH))
    rcases List.mem_cons.mp hq with rfl | hq
    · exact .tail _ (up _ (sub4 _ n0))
    rcases List.mem_cons.mp hq with rfl | hq
    · exact .tail _ (up _ (sub4 _ n1))
    rcases List.mem_cons.mp hq with rfl | hq
    · exact .tail _ (up _ nL)
    rcases List.mem_cons.mp hq with rfl | hq
    · exact .tail _ (up _ n2)
    rcases List.mem_cons.mp hq with rfl | hq
    · exact .tail _ (up _ n3)
    rcases List.mem_cons.mp hq with rfl | hq
    · exact .tail _ (up2 _ (.tail _ (.tail _ (.tail _ (.tail _ (.tail _ (.tail _ (.head _))))))))
    rcases List.mem_cons.mp hq with rfl | hq
    · exact .tail _ (up2 _ (.head _))
    · cases hq
  have datB : ∀ q ∈ nxB, ∀ vs, q.2.data ≠ .fields vs := by
    subst hnxB
    intro q hq vs e
    rcases List.mem_cons.mp hq with rfl | hq
    · cases e
    rcases List.mem_cons.mp hq with rfl | hq
    · cases e
    rcases List.mem_cons.mp hq with rfl | hq
    · cases e
    rcases List.mem_cons.mp hq with rfl | hq
    · cases e
    rcases List.mem_cons.mp hq with rfl | hq
    · cases e
    rcases List.mem_cons.mp hq with rfl | hq
    · cases e
    rcases List.mem_cons.mp hq with rfl | hq
    · cases e
    rcases List.mem_cons.mp hq with rfl | hq
    · cases e
    rcases List.mem_cons.mp hq with rfl | hq
    · cases e
    rcases List.mem_cons.mp hq with rfl | hq
    · cases e
    rcases List.mem_cons.mp hq with rfl | hq
    · cases e
    rcases List.mem_cons.mp hq with rfl | hq
    · cases e
    rcases List.mem_cons.mp hq with rfl | hq
    · cases e
    rcases List.mem_cons.mp hq with rfl | hq
    · cases e
    rcases List.mem_cons.mp hq with rfl | hq
    · rw [show (L + 1 + 1 + 1 + 1, c4).2.data = c4.data from rfl, e4] at e; cases e
    rcases List.mem_cons.mp hq with rfl | hq
    · cases e
    · cases hq
  have o61B := off_tab N7 n61 subB datB
  have mB : ∀ q ∈ [(Tx, LCg.lst ts), (R, W.listOf #[.ref A, .ref B, .ref r2, .ref r3, .ref r4] 0), (A, W.listOf (List.toArray va) 0), (B, W.listOf (List.toArray vb) 0), (r2, W.listOf (List.toArray w2) 0), (r3, W.listOf (List.toArray w3) 0), (r4, W.listOf (List.toArray w4) 0), (W', W.listOf #[.int x txx, .int y tyy] 0), (Hd, LCg.lst [.ref a0, .ref a1]), (a0, W.listOf (List.toArray v0') 0), (a1, W.listOf (List.toArray v1) 0), (Tl, LCg.lst [.ref b0, .ref b1]), (b0, W.listOf (List.toArray u0) 0), (b1, W.listOf (List.toArray u1) 0), (L + 1 + 1 + 1 + 1, c4), (K', LCg.lst [Value.int ((kp 0 : Nat) : Int) t1, Value.int ((kp 1 : Nat) : Int) t2])], q ∈ nxB := fun q hq => by rw [hnxB]; exact hq
  have NB : News g L h7 ((61, tabObj #[]) :: nxB) := by
    intro q hq
    rcases List.mem_cons.mp hq with rfl | hq
    · exact N7 _ n61
    · exact N7 _ (subB q hq)
  have pr := pair_price (mid := midOf dr) hf hb
  have hz0l : (dr.take 8).length = 8 := take8 hdr
  have hz1l : (dr.drop 8).length = 8 := drop8 hdr
  have ml := mid_len hdr
  have f0 : Fits (headOf dr kp 0) (tailOf dr kp 0) (dr.take 8) := full_fits hdr 0 (le_8 k04)
  have f1 : Fits (headOf dr kp 1) (tailOf dr kp 1) (dr.drop 8) := full_fits hdr 1 (le_8 k14)
  have eK0 : ((kp 0 : Nat) : Int) = (((headOf dr kp 0).length + (tailOf dr kp 0).length : Nat) : Int) := kept_sum L0.1 L0.2
  have eK1 : ((kp 1 : Nat) : Int) = (((headOf dr kp 1).length + (tailOf dr kp 1).length : Nat) : Int) := kept_sum L1.1 L1.2
  have nKB : (K', LCg.lst [Value.int (((headOf dr kp 0).length + (tailOf dr kp 0).length : Nat) : Int) t1, Value.int (((headOf dr kp 1).length + (tailOf dr kp 1).length : Nat) : Int) t2]) ∈ nxB := by
    rw [← eK0, ← eK1]
    exact mB _ (.tail _ (.tail _ (.tail _ (.tail _ (.tail _ (.tail _ (.tail _ (.tail _ (.tail _ (.tail _ (.tail _ (.tail _ (.tail _ (.tail _ (.tail _ (.head _))))))))))))))))
  refine law_B Tx W' Hd Tl a0 a1 b0 b1 R K' ts v0' v1 u0 u1 [.ref A, .ref B, .ref r2, .ref r3, .ref r4] (lawRows (headOf dr kp 0) (headOf dr kp 1) (tailOf dr kp 0) (tailOf dr kp 1) dr fx fy bx bY) (dr.take 8) (dr.drop 8) _ _ (headOf dr kp 0) (headOf dr kp 1) (tailOf dr kp 0) (tailOf dr kp 1) x y txx tyy t1 t2 c4 nxB B0 F7 X T C NB o61B
    (mB _ (.head _)) hT rfl rfl rfl rfl (mB _ (.tail _ (.head _))) (rows_are (mB _ (.tail _ (.tail _ (.head _)))) (mB _ (.tail _ (.tail _ (.tail _ (.head _))))) (mB _ (.tail _ (.tail _ (.tail _ (.tail _ (.head _)))))) (mB _ (.tail _ (.tail _ (.tail _ (.tail _ (.tail _ (.head _))))))) (mB _ (.tail _ (.tail _ (.tail _ (.tail _ (.tail _ (.tail _ (.head _)))))))) hA hB j2 j3 j4) hzz (by show 5 ≤ 100; decide) (mB _ (.tail _ (.tail _ (.tail _ (.tail _ (.tail _ (.tail _ (.tail _ (.head _))))))))) (w_ge x2) (w_le x7) (w_ge y2) (w_le y7)
    (mB _ (.tail _ (.tail _ (.tail _ (.tail _ (.tail _ (.tail _ (.tail _ (.tail _ (.head _)))))))))) (mB _ (.tail _ (.tail _ (.tail _ (.tail _ (.tail _ (.tail _ (.tail _ (.tail _ (.tail _ (.head _))))))))))) (mB _ (.tail _ (.tail _ (.tail _ (.tail _ (.tail _ (.tail _ (.tail _ (.tail _ (.tail _ (.tail _ (.head _)))))))))))) i0 i1 (mB _ (.tail _ (.tail _ (.tail _ (.tail _ (.tail _ (.tail _ (.tail _ (.tail _ (.tail _ (.tail _ (.tail _ (.head _))))))))))))) (mB _ (.tail _ (.tail _ (.tail _ (.tail _ (.tail _ (.tail _ (.tail _ (.tail _ (.tail _ (.tail _ (.tail _ (.tail _ (.head _)))))))))))))) (mB _ (.tail _ (.tail _ (.tail _ (.tail _ (.tail _ (.tail _ (.tail _ (.tail _ (.tail _ (.tail _ (.tail _ (.tail _ (.tail _ (.head _))))))))))))))) i2 i3 (mB _ (.tail _ (.tail _ (.tail _ (.tail _ (.tail _ (.tail _ (.tail _ (.tail _ (.tail _ (.tail _ (.tail _ (.tail _ (.tail _ (.tail _ (.head _)))))))))))))))) e4 nKB s0 s2 (le_8 lH0) (le_8 lT0) s1 s3 (le_8 lH1) (le_8 lT1)
    (cram_cut f0 hx' L0.1 L0.2 (full_room hz0l x7)) (cram_cut pr.2.1 hx' L0.1 L0.2 (row_room L0.1 ml L0.2 hx')) (cram_short hz0l)
    (cram_cut f1 hy' L1.1 L1.2 (full_room hz1l y7)) (cram_cut pr.2.2 hy' L1.1 L1.2 (row_room L1.1 ml L1.2 hy')) (cram_short hz1l)
    (if_pos rfl) ((if_neg (by decide +kernel)).trans ((if_neg (by decide +kernel)).trans ((if_neg (by decide +kernel)).trans ((if_neg (by decide +kernel)).trans ((if_neg (by decide +kernel)).trans ((if_neg (by decide +kernel)).trans ((if_neg (by decide +kernel)).trans (if_pos rfl)))))))) ((if_neg (by decide +kernel)).trans ((if_neg (by decide +kernel)).trans ((if_neg (by decide +kernel)).trans ((if_neg (by decide +kernel)).trans ((if_neg (by decide +kernel)).trans ((if_neg (by decide +kernel)).trans (if_pos rfl))))))) ((if_neg (by decide +kernel)).trans ((if_neg (by decide +kernel)).trans ((if_neg (by decide +kernel)).trans ((if_neg (by decide +kernel)).trans ((if_neg (by decide +kernel)).trans (if_pos rfl)))))) ((if_neg (by decide +kernel)).trans (if_pos rfl)) ?_
  intro h8 tk8 m8 kss1 ps1 St D0 Y0 N0 D1 Y1 N1' yv0 yv1 ky0 ky1 kd0 kd1 ex F8 mS8 hm8 hps8 N8 hyv0 hyv1
  have lf := least_le hf
  have lb := least_le hb
  refine law_C St D0 D1 Y0 Y1 N0 N1' Tx kss1 ky0 ky1 kd0 kd1 ts yv0 yv1 _ _ _ _ _ (f + b) xx7 _ B0 F8 X T N8 (.head _) (.tail _ (.tail _ (.tail _ (.tail _ (.head _))))) (.tail _ (.tail _ (.head _))) (.tail _ (.tail _ (.tail _ (.tail _ (.tail _ (.head _)))))) (.tail _ (.tail _ (.tail _ (.head _)))) hyv0 hyv1
    (.tail _ (.tail _ (.tail _ (.tail _ (.tail _ (.tail _ (List.mem_append_right _ (mB _ (.head _))))))))) hT rfl rfl (rows_apart hf hb hok) (price_nn lf lb lH0 lT0).1 (price_nn lf lb lH0 lT0).2 (hok _ (.tail _ (.tail _ (.head _)))).1 (hok _ (.tail _ (.tail _ (.tail _ (.head _))))).1 (hok _ (.tail _ (.tail _ (.head _)))).2 (hok _ (.tail _ (.tail _ (.tail _ (.head _))))).2 pr.1
    mS8 ((hm8 _ (by decide +kernel) (by decide +kernel) (by decide +kernel) (by decide +kernel) (by decide +kernel) (by decide +kernel)).trans ((if_neg (by decide +kernel)).trans ((if_neg (by decide +kernel)).trans (if_pos rfl)))) ((hm8 _ (by decide +kernel) (by decide +kernel) (by decide +kernel) (by decide +kernel) (by decide +kernel) (by decide +kernel)).trans (if_pos rfl)) ?_
  intro h9 tk9 m9 F9 N9
  exact hret h9 tk9 m9 ps1 F9 (fun q hq => by rw [List.mem_singleton.mp hq]; exact N9 _ (.tail _ (.head _))) (hps8 h9 m9 F9 fun q hq => N9 q (.tail _ (.tail _ (.tail _ (.tail _ (.tail _ (.tail _ (List.mem_append_left _ hq))))))))
end
end
end Mine
open Mine
theorem PySem.Challenge.cw_pm0033_01_holds : PySem.Challenge.rw_pm0033_01.Holds := by
  k_with_none
  k_with "execs cons" => ((with_reducible show wpAny _ _ (execs (Stmt.Assign [Expr.Name (PySem.Str.ofString "drawn") _] (Expr.ListComp _ _ _ _) _ :: _) _) _ _ _); refine stop ?_)
  refine hd ?_
  w_strict (k_go0; (all_goals try k_fold))
  k_steps
  unfold Stop
  with_reducible rename IntsAre _ _ => hI9
  with_reducible rename Heap.IsList (ghostOf _ _) _ _ => hL9
  with_reducible rename ¬ (_ < _) => hc9
  with_reducible rename Frag.In _ (ghostOf _ _) => X9
  with_reducible rename Top _ _ _ _ _ (ghostOf _ _) => T9
  with_reducible rename Below callerA _ _ _ => B9
  with_reducible rename CodeHd _ _ _ => C9
  with_reducible rename _ < _ ∧ _ < _ ∧ _ < _ ∧ _ < _ ∧ _ < _ => l9
  with_reducible rename Fr _ _ _ _ => F9
  with_reducible rename News _ _ _ _ => N9
  with_reducible rename Shared.gens _ = _ => hg0
  refine law_all _ _ _ _ _ _ _ _ _ hI9 ?hn hL9 ?hs B9 F9 X9 T9 C9 N9 ?d1 ?d2 ?h61 ?hl0 ?d3 ?d4 ?hret
  case hn => omega
  case hs => unfold seed16; repeat constructor
  case d1 => with_unfolding_all assumption
  case d2 => with_unfolding_all assumption
  case h61 => assumption
  case hl0 => exact l9.1
  case d3 => with_unfolding_all assumption
  case d4 => with_unfolding_all assumption
  case hret =>
    intro h1 tk1 m1 ps1 F1 N1 _
    refine ⟨goodW_bool F1 hg0 (fun _ => rfl) ?hp, ⟨ps1, (N1 _ (.head _)).1⟩, True.intro⟩
    first | (wrow_post; done) | (kc_post; done)
