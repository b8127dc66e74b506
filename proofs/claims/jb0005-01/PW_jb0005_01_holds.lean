import PyProof.Rows.All
import Wide.All
import OpenK.AllK
import Wide.FinOn
import Lean
import PySem.Challenge.RW_jb0005_01
open PySem PySem.W PyProof.Rows PySem.Spec PySem.Calls
set_option Elab.async false
set_option rowWalk.seconds 0
section
namespace Mine
/-- a fragment of the heap and its addresses, taken down -/
structure Uses (K : Params → Frag) (as : List Addr) (R : Prop) : Prop where
  out : R
section
local macro_rules | `(tactic| o_head (kHook $k $a $_)) => `(tactic| exact Uses.out (K := $k) (as := $a) (by assumption))
set_option maxRecDepth 100000 in
set_option maxHeartbeats 8000000 in
noncomputable def theK : (K : Params → Frag) ×' (as : List Addr) ×' (Uses K as PySem.Challenge.rw_jb0005_01.row.Holds → PySem.Challenge.rw_jb0005_01.row.Holds) := by
  apply PSigma.mk
  case snd =>
    apply PSigma.mk
    case snd =>
      intro h
      k_head
end
/-- the law's text -/
noncomputable abbrev src : Program := (OpenRow.toRowW PySem.Challenge.rw_jb0005_01.row).prog
/-- its statements that stay -/
noncomputable def view : Program := { src with main := { src.main with body := ((src.main.body.eraseIdx 19).eraseIdx 3).eraseIdx 0 } }
end Mine
end
section
namespace Mine
/-- a program of one line, its names loose: what the walk asks of the top without the tables of codes -/
def p0 : Program := { main := { body := [.Import [⟨"sys", none, ⟨0, 0, 0, 0⟩⟩] ⟨0, 0, 0, 0⟩], scope := { kind := .module, names := [], isGenerator := false, isCoroutine := false }, futureAnnotations := false, file := "" }, modules := [], parses := [], absent := [] }
def lo0 : List Str := ["midnight", "amod", "EPOCH", "HAAB", "TZOLKIN", "to_jd", "from_jd", "to_haab", "to_tzolkin", "lc_to_haab", "lc_to_tzolkin", "lc_to_haab_tzolkin", "_haab_count", "_tzolkin_count", "next_haab", "next_tzolkin", "next_tzolkin_haab", "_law_names", "_law_moons", "_law_asked", "law"]
abbrev tabO (ps : Array Value) : Obj := { cls := .none, data := .fields ps }
/-- the two tables of codes that the calls turn: of _tzolkin_count, of next_tzolkin_haab -/
def CC (cc : List (Addr × Obj)) : Prop := ∃ ps qs : Array Value, cc = [(88, tabO ps), (109, tabO qs)] ∧ TriplesOk ps.toList ∧ TriplesOk qs.toList
/-- no record of fields -/
def nf (o : Obj) : Bool := match o.data with
  | .fields _ => false
  | _ => true
def PreOk (pre : List (Addr × Obj)) : Prop := ∀ p ∈ pre, nf p.2 = true
theorem PreOk.nil : PreOk [] := fun _ h => nomatch h
theorem PreOk.cons {x : Addr × Obj} {pre : List (Addr × Obj)} (h : nf x.2 = true) (r : PreOk pre) : PreOk (x :: pre) := fun p hp => by
  rcases List.mem_cons.mp hp with rfl | hp
  · exact h
  · exact r p hp
theorem nf_set {prog : Program} {w : World} {o : Obj} {S : Int → Bool} {n : Nat} (h : o.SetObjOf (intKind prog w) S n) : nf o = true := by
  obtain ⟨_, es, ep, t, hd, _⟩ := h
  unfold nf; rw [hd]
theorem nf_cell {o : Obj} {v : Option Value} (h : o.data = .cell v) : nf o = true := by unfold nf; rw [h]
abbrev Ret (h₀ : Heap) (L : Addr) (m : Str → Option Value) (pre : List (Addr × Obj)) (s : Shared) (Q : Value → Shared → Prop) (R : Value → List (Addr × Obj) → Prop) : Prop :=
  ∀ (v : Value) (tl cc' : List (Addr × Obj)) (h' : Heap) (g' : Array GenState) (d' : Drawn) (tk' : Nat), R v tl → (∀ q ∈ pre, ∀ p ∈ tl, q.1 < p.1) → CC cc' → Fr h₀ L h' m → News h₀ L h' (tl ++ (pre ++ cc')) → AllBare g' →
    Q v { s with heap := h', gens := g', drawn := d', toks := tk' }
abbrev Cut (w : World) (mean : ExcName → Option Value) (mg mb : Str → Option Value) (n : Nat) (f : Addr) (vs : List Value) (cond : List (Addr × Obj) → Prop) (R : Value → List (Addr × Obj) → Prop) : Prop :=
  ∀ (dp un : Nat) (gd : Option (List Code)) (cn : Str) (cs : Scope) (a : Addr) (ccd : Value) (cl : List (Str × Addr)) (outer : List Env) (A₀ : Around) (base h₀ : Heap) (L : Addr) (m : Str → Option Value) (pre cc : List (Addr × Obj)) (s : Shared) (Q E : Value → Shared → Prop),
    Below A₀ base outer h₀ → Fr h₀ L s.heap m → (theK.heap_1 w.params).In h₀ → News h₀ L s.heap (pre ++ cc) → PreOk pre → CC cc → AllBare s.gens → Top p0 lo0 mean mg mb h₀ → cs.kind = .function → cond pre → dp + n < recursionLimit → un + 10 * n < cLine → Ret h₀ L m pre s Q R →
      wpAny (model PySem.Challenge.rw_jb0005_01.row.prog w) (ktrTop dp un gd cn cs L a ccd cl outer) (call (.ref f) vs) Q E s
/-- a ledger, its part of the calls' own behind -/
def Sp (news pre cc : List (Addr × Obj)) : Prop := news = pre ++ cc
theorem Sp.base {pre cc : List (Addr × Obj)} : Sp (pre ++ cc) pre cc := rfl
theorem Sp.nil {cc : List (Addr × Obj)} : Sp cc [] cc := rfl
theorem Sp.cons {x : Addr × Obj} {news pre cc : List (Addr × Obj)} (h : Sp news pre cc) : Sp (x :: news) (x :: pre) cc := by unfold Sp at *; rw [h]; rfl
theorem Cut.use {w : World} {mean : ExcName → Option Value} {mg mb : Str → Option Value} {n : Nat} {f : Addr} {vs : List Value} {cond : List (Addr × Obj) → Prop} {R : Value → List (Addr × Obj) → Prop}
    {dp un : Nat} {gd : Option (List Code)} {cn : Str} {cs : Scope} {a : Addr} {ccd : Value} {cl : List (Str × Addr)} {outer : List Env} {A₀ : Around} {base h₀ : Heap} {L : Addr} {m : Str → Option Value} {news pre cc : List (Addr × Obj)} {s : Shared} {Q E : Value → Shared → Prop}
    (C : Cut w mean mg mb n f vs cond R) (B : Below A₀ base outer h₀) (F : Fr h₀ L s.heap m) (X : (theK.heap_1 w.params).In h₀) (N : News h₀ L s.heap news) (S : Sp news pre cc) (hpo : PreOk pre) (hc : CC cc) (G : AllBare s.gens) (T : Top p0 lo0 mean mg mb h₀) (hk : cs.kind = .function) (hp : cond pre) (hd : dp + n < recursionLimit) (hu : un + 10 * n < cLine)
    (ret : Ret h₀ L m pre s Q R) : wpAny (model PySem.Challenge.rw_jb0005_01.row.prog w) (ktrTop dp un gd cn cs L a ccd cl outer) (call (.ref f) vs) Q E s :=
  C _ _ _ _ _ _ _ _ _ _ _ _ _ _ _ _ _ _ _ B F X (S ▸ N) hpo hc G T hk hp hd hu ret
theorem allLt_out {d : Addr} : ∀ {l : List (Addr × Obj)}, AllLt d l → ∀ p ∈ l, p.1 < d
  | [], _, _, h => nomatch h
  | _ :: _, ⟨a, b⟩, q, h => by
    rcases List.mem_cons.mp h with rfl | h
    · exact a
    · exact allLt_out b q h
theorem lt_left {d : Addr} {pre cc : List (Addr × Obj)} (h : ∀ p ∈ pre ++ cc, p.1 < d) : ∀ p ∈ pre, p.1 < d := fun p hp => h p (List.mem_append_left _ hp)
theorem Ret.of1 {h₀ : Heap} {L : Addr} {m : Str → Option Value} {pre cc : List (Addr × Obj)} {s : Shared} {Q : Value → Shared → Prop} {R : Value → List (Addr × Obj) → Prop} {h' : Heap} {g' : Array GenState} {d' : Drawn} {tk : Nat} {v : Value} {D : Addr} {o : Obj}
    (r : Ret h₀ L m pre s Q R) (hR : R v [(D, o)]) (hl : ∀ p ∈ pre, p.1 < D) (hc : CC cc) (F : Fr h₀ L h' m) (N : News h₀ L h' ((D, o) :: (pre ++ cc))) (G : AllBare g') : Q v { s with heap := h', gens := g', drawn := d', toks := tk } :=
  r v [(D, o)] cc h' g' d' tk hR (fun q hq p hp => by rw [List.mem_singleton.mp hp]; exact hl q hq) hc F N G
theorem Ret.of0 {h₀ : Heap} {L : Addr} {m : Str → Option Value} {pre cc : List (Addr × Obj)} {s : Shared} {Q : Value → Shared → Prop} {R : Value → List (Addr × Obj) → Prop} {h' : Heap} {g' : Array GenState} {d' : Drawn} {tk : Nat} {v : Value}
    (r : Ret h₀ L m pre s Q R) (hR : R v []) (hc : CC cc) (F : Fr h₀ L h' m) (N : News h₀ L h' (pre ++ cc)) (G : AllBare g') : Q v { s with heap := h', gens := g', drawn := d', toks := tk } :=
  r v [] cc h' g' d' tk hR (fun _ _ _ hp => nomatch hp) hc F N G
theorem ns1 {h₀ h : Heap} {L : Addr} {x : Addr × Obj} {news : List (Addr × Obj)} (N : News h₀ L h (x :: news)) : News h₀ L h news := fun p hp => N p (.tail _ hp)
theorem ns2 {h₀ h : Heap} {L : Addr} {x y : Addr × Obj} {news : List (Addr × Obj)} (N : News h₀ L h (y :: x :: news)) : News h₀ L h (y :: news) := fun p hp => by
  rcases List.mem_cons.mp hp with rfl | hp
  · exact N _ (.head _)
  · exact N p (.tail _ (.tail _ hp))
abbrev RInt (i : Int) : Value → List (Addr × Obj) → Prop := fun v tl => tl = [] ∧ ∃ t, v = .int i t
abbrev tupO (vs : List Value) (c : Nat) : Obj := { cls := .type "tuple", data := .seq vs.toArray c }
abbrev RTupIS (i : Int) (x : Str) : Value → List (Addr × Obj) → Prop := fun v tl => ∃ D t1 t2 c, v = .ref D ∧ tl = [(D, tupO [.int i t1, .str x t2] c)]
abbrev RStrs (xs : List Str) : Value → List (Addr × Obj) → Prop := fun v tl => ∃ D vs c, v = .ref D ∧ StrsAre vs xs ∧ tl = [(D, W.listOf vs.toArray c)]
abbrev RTup5 (a b c d e : Int) : Value → List (Addr × Obj) → Prop := fun v tl => ∃ D t1 t2 t3 t4 t5 n, v = .ref D ∧ tl = [(D, tupO [.int a t1, .int b t2, .int c t3, .int d t4, .int e t5] n)]
end Mine
end
local macro_rules | `(tactic| tb_rel) => `(tactic| (first | exact Mine.Sp.nil | exact Mine.Sp.base | exact Mine.Sp.cons Mine.Sp.nil | exact Mine.Sp.cons Mine.Sp.base | exact Mine.Sp.cons (Mine.Sp.cons Mine.Sp.nil) | exact Mine.Sp.cons (Mine.Sp.cons Mine.Sp.base) | exact Mine.Sp.cons (Mine.Sp.cons (Mine.Sp.cons Mine.Sp.nil)) | exact Mine.Sp.cons (Mine.Sp.cons (Mine.Sp.cons Mine.Sp.base)) | exact Mine.Sp.cons (Mine.Sp.cons (Mine.Sp.cons (Mine.Sp.cons Mine.Sp.nil))) | exact Mine.Sp.cons (Mine.Sp.cons (Mine.Sp.cons (Mine.Sp.cons Mine.Sp.base))) | exact Mine.Sp.cons (Mine.Sp.cons (Mine.Sp.cons (Mine.Sp.cons (Mine.Sp.cons Mine.Sp.nil)))) | exact Mine.Sp.cons (Mine.Sp.cons (Mine.Sp.cons (Mine.Sp.cons (Mine.Sp.cons Mine.Sp.base)))) | exact Mine.Sp.cons (Mine.Sp.cons (Mine.Sp.cons (Mine.Sp.cons (Mine.Sp.cons (Mine.Sp.cons Mine.Sp.base)))))))
local macro_rules | `(tactic| tb_start) => `(tactic| (first | assumption | exact Mine.PreOk.nil | (repeat (first | assumption | exact Mine.PreOk.nil | (refine Mine.PreOk.cons (by first | rfl | assumption | exact Mine.nf_cell (by assumption) | exact Mine.nf_set (by assumption)) ?_)))))
local macro_rules | `(tactic| ktr_rel) => `(tactic| first | k_asm | exact Mine.ns1 (by assumption) | exact Mine.ns1 (Mine.ns1 (by assumption)) | exact Mine.ns1 (Mine.ns1 (Mine.ns1 (by assumption))) | exact Mine.ns1 (Mine.ns1 (Mine.ns1 (Mine.ns1 (by assumption)))) | exact Mine.ns1 (Mine.ns1 (Mine.ns1 (Mine.ns1 (Mine.ns1 (by assumption))))) | exact Mine.ns1 (Mine.ns1 (Mine.ns1 (Mine.ns1 (Mine.ns1 (Mine.ns1 (by assumption)))))) | exact Mine.ns1 (Mine.ns1 (Mine.ns1 (Mine.ns1 (Mine.ns1 (Mine.ns1 (Mine.ns1 (by assumption))))))) | exact Mine.ns2 (by assumption) | exact Mine.ns2 (Mine.ns2 (by assumption)) | exact Mine.ns2 (Mine.ns2 (Mine.ns2 (by assumption))) | exact Mine.ns2 (Mine.ns2 (Mine.ns2 (Mine.ns2 (by assumption)))) | exact Mine.ns2 (Mine.ns2 (Mine.ns2 (Mine.ns2 (Mine.ns2 (by assumption))))) | exact Mine.ns2 (Mine.ns2 (Mine.ns2 (Mine.ns2 (Mine.ns2 (Mine.ns2 (by assumption)))))))
section
namespace Mine
theorem fmod_val (x y : Int) (hy : 0 < y) : x.fmod y = x % y := Int.fmod_eq_emod_of_nonneg x (Int.le_of_lt hy)
theorem fdiv_val (x y : Int) (hy : 0 < y) : x.fdiv y = x / y := Int.fdiv_eq_ediv_of_nonneg x (Int.le_of_lt hy)
abbrev haabL : List Str := ["Pop", "Wo'", "Zip", "Sotz'", "Sek", "Xul", "Yaxk'in'", "Mol", "Ch'en", "Yax", "Sak'", "Keh", "Mak", "K'ank'in", "Muwan'", "Pax", "K'ayab", "Kumk'u", "Wayeb'"]
abbrev tzL : List Str := ["Imix'", "Ik'", "Ak'b'al", "K'an", "Chikchan", "Kimi", "Manik'", "Lamat", "Muluk", "Ok", "Chuwen", "Eb'", "B'en", "Ix", "Men", "K'ib'", "Kab'an", "Etz'nab'", "Kawak", "Ajaw"]
abbrev haabS (i : Int) : Str := haabL.getD i.toNat Str.empty
abbrev tzS (i : Int) : Str := tzL.getD i.toNat Str.empty
theorem amod13 (x : Int) : (if x.fmod 13 = 0 then 13 else x.fmod 13) = (x - 1).fmod 13 + 1 := by
  rw [fmod_val _ _ (by decide), fmod_val _ _ (by decide)]; split <;> omega
theorem amod20 (x : Int) : (if x.fmod 20 = 0 then 20 else x.fmod 20) = (x - 1).fmod 20 + 1 := by
  rw [fmod_val _ _ (by decide), fmod_val _ _ (by decide)]; split <;> omega
set_option maxRecDepth 100000 in
set_option maxHeartbeats 8000000 in
theorem c_midnight (w : World) (mean : ExcName → Option Value) (mg mb : Str → Option Value) (jd : Int) (t : Tok) :
    Cut w mean mg mb 1 21 [.int jd t] (fun _ => jd > 0) (RInt jd) := by
  unfold Cut
  k_fill
  intro dp un gd cn cs a ccd cl outer A₀ base h₀ L m pre cc s Q E hB hF hK hN hO hC hG hT hk hp hd1 hu1 hret
  refine wpAny_call ?_
  k_dflt cell_enter
  w_top off
  repeat' (first | (k_unfold; (try dsimp only)) | (k_end; wrow_close) | ((with_reducible show wpAny _ _ (eval (Expr.Call (Expr.Name _ _) _ _ _) _) _ _ _); (k_here; refine Call_ ?_)) | walk1 | dsimp only | (leave1; try dsimp only))
  all_goals exact hret.of0 ⟨rfl, _, rfl⟩ (by assumption) (by k_asm) (by k_asm) (by assumption)
set_option maxRecDepth 100000 in
set_option maxHeartbeats 8000000 in
theorem c_amod (w : World) (mean : ExcName → Option Value) (mg mb : Str → Option Value) (x y : Int) (t u : Tok) :
    Cut w mean mg mb 1 28 [.int x t, .int y u] (fun _ => 0 < y ∧ y < 2 ^ 30) (RInt (if x.fmod y = 0 then y else x.fmod y)) := by
  unfold Cut
  k_fill
  intro dp un gd cn cs a ccd cl outer A₀ base h₀ L m pre cc s Q E hB hF hK hN hO hC hG hT hk hp hd1 hu1 hret
  refine wpAny_call ?_
  k_dflt cell_enter
  w_top off
  repeat' (first | (k_unfold; (try dsimp only)) | (k_end; wrow_close) | ((with_reducible show wpAny _ _ (eval (Expr.Call (Expr.Name _ _) _ _ _) _) _ _ _); (k_here; refine Call_ ?_)) | walk1 | dsimp only | (leave1; try dsimp only))
  · (rename _ = (0 : Int) => hc); exact hret.of0 ⟨rfl, _, by rw [if_pos hc]⟩ (by assumption) (by k_asm) (by k_asm) (by assumption)
  · (rename _ ≠ (0 : Int) => hc); exact hret.of0 ⟨rfl, _, by rw [if_neg hc]⟩ (by assumption) (by k_asm) (by k_asm) (by assumption)
theorem c_amod13 (w : World) (mean : ExcName → Option Value) (mg mb : Str → Option Value) (x : Int) (t u : Tok) : Cut w mean mg mb 1 28 [.int x t, .int 13 u] (fun _ => True) (RInt ((x - 1).fmod 13 + 1)) := by
  have h := c_amod w mean mg mb x 13 t u
  rw [amod13] at h
  exact fun dp un gd cn cs a ccd cl outer A₀ base h₀ L m pre cc s Q E hB hF hK hN hO hC hG hT hk _ => h dp un gd cn cs a ccd cl outer A₀ base h₀ L m pre cc s Q E hB hF hK hN hO hC hG hT hk (show _ ∧ _ from ⟨by decide, by decide⟩)
theorem c_amod20 (w : World) (mean : ExcName → Option Value) (mg mb : Str → Option Value) (x : Int) (t u : Tok) : Cut w mean mg mb 1 28 [.int x t, .int 20 u] (fun _ => True) (RInt ((x - 1).fmod 20 + 1)) := by
  have h := c_amod w mean mg mb x 20 t u
  rw [amod20] at h
  exact fun dp un gd cn cs a ccd cl outer A₀ base h₀ L m pre cc s Q E hB hF hK hN hO hC hG hT hk _ => h dp un gd cn cs a ccd cl outer A₀ base h₀ L m pre cc s Q E hB hF hK hN hO hC hG hT hk (show _ ∧ _ from ⟨by decide, by decide⟩)
set_option maxRecDepth 100000 in
set_option maxHeartbeats 8000000 in
theorem c_to_jd (w : World) (mean : ExcName → Option Value) (mg mb : Str → Option Value) (a1 a2 a3 a4 a5 : Int) (t1 t2 t3 t4 t5 : Tok) :
    Cut w mean mg mb 1 37 [.int a1 t1, .int a2 t2, .int a3 t3, .int a4 t4, .int a5 t5] (fun _ => True) (RInt (584283 + a1 * 144000 + a2 * 7200 + a3 * 360 + a4 * 20 + a5)) := by
  unfold Cut
  k_fill
  intro dp un gd cn cs a ccd cl outer A₀ base h₀ L m pre cc s Q E hB hF hK hN hO hC hG hT hk hp hd1 hu1 hret
  refine wpAny_call ?_
  k_dflt cell_enter
  w_top off
  repeat' (first | (k_unfold; (try dsimp only)) | (k_end; wrow_close) | ((with_reducible show wpAny _ _ (eval (Expr.Call (Expr.Name _ _) _ _ _) _) _ _ _); (k_here; refine Call_ ?_)) | walk1 | dsimp only | (leave1; try dsimp only))
  all_goals exact hret.of0 ⟨rfl, _, rfl⟩ (by assumption) (by k_asm) (by k_asm) (by assumption)
set_option maxRecDepth 100000 in
set_option maxHeartbeats 8000000 in
theorem c_from_jd_raw (w : World) (mean : ExcName → Option Value) (mg mb : Str → Option Value) (jd : Int) (t : Tok) :
    Cut w mean mg mb 1 44 [.int jd t] (fun _ => 584283 ≤ jd) (RTup5 ((jd - 584283).fdiv 144000) (((jd - 584283).fmod 144000).fdiv 7200) ((((jd - 584283).fmod 144000).fmod 7200).fdiv 360) (((((jd - 584283).fmod 144000).fmod 7200).fmod 360).fdiv 20) (((((jd - 584283).fmod 144000).fmod 7200).fmod 360).fmod 20)) := by
  unfold Cut
  k_fill
  intro dp un gd cn cs a ccd cl outer A₀ base h₀ L m pre cc s Q E hB hF hK hN hO hC hG hT hk hp hd1 hu1 hret
  refine wpAny_call ?_
  k_dflt cell_enter
  w_top off
  repeat' (first | (k_unfold; (try dsimp only)) | (k_end; wrow_close) | ((with_reducible show wpAny _ _ (eval (Expr.Call (Expr.Name _ _) _ _ _) _) _ _ _); (k_here; refine Call_ ?_)) | walk1 | dsimp only | (leave1; try dsimp only))
  all_goals exact hret.of1 ⟨_, _, _, _, _, _, _, rfl, rfl⟩ (by first | assumption | exact lt_left (by assumption) | exact allLt_out (by assumption)) (by assumption) (by k_asm) (by k_asm) (by assumption)
set_option maxRecDepth 100000 in
set_option maxHeartbeats 8000000 in
theorem c_to_haab_raw (w : World) (mean : ExcName → Option Value) (mg mb : Str → Option Value) (jd : Int) (t : Tok) :
    Cut w mean mg mb 2 51 [.int jd t] (fun _ => 584283 ≤ jd) (RTupIS (((jd - 584283 + 348).fmod 365).fmod 20) (haabS (((jd - 584283 + 348).fmod 365).fdiv 20))) := by
  unfold Cut
  k_fill
  intro dp un gd cn cs a ccd cl outer A₀ base h₀ L m pre cc s Q E hB hF hK hN hO hC hG hT hk hp hd1 hu1 hret
  refine wpAny_call ?_
  k_dflt cell_enter
  w_top off
  repeat' (first | (k_unfold; (try dsimp only)) | (k_end; wrow_close) | ((with_reducible show wpAny _ _ (call (Value.ref _) _) _ _ _); first | (k_here; (with_reducible show wpAny _ _ (call (Value.ref 28) [Value.int _ _, Value.int 13 _]) _ _ _); k_dflt (refine' Cut.use (c_amod13 _ _ _ _ _ _ _) ?k1 ?k2 ?k3 ?k4 ?k6 ?k9 ?k7 ?k8 ?k5 ?kK ?kp ?kd ?ku ?_; (case k1 => k_asm); (case k2 => k_asm); (case k3 => k_asm); (case k4 => k_asm); (case k5 => k_asm); (case k7 => assumption); (case k6 => tb_rel); (case k9 => tb_start); (case k8 => assumption); (case kK => first | exact rfl | assumption); (case kp => (first | trivial | assumption | omega | l_fact)); (case kd => ktr_room); (case ku => ktr_units)); (intro v9 tl9 cc9 h9 g9 d9 tk9 r9 l9 hc9 F9 N9 G9); (obtain ⟨e9, t9, e8⟩ := r9); subst e9; subst e8; (simp only [List.cons_append, List.nil_append] at N9); clear l9; (try dsimp only); (try k_fold); (try k_sweep)) | (k_here; (with_reducible show wpAny _ _ (call (Value.ref 28) [Value.int _ _, Value.int 20 _]) _ _ _); k_dflt (refine' Cut.use (c_amod20 _ _ _ _ _ _ _) ?k1 ?k2 ?k3 ?k4 ?k6 ?k9 ?k7 ?k8 ?k5 ?kK ?kp ?kd ?ku ?_; (case k1 => k_asm); (case k2 => k_asm); (case k3 => k_asm); (case k4 => k_asm); (case k5 => k_asm); (case k7 => assumption); (case k6 => tb_rel); (case k9 => tb_start); (case k8 => assumption); (case kK => first | exact rfl | assumption); (case kp => (first | trivial | assumption | omega | l_fact)); (case kd => ktr_room); (case ku => ktr_units)); (intro v9 tl9 cc9 h9 g9 d9 tk9 r9 l9 hc9 F9 N9 G9); (obtain ⟨e9, t9, e8⟩ := r9); subst e9; subst e8; (simp only [List.cons_append, List.nil_append] at N9); clear l9; (try dsimp only); (try k_fold); (try k_sweep)) | (k_here; (with_reducible show wpAny _ _ (call (Value.ref 21) [Value.int _ _]) _ _ _); k_dflt (refine' Cut.use (c_midnight _ _ _ _ _ _) ?k1 ?k2 ?k3 ?k4 ?k6 ?k9 ?k7 ?k8 ?k5 ?kK ?kp ?kd ?ku ?_; (case k1 => k_asm); (case k2 => k_asm); (case k3 => k_asm); (case k4 => k_asm); (case k5 => k_asm); (case k7 => assumption); (case k6 => tb_rel); (case k9 => tb_start); (case k8 => assumption); (case kK => first | exact rfl | assumption); (case kp => (first | trivial | assumption | omega | l_fact)); (case kd => ktr_room); (case ku => ktr_units)); (intro v9 tl9 cc9 h9 g9 d9 tk9 r9 l9 hc9 F9 N9 G9); (obtain ⟨e9, t9, e8⟩ := r9); subst e9; subst e8; (simp only [List.cons_append, List.nil_append] at N9); clear l9; (try dsimp only); (try k_fold); (try k_sweep))) | ((with_reducible show wpAny _ _ (eval (Expr.Call (Expr.Name _ _) _ _ _) _) _ _ _); (k_here; refine Call_ ?_)) | walk1 | dsimp only | (leave1; try dsimp only))
  all_goals exact hret.of1 ⟨_, _, _, _, rfl, rfl⟩ (by first | assumption | exact lt_left (by assumption) | exact allLt_out (by assumption)) (by assumption) (by k_asm) (by k_asm) (by assumption)
set_option maxRecDepth 100000 in
set_option maxHeartbeats 8000000 in
theorem c_to_tzolkin_raw (w : World) (mean : ExcName → Option Value) (mg mb : Str → Option Value) (jd : Int) (t : Tok) :
    Cut w mean mg mb 2 58 [.int jd t] (fun _ => 584283 ≤ jd) (RTupIS ((jd - 584283 + 4 - 1).fmod 13 + 1) (tzS ((jd - 584283 + 20 - 1).fmod 20 + 1 - 1))) := by
  unfold Cut
  k_fill
  intro dp un gd cn cs a ccd cl outer A₀ base h₀ L m pre cc s Q E hB hF hK hN hO hC hG hT hk hp hd1 hu1 hret
  refine wpAny_call ?_
  k_dflt cell_enter
  w_top off
  repeat' (first | (k_unfold; (try dsimp only)) | (k_end; wrow_close) | ((with_reducible show wpAny _ _ (call (Value.ref _) _) _ _ _); first | (k_here; (with_reducible show wpAny _ _ (call (Value.ref 28) [Value.int _ _, Value.int 13 _]) _ _ _); k_dflt (refine' Cut.use (c_amod13 _ _ _ _ _ _ _) ?k1 ?k2 ?k3 ?k4 ?k6 ?k9 ?k7 ?k8 ?k5 ?kK ?kp ?kd ?ku ?_; (case k1 => k_asm); (case k2 => k_asm); (case k3 => k_asm); (case k4 => k_asm); (case k5 => k_asm); (case k7 => assumption); (case k6 => tb_rel); (case k9 => tb_start); (case k8 => assumption); (case kK => first | exact rfl | assumption); (case kp => (first | trivial | assumption | omega | l_fact)); (case kd => ktr_room); (case ku => ktr_units)); (intro v9 tl9 cc9 h9 g9 d9 tk9 r9 l9 hc9 F9 N9 G9); (obtain ⟨e9, t9, e8⟩ := r9); subst e9; subst e8; (simp only [List.cons_append, List.nil_append] at N9); clear l9; (try dsimp only); (try k_fold); (try k_sweep)) | (k_here; (with_reducible show wpAny _ _ (call (Value.ref 28) [Value.int _ _, Value.int 20 _]) _ _ _); k_dflt (refine' Cut.use (c_amod20 _ _ _ _ _ _ _) ?k1 ?k2 ?k3 ?k4 ?k6 ?k9 ?k7 ?k8 ?k5 ?kK ?kp ?kd ?ku ?_; (case k1 => k_asm); (case k2 => k_asm); (case k3 => k_asm); (case k4 => k_asm); (case k5 => k_asm); (case k7 => assumption); (case k6 => tb_rel); (case k9 => tb_start); (case k8 => assumption); (case kK => first | exact rfl | assumption); (case kp => (first | trivial | assumption | omega | l_fact)); (case kd => ktr_room); (case ku => ktr_units)); (intro v9 tl9 cc9 h9 g9 d9 tk9 r9 l9 hc9 F9 N9 G9); (obtain ⟨e9, t9, e8⟩ := r9); subst e9; subst e8; (simp only [List.cons_append, List.nil_append] at N9); clear l9; (try dsimp only); (try k_fold); (try k_sweep)) | (k_here; (with_reducible show wpAny _ _ (call (Value.ref 21) [Value.int _ _]) _ _ _); k_dflt (refine' Cut.use (c_midnight _ _ _ _ _ _) ?k1 ?k2 ?k3 ?k4 ?k6 ?k9 ?k7 ?k8 ?k5 ?kK ?kp ?kd ?ku ?_; (case k1 => k_asm); (case k2 => k_asm); (case k3 => k_asm); (case k4 => k_asm); (case k5 => k_asm); (case k7 => assumption); (case k6 => tb_rel); (case k9 => tb_start); (case k8 => assumption); (case kK => first | exact rfl | assumption); (case kp => (first | trivial | assumption | omega | l_fact)); (case kd => ktr_room); (case ku => ktr_units)); (intro v9 tl9 cc9 h9 g9 d9 tk9 r9 l9 hc9 F9 N9 G9); (obtain ⟨e9, t9, e8⟩ := r9); subst e9; subst e8; (simp only [List.cons_append, List.nil_append] at N9); clear l9; (try dsimp only); (try k_fold); (try k_sweep))) | ((with_reducible show wpAny _ _ (eval (Expr.Call (Expr.Name _ _) _ _ _) _) _ _ _); (k_here; refine Call_ ?_)) | walk1 | dsimp only | (leave1; try dsimp only))
  all_goals exact hret.of1 ⟨_, _, _, _, rfl, rfl⟩ (by first | assumption | exact lt_left (by assumption) | exact allLt_out (by assumption)) (by assumption) (by k_asm) (by k_asm) (by assumption)
/-- the plain count of a day: the day and the month of the Haab, the day and the name of the Tzolkin -/
abbrev hPl (p : Int) : Int := (p + 348) % 365
abbrev hDay (p : Int) : Int := hPl p % 20
abbrev hMon (p : Int) : Int := hPl p / 20
abbrev tDay (p : Int) : Int := (p + 3) % 13 + 1
abbrev tNam (p : Int) : Int := (p + 19) % 20
theorem c_from_jd (w : World) (mean : ExcName → Option Value) (mg mb : Str → Option Value) (jd : Int) (t : Tok) : Cut w mean mg mb 1 44 [.int jd t] (fun _ => 584283 ≤ jd) (RTup5 ((jd - 584283) / 144000) ((jd - 584283) % 144000 / 7200) ((jd - 584283) % 7200 / 360) ((jd - 584283) % 360 / 20) ((jd - 584283) % 20)) := by
  have h := c_from_jd_raw w mean mg mb jd t
  simp only [fmod_val _ 144000 (by decide), fmod_val _ 7200 (by decide), fmod_val _ 360 (by decide), fmod_val _ 20 (by decide), fdiv_val _ 144000 (by decide), fdiv_val _ 7200 (by decide), fdiv_val _ 360 (by decide), fdiv_val _ 20 (by decide)] at h
  have e2 : (jd - 584283) % 144000 % 7200 = (jd - 584283) % 7200 := by omega
  have e3 : (jd - 584283) % 7200 % 360 = (jd - 584283) % 360 := by omega
  have e4 : (jd - 584283) % 360 % 20 = (jd - 584283) % 20 := by omega
  rw [e2, e3, e4] at h
  exact h
theorem c_to_haab (w : World) (mean : ExcName → Option Value) (mg mb : Str → Option Value) (jd : Int) (t : Tok) : Cut w mean mg mb 2 51 [.int jd t] (fun _ => 584283 ≤ jd) (RTupIS (hDay (jd - 584283)) (haabS (hMon (jd - 584283)))) := by
  have h := c_to_haab_raw w mean mg mb jd t
  simp only [fmod_val _ 365 (by decide), fmod_val _ 20 (by decide), fdiv_val _ 20 (by decide)] at h
  exact h
theorem c_to_tzolkin (w : World) (mean : ExcName → Option Value) (mg mb : Str → Option Value) (jd : Int) (t : Tok) : Cut w mean mg mb 2 58 [.int jd t] (fun _ => 584283 ≤ jd) (RTupIS (tDay (jd - 584283)) (tzS (tNam (jd - 584283)))) := by
  have h := c_to_tzolkin_raw w mean mg mb jd t
  simp only [fmod_val _ 13 (by decide), fmod_val _ 20 (by decide)] at h
  have e1 : (jd - 584283 + 4 - 1) % 13 + 1 = tDay (jd - 584283) := by show _ = (jd - 584283 + 3) % 13 + 1; omega
  have e2 : (jd - 584283 + 20 - 1) % 20 + 1 - 1 = tNam (jd - 584283) := by show _ = (jd - 584283 + 19) % 20; omega
  rw [e1, e2] at h
  exact h
end Mine
end
section
open PySem PySem.Spec PyProof.Rows
set_option maxRecDepth 100000
namespace Mine
theorem sub_gen_set : isSubtype (.type "generator") (.type "set") = pure false := by rw [isSubtype_type]; kernel_rfl
theorem sub_gen_frozenset : isSubtype (.type "generator") (.type "frozenset") = pure false := by rw [isSubtype_type]; kernel_rfl
section
variable {prog : Program} {w : World} {A : Around} {E : Value → Shared → Prop} {s : Shared}
variable {I : Addr} {fp wr : List Addr} {G : Array GenState → Array GenState → Prop} {n : Nat} {P : Nat → Value → Prop} {St : Nat → Shared → Prop}
set_option maxHeartbeats 3200000 in
/-- set(g) of a generator that yields ints -/
theorem set_of_gen {Q : Value → Shared → Prop} (W : WalksS prog w A.in4 I fp wr G n P St) (hT : ∀ i s', St i s' → s'.TypeIs (.ref I) "generator") (hst : St 0 s) (hfp : ∀ b ∈ fp, b < s.heap.objs.size) (hI : I ∈ fp)
    (val : Nat → Int) (hval : ∀ i v, P i v → ∃ t, v = .int (val i) t) (hb : n + 1 < scanBound)
    (h : ∀ s', Moved (s.heap.objs.size :: wr) G s s' → s'.heap.SetOf (intKind prog w) s.heap.objs.size (fun k => (firstMet val n).any (· == k)) (firstMet val n).length → Q (.ref s.heap.objs.size) s') :
    wpAny (model prog w) A (call (.type "set") [.ref I]) Q E s := by
  obtain ⟨c, tl, hmro⟩ := F.called_set.mro
  have hmade := F.called_set.made
  have hsub := F.called_set.sub
  refine wpAny_call (codeAny_of_tree ?_)
  show wpAny _ _ (callAny (.type "set") _) _ _ _
  refine wpAny_pure ⟨Code.quiet_builtin _ (by decide +kernel), codeAny_builtin F.entry_type_call ?_⟩
  rw [Around.under_plain (weight_type_call_type "set" [.ref I] []) rfl]
  have h1 := F.called_set.notType
  have h2 := F.called_set.canCreate
  have hct := F.typeCall_set_1 (.ref I)
  repeat (any_goals (first | assumption | wp_step))
  refine codeAny_mono (code_set_new_1 (.ref I) (E := E) (Q₁ := fun obj s₁ => ∃ led : Bool, obj = .ref s.heap.objs.size ∧ s₁ = { s with heap := s.heap.push { cls := .type "set", dict := none, data := .set #[] 0 (.fresh 0 0 led) } }) fun led => ⟨led, rfl, rfl⟩) fun r s₁ hr => ?_
  cases r with
  | error e => exact hr
  | ok fl =>
    cases fl with
    | ret obj =>
      obtain ⟨led, rfl, rfl⟩ := hr
      have hS : (s.heap.push { cls := .type "set", dict := none, data := .set #[] 0 (.fresh 0 0 led) }).get? s.heap.objs.size = some { cls := .type "set", dict := none, data := .set #[] 0 (.fresh 0 0 led) } := Heap.get?_push_size _ rfl
      have hTy : Shared.TypeIs { s with heap := s.heap.push { cls := .type "set", dict := none, data := .set #[] 0 (.fresh 0 0 led) } } (.ref s.heap.objs.size) "set" := ⟨_, hS, rfl⟩
      have hst' := W.frame 0 s (s.heap.push { cls := .type "set", dict := none, data := .set #[] 0 (.fresh 0 0 led) }) s.toks hst (Nat.le_refl _) fun b _ o e => Heap.get?_push_of_some _ e
      have hTI := hT 0 _ hst'
      have hSf : s.heap.objs.size ∉ fp := fun hm => Nat.lt_irrefl _ (hfp _ hm)
      have hli := F.called_set.init.lookup
      have hbi := F.called_set.init.bind (.ref s.heap.objs.size)
      repeat (any_goals (first | assumption | wp_step))
      refine codeAny_mono (codeAny_call_builtin (R := wants (fun r s₂ => r = .none ∧ Moved (s.heap.objs.size :: wr) G s s₂ ∧
          s₂.heap.SetOf (intKind prog w) s.heap.objs.size (fun k => (firstMet val n).any (· == k)) (firstMet val n).length) E) F.called_set.init.plain F.entry_set_init (check_set_init_1 hTy ?_)) fun r₂ s₂ hr₂ => ?_
      · have hsls := sub_gen_set
        have hslf := sub_gen_frozenset
        have hne : (Value.type "generator" == Value.type "dict") = false := by decide
        unfold Builtin.«set.__init__» noKeywords Builtin.Frozenset.updateFrom
        generalize hPI : pyIter = PI
        wp_walk
        subst hPI
        refine W.in4_2.self 0 _ _ _ hst' ?_
        refine wpAny_bind (wpAny_runValue ?_)
        refine codeAny_set_update_loopS (WalksS.of_in1 (A := A.in1.in1.in1) W) s.heap.objs.size hSf val hval hb (n - 0) 0 _ (by omega) (Nat.zero_le _) hst' ?_ fun s' hm hS' => ?_
        · exact SetOf_congr ((setObjOf_fresh (knd := intKind prog w) led).setOf hS (by unfold scanBound; omega)) (fun _ => rfl) rfl
        · show wpAny _ _ _ _ _ _
          refine wpAny_pure ?_
          show wpAny _ _ (ret Value.none) _ _ _
          exact wpAny_pure ⟨rfl, Moved.trans W.gtrans ((Moved.refl W.grefl).then_heap (Nat.le_refl _) fun b o _ e => Heap.get?_push_of_some _ e) hm, hS'⟩
      · cases r₂ with
        | error e => exact hr₂
        | ok fl₂ =>
          cases fl₂ with
          | ret r =>
            obtain ⟨rfl, hm, hS'⟩ := hr₂
            repeat (any_goals (first | assumption | wp_step))
            exact h _ hm hS'
          | _ => exact hr₂.elim
    | _ => exact hr.elim
end
end Mine
end
section
open PySem PySem.Spec PyProof.Rows
set_option maxRecDepth 100000
namespace Mine
theorem pick_go_perm {α : Type} (next : Nat → Nat) : ∀ (fuel k : Nat) (left : List α) (out : Array α), left.length ≤ fuel → ((pickOrder.go next fuel k left out).toList).Perm (out.toList ++ left)
  | 0, _, left, out, h => by
    have : left = [] := List.length_eq_zero_iff.mp (Nat.le_zero.mp h)
    subst this
    simp [pickOrder.go]
  | fuel + 1, k, left, out, h => by
    unfold pickOrder.go
    cases hx : left[next k % left.length]? with
    | none =>
      cases left with
      | nil => simp
      | cons a r =>
        have hlt : next k % (a :: r).length < (a :: r).length := Nat.mod_lt _ (Nat.zero_lt_succ _)
        rw [List.getElem?_eq_getElem hlt] at hx
        cases hx
    | some x =>
      dsimp only
      have hlt : next k % left.length < left.length := by
        by_cases hl : next k % left.length < left.length
        · exact hl
        · rw [List.getElem?_eq_none (Nat.le_of_not_lt hl)] at hx; cases hx
      refine (pick_go_perm next fuel (k + 1) _ _ ?_).trans ?_
      · rw [List.length_eraseIdx_of_lt hlt]; omega
      · rw [Array.toList_push, List.append_assoc]
        refine List.Perm.append_left _ ?_
        have hx' : left[next k % left.length] = x := by rw [List.getElem?_eq_getElem hlt] at hx; exact Option.some.inj hx
        have e : left = left.take (next k % left.length) ++ x :: left.drop (next k % left.length + 1) := by
          rw [← hx', ← List.drop_eq_getElem_cons hlt, List.take_append_drop]
        have e2 : left.eraseIdx (next k % left.length) = left.take (next k % left.length) ++ left.drop (next k % left.length + 1) := List.eraseIdx_eq_take_drop_succ ..
        rw [e2]
        refine List.Perm.trans ?_ (List.Perm.of_eq e.symm)
        simpa using List.perm_middle.symm
theorem pick_perm {α : Type} (next : Nat → Nat) (xs : Array α) : (pickOrder next xs).toList.Perm xs.toList := by
  have h := pick_go_perm next xs.size 0 xs.toList #[] (by simp)
  simpa [pickOrder] using h
section
variable {prog : Program} {w : World} {A : Around} {E : Value → Shared → Prop} {s : Shared}
theorem wpAny_chooseD {M : Model} {src : Source} {n : Nat} {Q : Nat → Shared → Prop} (hn : n ≠ 0) (h : ∀ i d, i < n → Q i { s with drawn := d }) : wpAny M A (choose src n) Q E s :=
  fun Γ p _ => by
    show Sem.wp M Γ (.choose src n .pure) _ _ p s
    rw [Sem.wp_choose]
    exact ⟨hn, by rw [Sem.wp_pure]; exact h _ _ (Nat.mod_lt _ (Nat.pos_of_ne_zero hn))⟩
/-- the set's entries, as they lie -/
def Ents (prog : Program) (w : World) (h : Heap) (a : Addr) (es : Array (Int × Value)) (ep : Nat) (t : SetTable) : Prop :=
  ∃ o, h.get? a = some o ∧ o.ExactSet ∧ o.data = .set es ep t ∧ ElemsOf (intKind prog w) es.toList ∧ t.fits es.size = true
theorem Ents.state {a : Addr} {es : Array (Int × Value)} {ep : Nat} {t : SetTable} {Q : (Array (Int × Value) × Nat × SetTable) → Shared → Prop} (X : Ents prog w s.heap a es ep t) (h : Q (es, ep, t) s) : wpAny (model prog w) A (setState a) Q E s := by
  obtain ⟨o, ho, _, hd, _, hf⟩ := X
  exact wpAny_setState_of ho hd hf h
theorem Ents.entries {a : Addr} {es : Array (Int × Value)} {ep : Nat} {t : SetTable} {Q : Array (Int × Value) → Shared → Prop} (X : Ents prog w s.heap a es ep t) (h : Q es s) : wpAny (model prog w) A (setEntries a) Q E s := by
  obtain ⟨o, ho, _, hd, _, hf⟩ := X
  exact wpAny_setEntries_of ho hd hf h
theorem Ents.epoch {a : Addr} {es : Array (Int × Value)} {ep : Nat} {t : SetTable} {Q : Nat → Shared → Prop} (X : Ents prog w s.heap a es ep t) (h : Q ep s) : wpAny (model prog w) A (setEpoch a) Q E s := by
  obtain ⟨o, ho, _, hd, _, hf⟩ := X
  exact wpAny_setEpoch_of ho hd hf h
theorem setOf_ents {h : Heap} {a : Addr} {S : Int → Bool} {n : Nat} (X : h.SetOf (intKind prog w) a S n) : ∃ es ep t, Ents prog w h a es ep t ∧ (∀ k, S k = true ↔ ∃ e ∈ es.toList, (intKind prog w).is k e.2 = true) ∧ es.size = n ∧ es.size < scanBound := by
  obtain ⟨o, es, ep, t, ho, hex, hd, hel, hmem, hb, hf, hn⟩ := X
  exact ⟨es, ep, t, ⟨o, ho, hex, hd, hel, hf⟩, hmem, hn, hb⟩
theorem quiet_of {Q : Bool → Shared → Prop} (l : List Addr) (hr : ∀ a ∈ l, ∃ es ep t, Ents prog w s.heap a es ep t) (h : Q true s) : wpAny (model prog w) A (setsQuiet l) Q E s := by
  unfold setsQuiet
  refine wpAny_bind (wpAny_forIn_list _ (fun l (b : Option Bool × Unit) s' => s' = s ∧ b.1 = none ∧ ∀ a ∈ l, ∃ es ep t, Ents prog w s.heap a es ep t) _ (fun x r b s' hI => ?_) (fun b s' hI => ?_) _ _ ⟨rfl, rfl, hr⟩)
  · obtain ⟨rfl, hb, hl⟩ := hI
    obtain ⟨es, ep, t, X⟩ := hl x (.head _)
    refine wpAny_bind (X.entries ?_)
    refine wpAny_bind (wpAny_forIn_array' _ (fun l (b : Option Bool × Unit) s'' => s'' = s' ∧ b.1 = none ∧ ElemsOf (intKind prog w) l) _ (fun x r b s'' hI => ?_) (fun b s'' hI => ?_) _ _ ⟨rfl, rfl, ?_⟩)
    · obtain ⟨rfl, _, hel⟩ := hI
      obtain ⟨_, hsc⟩ := hel.head
      obtain ⟨hx, y⟩ := x
      cases y <;> first | (exact Bool.noConfusion hsc) | exact wpAny_pure ⟨rfl, rfl, hel.tail⟩
    · obtain ⟨rfl, hb', _⟩ := hI
      dsimp only
      rw [hb']
      exact wpAny_pure ⟨rfl, rfl, fun a ha => hl a (.tail _ ha)⟩
    · obtain ⟨o, _, _, _, hel, _⟩ := X
      exact hel
  · obtain ⟨rfl, hb, _⟩ := hI
    dsimp only
    rw [hb]
    exact wpAny_pure h
theorem walk_perm {a : Addr} {es : Array (Int × Value)} {ep : Nat} {t : SetTable} {Q : Array (Int × Value) → Shared → Prop} (X : Ents prog w s.heap a es ep t) (hw : w.params.followText "set-order" = true ∨ (t.led && t.plain) = true ∨ es.size ≤ 1)
    (h : ∀ out : Array (Int × Value), out.toList.Perm es.toList → Q out s) : wpAny (model prog w) A (setWalk a) Q E s := by
  unfold setWalk setsByText
  refine wpAny_bind (X.state ?_)
  refine wpAny_bind (wpAny_bind (wpAny_askSetting (wpAny_pure ?_)))
  show wpAny (model prog w) A (if w.params.followText "set-order" = true then _ else _) Q E s
  cases hb : w.params.followText "set-order" with
  | true =>
    simp only [if_true]
    exact wpAny_bind (wpAny_askSetting (wpAny_pure (h _ (pick_perm _ _))))
  | false =>
    simp only [Bool.false_eq_true, if_false]
    show wpAny (model prog w) A (if (!t.plain && decide (es.size > 1)) = true then _ else do (if (!t.led && decide (es.size > 1)) = true then unsupported _ else pure PUnit.unit); pure es) Q E s
    rcases hw with hw | hw | hw
    · rw [hb] at hw; cases hw
    · obtain ⟨h1, h2⟩ := Bool.and_eq_true_iff.mp hw
      rw [h1, h2]
      simp only [Bool.not_true, Bool.false_and, Bool.false_eq_true, if_false]
      exact wpAny_bind (wpAny_pure (wpAny_pure (h _ (List.Perm.refl _))))
    · have hd : decide (es.size > 1) = false := decide_eq_false (by omega)
      rw [hd]
      simp only [Bool.and_false, Bool.false_eq_true, if_false]
      exact wpAny_bind (wpAny_pure (wpAny_pure (h _ (List.Perm.refl _))))
theorem unseen_perm {a r : Addr} {others : List Addr} {es : Array (Int × Value)} {ep : Nat} {t : SetTable} {S : Int → Bool} {n : Nat} {Q : Array (Int × Value) → Shared → Prop} (X : Ents prog w s.heap a es ep t) (hR : s.heap.SetOf (intKind prog w) r S n) (ho : ∀ b ∈ others, ∃ es ep t, Ents prog w s.heap b es ep t)
    (h : ∀ (out : Array (Int × Value)) h', out.toList.Perm es.toList → Heap.SameBut r s.heap h' → h'.SetOf (intKind prog w) r S n → Q out { s with heap := h' }) : wpAny (model prog w) A (setWalkUnseen a others (some r)) Q E s := by
  unfold setWalkUnseen setsByText
  refine wpAny_bind (X.state ?_)
  refine wpAny_bind (wpAny_bind (wpAny_askSetting (wpAny_pure ?_)))
  show wpAny (model prog w) A (if (w.params.followText "set-order" || t.led && t.plain || decide (es.size ≤ 1)) = true then _ else _) Q E s
  split
  · rename_i hc
    refine walk_perm X ?_ fun out hp => ?_
    · simp only [Bool.or_eq_true, decide_eq_true_eq] at hc
      rcases hc with (hc | hc) | hc
      · exact .inl hc
      · exact .inr (.inl hc)
      · exact .inr (.inr hc)
    · exact h out s.heap hp (Heap.SameBut.refl _ _) hR
  · refine wpAny_bind (quiet_of (a :: others) (fun b hb => ?_) ?_)
    · rcases List.mem_cons.mp hb with rfl | hb
      · exact ⟨_, _, _, X⟩
      · exact ho b hb
    · simp only [Bool.not_true, Bool.false_eq_true, if_false]
      refine wpAny_bind (wpAny_rule ?_)
      obtain ⟨o, er, epr, tr, hor, hex, hd, hel, hmem, hb, hf, hn⟩ := hR
      refine wpAny_bind (wpAny_setState_of hor hd hf ?_)
      dsimp only
      split
      · refine wpAny_bind (wpAny_storeSet_of hor hd ?_ (fits_of_scanBound hb))
        have hf' : ({ tr with led := tr.led && t.led, plain := tr.plain && t.plain } : SetTable).fits er.size = true := hf
        obtain ⟨_, hS⟩ := SetOf_store (knd := intKind prog w) hor hex hd hel hmem hb hf'
        rw [hn] at hS
        exact wpAny_pure (h es _ (List.Perm.refl _) (Heap.SameBut.update ..) hS)
      · exact wpAny_bind (wpAny_pure (wpAny_pure (h es s.heap (List.Perm.refl _) (Heap.SameBut.refl _ _) ⟨o, er, epr, tr, hor, hex, hd, hel, hmem, hb, hf, hn⟩)))
end
end Mine
end
section
open PySem PySem.Spec PyProof.Rows
set_option maxRecDepth 100000
namespace Mine
section
variable {prog : Program} {w : World} {A : Around} {E : Value → Shared → Prop} {s : Shared}
theorem inter_of {id : String} {a b : Addr} {Sa Sb : Int → Bool} {na nb : Nat} {c : Option Int} {Q : Value → Shared → Prop} (hab : b ≠ a) (hA : s.heap.SetOf (intKind prog w) a Sa na) (hB : s.heap.SetOf (intKind prog w) b Sb nb) (hc : ∀ k, (Sa k && Sb k) = decide (c = some k))
    (FIN : ∀ h', (∀ x o, s.heap.get? x = some o → h'.get? x = some o) → h'.SetOf (intKind prog w) s.heap.objs.size (fun k => decide (c = some k)) (if c.isSome then 1 else 0) → Q (.ref s.heap.objs.size) { s with heap := h' }) :
    wpAny (model prog w) A (Builtin.Frozenset.intersection id a (.ref b)) Q E s := by
  unfold Builtin.Frozenset.intersection
  have hne : (Value.ref b == Value.ref a) = false := by simpa using hab
  rw [hne]
  simp only [Bool.false_eq_true, if_false]
  obtain ⟨oa, esa, epa, ta, hoa, hexa, restA⟩ := (show _ from hA)
  obtain ⟨ob, esb, epb, tb, hob, hexb, restB⟩ := (show _ from hB)
  have hTa : s.TypeIs (.ref a) "set" := ⟨_, hoa, hexa.1⟩
  unfold Builtin.Frozenset.baseOf
  refine wpAny_bind (wpAny_bind (wpAny_isInstance hTa sub_set_self ?_))
  simp only [if_true]
  refine wpAny_pure ?_
  refine wpAny_bind (wpAny_newSet_of (knd := intKind prog w) fun led hR => ?_)
  have hA1 : (s.heap.push { cls := .type "set", dict := none, data := .set #[] 0 (.fresh 0 0 led) }).SetOf (intKind prog w) a Sa na := ⟨oa, esa, epa, ta, Heap.get?_push_of_some _ hoa, hexa, restA⟩
  have hB1 : (s.heap.push { cls := .type "set", dict := none, data := .set #[] 0 (.fresh 0 0 led) }).SetOf (intKind prog w) b Sb nb := ⟨ob, esb, epb, tb, Heap.get?_push_of_some _ hob, hexb, restB⟩
  have XA : Ents prog w (s.heap.push { cls := .type "set", dict := none, data := .set #[] 0 (.fresh 0 0 led) }) a esa epa ta := ⟨oa, Heap.get?_push_of_some _ hoa, hexa, restA.1, restA.2.1, restA.2.2.2.2.1⟩
  have XB : Ents prog w (s.heap.push { cls := .type "set", dict := none, data := .set #[] 0 (.fresh 0 0 led) }) b esb epb tb := ⟨ob, Heap.get?_push_of_some _ hob, hexb, restB.1, restB.2.1, restB.2.2.2.2.1⟩
  have har : a ≠ s.heap.objs.size := Nat.ne_of_lt (Heap.lt_size hoa)
  have hbr : b ≠ s.heap.objs.size := Nat.ne_of_lt (Heap.lt_size hob)
  refine wpAny_bind (wpAny_pure ?_)
  refine wpAny_bind (wpAny_holding ?_)
  have hTb : Shared.TypeIs { s with heap := s.heap.push { cls := .type "set", dict := none, data := .set #[] 0 (.fresh 0 0 led) } } (.ref b) "set" := ⟨_, Heap.get?_push_of_some _ hob, hexb.1⟩
  unfold Builtin.Frozenset.isAnySet
  refine wpAny_bind (wpAny_bind (wpAny_isInstance hTb sub_set_self ?_))
  refine wpAny_pure ?_
  simp only [if_true]
  refine wpAny_bind (wpAny_pure ?_)
  unfold Builtin.Frozenset.sizeOf
  refine wpAny_bind (wpAny_bind (XB.entries (s := { s with heap := s.heap.push { cls := .type "set", dict := none, data := .set #[] 0 (.fresh 0 0 led) } }) (wpAny_pure ?_)))
  refine wpAny_bind (wpAny_bind (XA.entries (s := { s with heap := s.heap.push { cls := .type "set", dict := none, data := .set #[] 0 (.fresh 0 0 led) } }) (wpAny_pure ?_)))
  have hmA := restA.2.2.1
  have hmB := restB.2.2.1
  clear restA restB hoa hob hTa hTb hexa hexb
  by_cases hz : esb.size > esa.size
  · simp only [if_pos hz]
    refine wpAny_bind (XA.epoch ?_)
    refine wpAny_bind (unseen_perm XA hR (fun x hx => ?_) fun out h2 hp hsb hR2 => ?_)
    · rcases List.mem_cons.mp hx with rfl | hx
      · exact ⟨_, _, _, XB⟩
      · rw [List.mem_singleton.mp hx]
        obtain ⟨es, ep, t, X, _⟩ := setOf_ents hR
        exact ⟨es, ep, t, X⟩
    have elo : ElemsOf (intKind prog w) out.toList := by
      obtain ⟨o, _, _, _, hel, _⟩ := XA
      exact hel.perm hp
    have hio : ∀ e ∈ out.toList, ∀ k, (intKind prog w).is k e.2 = true → Sa k = true := fun e he k hk => (hmA k).mpr ⟨e, hp.mem_iff.mp he, hk⟩
    have hoi : ∀ k, Sa k = true → ∃ e ∈ out.toList, (intKind prog w).is k e.2 = true := fun k hk => by
      obtain ⟨e, he, hi⟩ := (hmA k).mp hk
      exact ⟨e, hp.mem_iff.mpr he, hi⟩
    have hPs : ∀ h3 : Heap, Heap.SameBut s.heap.objs.size h2 h3 → h3.SetOf (intKind prog w) b Sb nb := fun h3 h23 => by
      obtain ⟨o, es, ep, t, ho, rest⟩ := hB1
      exact ⟨o, es, ep, t, (h23.2 b hbr).trans ((hsb.2 b hbr).trans ho), rest⟩
    have hQs : ∀ h3 : Heap, Heap.SameBut s.heap.objs.size h2 h3 → Ents prog w h3 a esa epa ta := fun h3 h23 => by
      obtain ⟨o, ho, rest⟩ := XA
      exact ⟨o, (h23.2 a har).trans ((hsb.2 a har).trans ho), rest⟩
    refine wpAny_bind (wpAny_forIn_array' _ (fun l (_ : PUnit) s' => ∃ (h3 : Heap) (bb : Bool), s' = { s with heap := h3 } ∧ Heap.SameBut s.heap.objs.size h2 h3 ∧ h3.SetOf (intKind prog w) s.heap.objs.size (fun k => bb && decide (c = some k)) (if bb then 1 else 0) ∧ ElemsOf (intKind prog w) l ∧ (∀ e ∈ l, e ∈ out.toList) ∧
        (bb = true → c.isSome = true) ∧ (∀ k, c = some k → bb = true ∨ ∃ e ∈ l, (intKind prog w).is k e.2 = true)) _ (fun e l _ s' hI => ?_) (fun _ s' hI => ?_) _ _ ?_)
    · obtain ⟨h3, bb, rfl, h23, hR3, hel, hsub, hbc, hcl⟩ := hI
      obtain ⟨⟨k, hk, hh⟩, hsc⟩ := hel.head
      have hQk : Sa k = true := hio e (hsub e (.head _)) k hk
      obtain ⟨eh, ex⟩ := e
      dsimp only at hk hh hsc ⊢
      subst hh
      refine wpAny_bind (wpAny_holding ?_)
      refine wpAny_bind (wpAny_setFind_of (knd := intKind prog w) (s := { s with heap := h3 }) hk hsc (hPs h3 h23) fun rr hrr => ?_)
      have hkc : Sb k = decide (c = some k) := by
        have := hc k
        rw [hQk] at this
        simpa using this
      rw [hrr, hkc]
      by_cases hck : c = some k
      · rw [decide_eq_true hck]
        simp only [if_true]
        refine wpAny_bind (wpAny_setAddHashed_of (knd := intKind prog w) (s := { s with heap := h3 }) hk hsc hR3 (by unfold scanBound; split <;> omega) fun h4 hsb4 hR4 => ?_)
        refine wpAny_pure ?_
        refine wpAny_bind ?_
        unfold Builtin.Frozenset.unchanged
        have h24 := h23.trans hsb4
        refine wpAny_bind ((hQs h4 h24).epoch (s := { s with heap := h4 }) ?_)
        simp only [bne_self_eq_false, Bool.false_eq_true, if_false]
        refine wpAny_pure (wpAny_pure ⟨h4, true, rfl, h24, ?_, hel.tail, fun e he => hsub e (.tail _ he), fun _ => by rw [hck]; rfl, fun _ _ => .inl rfl⟩)
        refine SetOf_congr hR4 (fun k' => ?_) ?_
        · subst hck
          cases bb <;> simp [eq_comm]
        · subst hck
          cases bb <;> simp
      · rw [decide_eq_false hck]
        simp only [Bool.false_eq_true, if_false]
        refine wpAny_pure ?_
        refine wpAny_bind ?_
        unfold Builtin.Frozenset.unchanged
        refine wpAny_bind ((hQs h3 h23).epoch (s := { s with heap := h3 }) ?_)
        simp only [bne_self_eq_false, Bool.false_eq_true, if_false]
        refine wpAny_pure (wpAny_pure ⟨h3, bb, rfl, h23, hR3, hel.tail, fun e he => hsub e (.tail _ he), hbc, fun k' hk' => ?_⟩)
        rcases hcl k' hk' with z | ⟨e', he', hi'⟩
        · exact .inl z
        · rcases List.mem_cons.mp he' with rfl | he'
          · exact absurd ((intKind prog w).inj _ k' k hi' hk ▸ hk') hck
          · exact .inr ⟨e', he', hi'⟩
    · obtain ⟨h3, bb, rfl, h23, hR3, _, _, hbc, hcl⟩ := hI
      refine wpAny_pure ?_
      have hb : bb = c.isSome := by
        cases c with
        | none => cases bb with
          | true => exact absurd (hbc rfl) (by simp)
          | false => rfl
        | some k => rcases hcl k rfl with z | ⟨_, he, _⟩
                    · rw [z]; rfl
                    · cases he
      subst hb
      refine wpAny_pure (FIN h3 (fun x o e => ?_) ?_)
      · have hx : x ≠ s.heap.objs.size := Nat.ne_of_lt (Heap.lt_size e)
        exact (h23.2 x hx).trans ((hsb.2 x hx).trans (Heap.get?_push_of_some _ e))
      · refine SetOf_congr hR3 (fun k => ?_) rfl
        cases c <;> simp
    · refine ⟨h2, false, rfl, Heap.SameBut.refl _ _, SetOf_congr hR2 (fun k => by simp) rfl, elo, fun e he => he, fun z => (nomatch z), fun k hk => .inr (hoi k ?_)⟩
      have := hc k
      rw [hk] at this
      simp at this
      exact this.1
  · simp only [if_neg hz]
    refine wpAny_bind (XB.epoch ?_)
    refine wpAny_bind (unseen_perm XB hR (fun x hx => ?_) fun out h2 hp hsb hR2 => ?_)
    · rcases List.mem_cons.mp hx with rfl | hx
      · exact ⟨_, _, _, XA⟩
      · rw [List.mem_singleton.mp hx]
        obtain ⟨es, ep, t, X, _⟩ := setOf_ents hR
        exact ⟨es, ep, t, X⟩
    have elo : ElemsOf (intKind prog w) out.toList := by
      obtain ⟨o, _, _, _, hel, _⟩ := XB
      exact hel.perm hp
    have hio : ∀ e ∈ out.toList, ∀ k, (intKind prog w).is k e.2 = true → Sb k = true := fun e he k hk => (hmB k).mpr ⟨e, hp.mem_iff.mp he, hk⟩
    have hoi : ∀ k, Sb k = true → ∃ e ∈ out.toList, (intKind prog w).is k e.2 = true := fun k hk => by
      obtain ⟨e, he, hi⟩ := (hmB k).mp hk
      exact ⟨e, hp.mem_iff.mpr he, hi⟩
    have hPs : ∀ h3 : Heap, Heap.SameBut s.heap.objs.size h2 h3 → h3.SetOf (intKind prog w) a Sa na := fun h3 h23 => by
      obtain ⟨o, es, ep, t, ho, rest⟩ := hA1
      exact ⟨o, es, ep, t, (h23.2 a har).trans ((hsb.2 a har).trans ho), rest⟩
    have hQs : ∀ h3 : Heap, Heap.SameBut s.heap.objs.size h2 h3 → Ents prog w h3 b esb epb tb := fun h3 h23 => by
      obtain ⟨o, ho, rest⟩ := XB
      exact ⟨o, (h23.2 b hbr).trans ((hsb.2 b hbr).trans ho), rest⟩
    refine wpAny_bind (wpAny_forIn_array' _ (fun l (_ : PUnit) s' => ∃ (h3 : Heap) (bb : Bool), s' = { s with heap := h3 } ∧ Heap.SameBut s.heap.objs.size h2 h3 ∧ h3.SetOf (intKind prog w) s.heap.objs.size (fun k => bb && decide (c = some k)) (if bb then 1 else 0) ∧ ElemsOf (intKind prog w) l ∧ (∀ e ∈ l, e ∈ out.toList) ∧
        (bb = true → c.isSome = true) ∧ (∀ k, c = some k → bb = true ∨ ∃ e ∈ l, (intKind prog w).is k e.2 = true)) _ (fun e l _ s' hI => ?_) (fun _ s' hI => ?_) _ _ ?_)
    · obtain ⟨h3, bb, rfl, h23, hR3, hel, hsub, hbc, hcl⟩ := hI
      obtain ⟨⟨k, hk, hh⟩, hsc⟩ := hel.head
      have hQk : Sb k = true := hio e (hsub e (.head _)) k hk
      obtain ⟨eh, ex⟩ := e
      dsimp only at hk hh hsc ⊢
      subst hh
      refine wpAny_bind (wpAny_holding ?_)
      refine wpAny_bind (wpAny_setFind_of (knd := intKind prog w) (s := { s with heap := h3 }) hk hsc (hPs h3 h23) fun rr hrr => ?_)
      have hkc : Sa k = decide (c = some k) := by
        have := hc k
        rw [hQk] at this
        simpa using this
      rw [hrr, hkc]
      by_cases hck : c = some k
      · rw [decide_eq_true hck]
        simp only [if_true]
        refine wpAny_bind (wpAny_setAddHashed_of (knd := intKind prog w) (s := { s with heap := h3 }) hk hsc hR3 (by unfold scanBound; split <;> omega) fun h4 hsb4 hR4 => ?_)
        refine wpAny_pure ?_
        refine wpAny_bind ?_
        unfold Builtin.Frozenset.unchanged
        have h24 := h23.trans hsb4
        refine wpAny_bind ((hQs h4 h24).epoch (s := { s with heap := h4 }) ?_)
        simp only [bne_self_eq_false, Bool.false_eq_true, if_false]
        refine wpAny_pure (wpAny_pure ⟨h4, true, rfl, h24, ?_, hel.tail, fun e he => hsub e (.tail _ he), fun _ => by rw [hck]; rfl, fun _ _ => .inl rfl⟩)
        refine SetOf_congr hR4 (fun k' => ?_) ?_
        · subst hck
          cases bb <;> simp [eq_comm]
        · subst hck
          cases bb <;> simp
      · rw [decide_eq_false hck]
        simp only [Bool.false_eq_true, if_false]
        refine wpAny_pure ?_
        refine wpAny_bind ?_
        unfold Builtin.Frozenset.unchanged
        refine wpAny_bind ((hQs h3 h23).epoch (s := { s with heap := h3 }) ?_)
        simp only [bne_self_eq_false, Bool.false_eq_true, if_false]
        refine wpAny_pure (wpAny_pure ⟨h3, bb, rfl, h23, hR3, hel.tail, fun e he => hsub e (.tail _ he), hbc, fun k' hk' => ?_⟩)
        rcases hcl k' hk' with z | ⟨e', he', hi'⟩
        · exact .inl z
        · rcases List.mem_cons.mp he' with rfl | he'
          · exact absurd ((intKind prog w).inj _ k' k hi' hk ▸ hk') hck
          · exact .inr ⟨e', he', hi'⟩
    · obtain ⟨h3, bb, rfl, h23, hR3, _, _, hbc, hcl⟩ := hI
      refine wpAny_pure ?_
      have hb : bb = c.isSome := by
        cases c with
        | none => cases bb with
          | true => exact absurd (hbc rfl) (by simp)
          | false => rfl
        | some k => rcases hcl k rfl with z | ⟨_, he, _⟩
                    · rw [z]; rfl
                    · cases he
      subst hb
      refine wpAny_pure (FIN h3 (fun x o e => ?_) ?_)
      · have hx : x ≠ s.heap.objs.size := Nat.ne_of_lt (Heap.lt_size e)
        exact (h23.2 x hx).trans ((hsb.2 x hx).trans (Heap.get?_push_of_some _ e))
      · refine SetOf_congr hR3 (fun k => ?_) rfl
        cases c <;> simp
    · refine ⟨h2, false, rfl, Heap.SameBut.refl _ _, SetOf_congr hR2 (fun k => by simp) rfl, elo, fun e he => he, fun z => (nomatch z), fun k hk => .inr (hoi k ?_)⟩
      have := hc k
      rw [hk] at this
      simp at this
      exact this.2
theorem entry_set_intersection : entryFor table "set.intersection" = some Builtin.«frozenset.intersection» := entryFor_alias (id' := "frozenset.intersection") (by kernel_rfl) rfl (by decide +kernel) (by kernel_rfl)
theorem call_inter {a b : Addr} {Sa Sb : Int → Bool} {na nb : Nat} {c : Option Int} {Q : Value → Shared → Prop} (hab : b ≠ a) (hA : s.heap.SetOf (intKind prog w) a Sa na) (hB : s.heap.SetOf (intKind prog w) b Sb nb) (hc : ∀ k, (Sa k && Sb k) = decide (c = some k))
    (h : ∀ h', (∀ x o, s.heap.get? x = some o → h'.get? x = some o) → h'.SetOf (intKind prog w) s.heap.objs.size (fun k => decide (c = some k)) (if c.isSome then 1 else 0) → Q (.ref s.heap.objs.size) { s with heap := h' }) :
    wpAny (model prog w) A (call (.builtin "set.intersection") [.ref a, .ref b]) Q E s := by
  obtain ⟨oa, esa, epa, ta, hoa, hexa, restA⟩ := (show _ from hA)
  have hTa : s.TypeIs (.ref a) "set" := ⟨_, hoa, hexa.1⟩
  refine wpAny_call (codeAny_call_builtin F.slot_set_intersection.plain entry_set_intersection (F.slot_set_intersection.check _ _ _ _ _ _ _ _ hTa (F.args_set_intersection_2 _ _) ?_))
  show wpAny _ A.in1 (Builtin.«frozenset.intersection» _) _ _ s
  unfold Builtin.«frozenset.intersection» Builtin.Frozenset.manyOthers
  refine wpAny_bind (wpAny_bind (wpAny_pure (wpAny_pure ?_)))
  dsimp only
  simp only [List.isEmpty_cons, Bool.false_eq_true, if_false]
  refine wpAny_bind ?_
  rw [List.forIn_cons]
  refine wpAny_bind (wpAny_bind (wpAny_holding (wpAny_bind (wpAny_pure ?_))))
  refine inter_of hab hA hB hc fun h' hk hS => ?_
  refine wpAny_pure ?_
  dsimp only
  rw [List.forIn_nil]
  exact wpAny_pure (wpAny_pure (h h' hk hS))
theorem pop_some {a : Addr} {S : Int → Bool} {k : Int} {Q : Option Value → Shared → Prop} (hS : s.heap.SetOf (intKind prog w) a S 1) (hk : S k = true)
    (h : ∀ t h' d, Heap.SameBut a s.heap h' → Q (some (.int k t)) { s with heap := h', drawn := d }) : wpAny (model prog w) A (setPop a) Q E s := by
  obtain ⟨o, es, ep, t, ho, hex, hd, hel, hmem, hb, hf, hn⟩ := hS
  have hx : ∃ tk, es[0]? = some ((intKind prog w).hash k, .int k tk) := by
    obtain ⟨e, he, hi⟩ := (hmem k).mp hk
    obtain ⟨k', hk', hh⟩ := (hel e he).1
    have e1 := (intKind prog w).inj _ k k' hi hk'
    subst e1
    have hl : es.toList = [e] := by
      have : es.toList.length = 1 := by rw [Array.length_toList]; exact hn
      match hq : es.toList, this with
      | [x], _ => rw [hq] at he; rw [List.mem_singleton.mp he]
    obtain ⟨eh, ex⟩ := e
    dsimp only at hh hi
    subst hh
    obtain ⟨tk, hxx⟩ := Value.isInt_shape (show Value.isInt k ex = true from hi)
    subst hxx
    refine ⟨tk, ?_⟩
    rw [← Array.getElem?_toList, hl]; rfl
  obtain ⟨tk, hx⟩ := hx
  unfold setPop setsByText
  refine wpAny_bind (wpAny_setState_of ho hd hf ?_)
  have hpl : t.place.size = 1 := by
    simp only [SetTable.fits, Bool.and_eq_true, beq_iff_eq] at hf
    rw [hf.1]; exact hn
  have hpp : t.popPlace = some 0 := by
    unfold SetTable.popPlace
    have : t.place.isEmpty = false := by unfold Array.isEmpty; rw [hpl]; rfl
    rw [this]
    simp only [Bool.false_eq_true, if_false]
    congr 1
    split <;> omega
  dsimp only
  rw [hpp]
  dsimp only
  have hsz : (SetTable.eraseAt es 0).size ≤ sizeLine := by
    have h1 : (SetTable.eraseAt es 0).size ≤ es.size := by simp [SetTable.eraseAt]
    have h2 := fits_of_scanBound hb
    omega
  refine wpAny_bind (wpAny_bind (wpAny_askSetting (wpAny_pure ?_)))
  show wpAny (model prog w) A (if (w.params.followText "set-order" || _) = true then _ else _) _ E s
  split
  · refine wpAny_bind (wpAny_chooseD (by rw [hn]; decide) fun i d hi => ?_)
    obtain rfl : i = 0 := by rw [hn] at hi; omega
    rw [hx]
    exact wpAny_bind (wpAny_storeSet_of (s := { s with drawn := d }) ho hd (wpAny_pure (h tk _ d (Heap.SameBut.update ..))) hsz)
  · have hd2 : decide (es.size > 1) = false := decide_eq_false (by omega)
    refine wpAny_bind (m := _) (show wpAny (model prog w) A (if (!t.led && decide (es.size > 1)) = true then unsupported _ else pure PUnit.unit) _ E s from ?_)
    rw [hd2]
    simp only [Bool.and_false, Bool.false_eq_true, if_false]
    refine wpAny_pure (wpAny_bind (wpAny_pure ?_))
    rw [hx]
    exact wpAny_bind (wpAny_storeSet_of ho hd (wpAny_pure (h tk _ s.drawn (Heap.SameBut.update ..))) hsz)
theorem pop_none {a : Addr} {S : Int → Bool} {Q : Option Value → Shared → Prop} (hS : s.heap.SetOf (intKind prog w) a S 0) (h : Q none s) : wpAny (model prog w) A (setPop a) Q E s := by
  obtain ⟨o, es, ep, t, ho, hex, hd, hel, hmem, hb, hf, hn⟩ := hS
  unfold setPop
  refine wpAny_bind (wpAny_setState_of ho hd hf ?_)
  have hpl : t.place.size = 0 := by
    simp only [SetTable.fits, Bool.and_eq_true, beq_iff_eq] at hf
    rw [hf.1]; exact hn
  have hpp : t.popPlace = none := by
    unfold SetTable.popPlace
    have : t.place.isEmpty = true := by rw [Array.isEmpty_iff_size_eq_zero]; exact hpl
    rw [this]; rfl
  dsimp only
  rw [hpp]
  exact wpAny_pure h
theorem call_pop_some {a : Addr} {S : Int → Bool} {k : Int} {Q : Value → Shared → Prop} (hS : s.heap.SetOf (intKind prog w) a S 1) (hk : S k = true)
    (h : ∀ t h' d, Heap.SameBut a s.heap h' → Q (.int k t) { s with heap := h', drawn := d }) : wpAny (model prog w) A (call (.builtin "set.pop") [.ref a]) Q E s := by
  obtain ⟨oa, esa, epa, ta, hoa, hexa, restA⟩ := (show _ from hS)
  have hTa : s.TypeIs (.ref a) "set" := ⟨_, hoa, hexa.1⟩
  refine wpAny_call (codeAny_call_builtin F.slot_set_pop.plain F.entry_set_pop (F.slot_set_pop.check _ _ _ _ _ _ _ _ hTa (F.args_set_pop_1 _) ?_))
  show wpAny _ A.in1 (Builtin.«set.pop» _) _ _ s
  unfold Builtin.«set.pop» Builtin.Frozenset.noArgs
  refine wpAny_bind (wpAny_pure ?_)
  refine wpAny_bind (pop_some hS hk fun t h' d hsb => ?_)
  exact wpAny_pure (h t h' d hsb)
theorem call_pop_none {a : Addr} {S : Int → Bool} {Q : Value → Shared → Prop} (hh : A.handled = none) (hS : s.heap.SetOf (intKind prog w) a S 0)
    (h : ∀ h' tk e, Heap.NewExc s.heap h' e "KeyError" → E (.ref e) { s with heap := h', toks := tk }) : wpAny (model prog w) A (call (.builtin "set.pop") [.ref a]) Q E s := by
  obtain ⟨oa, esa, epa, ta, hoa, hexa, restA⟩ := (show _ from hS)
  have hTa : s.TypeIs (.ref a) "set" := ⟨_, hoa, hexa.1⟩
  refine wpAny_call (codeAny_call_builtin F.slot_set_pop.plain F.entry_set_pop (F.slot_set_pop.check _ _ _ _ _ _ _ _ hTa (F.args_set_pop_1 _) ?_))
  show wpAny _ A.in1 (Builtin.«set.pop» _) _ _ s
  unfold Builtin.«set.pop» Builtin.Frozenset.noArgs
  refine wpAny_bind (wpAny_pure ?_)
  refine wpAny_bind (pop_none hS ?_)
  refine wpAny_bind (wpAny_rule ?_)
  exact_raiseError plainExc_KeyError hh h
end
end Mine
end
section
set_option maxRecDepth 100000
namespace Mine
/-- a generator that yields val 0 .. val (n - 1), its own objects at Kb and above -/
def GenInts (prog : Program) (w : World) (A : Around) (a : Addr) (n : Nat) (val : Nat → Int) (Kb : Addr) (s : Shared) : Prop :=
  ∃ fp wr g P St, WalksS prog w A.in4 a fp wr (GenOnlyQ g) n P St ∧ St 0 s ∧ (∀ i s', St i s' → s'.TypeIs (.ref a) "generator") ∧ a ∈ fp ∧ (∀ b ∈ fp, b < s.heap.objs.size) ∧ (∀ b ∈ wr, Kb ≤ b) ∧ ∀ i v, P i v → ∃ t, v = .int (val i) t
theorem passing_true (n : Nat) : passing (fun _ => true) n 0 = List.range n := by simp [passing]
section
variable {prog : Program} {w : World} {A : Around} {E : Value → Shared → Prop} {s : Shared}
theorem gen_add {cn : Str} {cs : Scope} {L a c P : Addr} {cl : List (Str × Addr)} {x y : Str} {p2 p3 p4 px : Pos} {iter : Expr} {scope : Scope} {pos : Pos} {cy : Addr} {d : Int} {td : Tok} {N st : Int} {n : Nat} {ps : Array Value} {Q : Value → Shared → Prop}
    (hh : A.handled = none) (hco : scope.isCoroutine = false) (hclos : closureFor scope (envX cn cs L a (.ref c) cl) = pure [(y, cy)]) (hcell : ∀ z ∈ scope.names, z.2 ≠ .cell) (h0 : scope.names.lookup (".0" : Str) = some NameKind.local)
    (hx : scope.names.lookup x = some .local) (hy : scope.names.lookup y = some .free) (hkind : scope.kind = .function) (hroom : A.depth < recursionLimit)
    (hdx : (x == ("__debug__" : Str)) = false) (hdy : (y == ("__debug__" : Str)) = false) (hny : (y == ("__classdict__" : Str)) = false) (hs : ∀ z, genFold iter (envX cn cs L a (.ref c) cl) z = pure z)
    (hsmall : Builtin.Range.small 0 N st = true) (hn : Builtin.Range.rangeSize 0 N st = (n : Int))
    (hit : wpAny (model prog w) A (eval iter (envX cn cs L a (.ref c) cl)) (fun xv s₁ => ∃ r t u v h₁ tk, xv = .ref r ∧ s₁ = { s with heap := h₁, toks := tk } ∧ IsRange h₁ r 0 N st t u v ∧ s.heap.objs.size ≤ h₁.objs.size ∧ ∀ b o, s.heap.get? b = some o → h₁.get? b = some o) E s)
    (hIC : s.heap.IsCode c P ps) (hTA : s.heap.TableAt c P ps) (hPs : P ≠ cStatics) (hlim : s.heap.NoLimit) (hv : s.heap.IsCell cy (some (.int d td)))
    (hbi : ∀ (s₃ : Shared) (Q' : Addr → Shared → Prop), (∀ b o, b ≠ P → s.heap.get? b = some o → s₃.heap.get? b = some o) → Q' builtinsNs s₃ → wpAny (model prog w) A (builtinsFor mainGlobals builtinsNs) Q' E s₃)
    (hQ : ∀ g h' gs' tk' ps', GenInts prog w A g n (fun i => (i : Nat) * st + d) s.heap.objs.size { s with heap := h', gens := gs', toks := tk' } → (∀ b o, b ≠ P → s.heap.get? b = some o → h'.get? b = some o) → h'.TableAt c P ps' → TriplesOk ps'.toList → (AllBare s.gens → AllBare gs') →
      Q (.ref g) { s with heap := h', gens := gs', toks := tk' }) :
    wpAny (model prog w) A (eval (.GeneratorExp (.BinOp (.Name x p2) .Add (.Name y p3) p4) [⟨.Name x px, iter, [], 0⟩] scope pos) (envX cn cs L a (.ref c) cl)) Q E s := by
  refine wpAny_GeneratorExp_walksQ hh hco hclos hcell h0 hx hkind hroom (wpAny_mono hit (fun xv s₁ h₁ => ?_) fun _ _ e => e) hs
  obtain ⟨r, t, u, v, hp₁, tk₁, rfl, rfl, hr, hge₁, hk₁⟩ := h₁
  have hPlt : P < s.heap.objs.size := hIC.lt.2
  obtain ⟨oc, hoc, hdc⟩ := id hv
  have hcylt : cy < s.heap.objs.size := Heap.lt_size hoc
  have hcyP : cy ≠ P := fun e => by
    subst e
    rw [hTA.2] at hoc
    cases hoc
    cases hdc
  refine wpAny_pyIter_range hr hsmall ⟨(hlim.keeps hk₁).push _, ?_⟩
  have hk₂ : ∀ b o, s.heap.get? b = some o → (hp₁.push { cls := .type "range_iterator", data := .fields #[rawInt 0, rawInt (Builtin.Range.rangeSize 0 N st), rawInt st] }).get? b = some o := fun b o e => Heap.get?_push_of_some _ (hk₁ b o e)
  have rest : ∀ (code : Value) (h₃ : Heap) (tk₃ : Nat) (ps' : Array Value), Heap.ExtBut P (hp₁.push { cls := .type "range_iterator", data := .fields #[rawInt 0, rawInt (Builtin.Range.rangeSize 0 N st), rawInt st] }) h₃ → h₃.TableAt c P ps' → TriplesOk ps'.toList →
      wpAny (model prog w) A (builtinsFor mainGlobals builtinsNs) (fun bi s₄ =>
        ∃ I fp wr n₀ Pi St₀ pz F, Value.ref hp₁.objs.size = .ref I ∧ (∀ A' : Around, A'.handled = none → Walks prog w A' I fp wr n₀ Pi St₀) ∧ St₀ 0 s₄.heap ∧ (∀ b ∈ fp, b < s₄.heap.objs.size) ∧ s₄.heap.NoLimit ∧ cStatics ∉ wr ∧
          (∀ href : Heap, (∀ b o, s₄.heap.get? b = some o → href.get? b = some o) →
            QuietGen prog w (genEnv scope [(y, cy)] s₄.heap.objs.size code bi (envX cn cs L a (.ref c) cl)) x [] (.BinOp (.Name x p2) .Add (.Name y p3) p4) (List.range s₄.heap.objs.size) wr Pi pz F href) ∧
          (∀ a₁ h₅ tk gs, gs.bare = true → s₄.heap.objs.size < a₁ → h₅.objs.size = a₁ + 1 → (∀ b o, s₄.heap.get? b = some o → h₅.get? b = some o) →
            WalksS prog w A.in4 a₁ (a₁ :: s₄.heap.objs.size :: List.range s₄.heap.objs.size) (s₄.heap.objs.size :: wr) (GenOnlyQ s₄.gens.size) (passing pz n₀ 0).length
              (fun j y => ∃ i, (passing pz n₀ 0)[j]? = some i ∧ F i y) (GenAt prog w A.in4 a₁ s₄.gens.size s₄.heap.objs.size (List.range s₄.heap.objs.size) wr pz n₀ F) →
            GenAt prog w A.in4 a₁ s₄.gens.size s₄.heap.objs.size (List.range s₄.heap.objs.size) wr pz n₀ F 0 { s₄ with gens := s₄.gens.push gs, toks := tk, heap := h₅ } →
            Q (.ref a₁) { s₄ with gens := s₄.gens.push gs, toks := tk, heap := h₅ })) E { s with heap := h₃, toks := tk₃ } := by
    intro code h₃ tk₃ ps' hx₃ htab₃ htr₃
    have hk₃ : ∀ b o, b ≠ P → s.heap.get? b = some o → h₃.get? b = some o := fun b o hb e => hx₃ b o hb (hk₂ b o e)
    refine hbi _ _ hk₃ ?_
    have hIP : hp₁.objs.size ≠ P := Nat.ne_of_gt (Nat.lt_of_lt_of_le hPlt hge₁)
    have hI₃ : IsRangeIter h₃ hp₁.objs.size (0 + ((0 : Nat) : Int) * st) ((n : Int) - ((0 : Nat) : Int)) st := by
      refine hx₃ _ _ hIP ?_
      rw [hn]
      simpa using Heap.get?_push_size _ rfl
    have hIlt : hp₁.objs.size < h₃.objs.size := Heap.lt_size hI₃
    have hcs : cStatics < s.heap.objs.size := let ⟨_, hns, _⟩ := hlim; hns.lt
    refine ⟨hp₁.objs.size, [hp₁.objs.size], [hp₁.objs.size], n, _, _, fun _ => true, fun i z => i < n ∧ ∃ t, z = .int ((i : Nat) * st + d) t, rfl, fun A' hA => (Walks.range hA _ 0 st n).bound, hI₃, ?_, ?_, ?_, fun href hhref => ?_, fun a₁ h₅ tk gs hgb hag hsz₅ hk₅ W hat => ?_⟩
    · intro b hb
      rw [List.mem_singleton.mp hb]; exact hIlt
    · obtain ⟨mc, hns, hnn⟩ := hlim
      exact ⟨mc, hns.at fun o e => hk₃ _ o hPs.symm e, hnn⟩
    · intro hm
      rw [List.mem_singleton] at hm
      exact absurd hcs (by rw [hm]; exact Nat.not_lt.mpr hge₁)
    · have hcell₃ : ∀ s₂ : Shared, (∀ b ∈ List.range h₃.objs.size, b ∉ [hp₁.objs.size] → ∀ o, href.get? b = some o → s₂.heap.get? b = some o) → s₂.heap.IsCell cy (some (.int d td)) := fun s₂ hs₂ =>
        ⟨oc, hs₂ cy (List.mem_range.mpr (Heap.lt_size (hk₃ _ _ hcyP hoc))) (fun hm => absurd hcylt (by rw [List.mem_singleton.mp hm]; exact Nat.not_lt.mpr hge₁)) oc (hhref _ _ (hk₃ _ _ hcyP hoc)), hdc⟩
      refine ⟨fun A' E' i z s₂ m₂ hA hz hm hmx hkp => ?_, fun A' E' i z s₂ m₂ hA hz _ hm hmx hkp => ?_⟩
      · rw [List.forIn_nil]
        exact wpAny_pure ⟨rfl, s₂.heap, s₂.toks, rfl, fun _ _ e => e⟩
      · obtain ⟨hi, t', rfl⟩ := hz
        refine wpAny_BinOp ?_
        refine wpAny_Name (wpAny_loadName_local hkind hx hm hmx ?_) hdx
        refine wpAny_Name (wpAny_loadName_free (c := cy) hkind hy (by simp [genEnv]) (hcell₃ _ hkp) ?_ hny) hdy
        refine add_int ?_
        exact ⟨⟨hi, _, by rw [Int.zero_add]⟩, s₂.heap, _, rfl, fun _ _ e => e⟩
    · refine hQ a₁ h₅ _ tk ps' ?_ (fun b o hb e => hk₅ b o (hk₃ b o hb e)) (htab₃.keeps hk₅) htr₃ (fun hg => hg.push hgb)
      rw [passing_true, List.length_range] at W
      refine ⟨_, _, _, _, _, W, hat, fun i s' st => st.1.typeIs, List.mem_cons_self, ?_, ?_, ?_⟩
      · intro b hb
        show b < h₅.objs.size
        rw [hsz₅]
        rcases List.mem_cons.mp hb with rfl | hb
        · exact Nat.lt_succ_self _
        · rcases List.mem_cons.mp hb with rfl | hb
          · exact Nat.lt_succ_of_lt hag
          · exact Nat.lt_succ_of_lt (Nat.lt_trans (List.mem_range.mp hb) hag)
      · intro b hb
        rcases List.mem_cons.mp hb with rfl | hb
        · exact Nat.le_trans hge₁ (Nat.le_of_lt hIlt)
        · rw [List.mem_singleton.mp hb]; exact hge₁
      · rintro i z ⟨j, hj, hF⟩
        have hji : j = i := by
          by_cases hi : i < n
          · rw [List.getElem?_eq_getElem (by simpa using hi)] at hj
            simpa using (Option.some.inj hj).symm
          · rw [List.getElem?_eq_none (by simpa using Nat.le_of_not_lt hi)] at hj; cases hj
        subst hji
        exact hF.2
  cases hca : codeAmong pos ps.toList with
  | some c' => exact wpAny_genexprCode_hit rfl (hIC.keeps hk₂) hca (rest c' _ _ ps (Heap.ExtBut.refl _ _) (hTA.keeps hk₂) (let ⟨_, _, _, _, _, _, _, _, _, _, _, _, _, _, _, _, _, _, _, htr, _⟩ := hIC; htr))
  | none =>
    refine wpAny_genexprCodeX rfl (hIC.keeps hk₂) (hTA.keeps hk₂) hca fun c' h₃ tk₃ hx₃ _ _ _ _ htab₃ _ => rest _ h₃ tk₃ _ hx₃ htab₃ ?_
    have htr := (let ⟨_, _, _, _, _, _, _, _, _, _, _, _, _, _, _, _, _, _, _, htr, _⟩ := hIC; htr)
    have := TriplesOk_snoc pos.line pos.col (.ref c') ps.toList htr
    simpa using this
theorem set_gen_K {h₀ : Heap} {L g Kb : Addr} {m : Str → Option Value} {news : List (Addr × Obj)} {n : Nat} {val : Nat → Int} {Q : Value → Shared → Prop} (F : Fr h₀ L s.heap m) (N : News h₀ L s.heap news) (X : GenInts prog w A g n val Kb s) (hK : ∀ p ∈ news, p.1 < Kb) (hLK : L < Kb) (hb : n + 1 < scanBound)
    (h : ∀ D o h' gs' tk', Fr h₀ L h' m → News h₀ L h' ((D, o) :: news) → (∀ p ∈ news, p.1 < D) → o.SetObjOf (intKind prog w) (fun k => (firstMet val n).any (· == k)) (firstMet val n).length → (AllBare s.gens → AllBare gs') → Q (.ref D) { s with heap := h', gens := gs', toks := tk' }) :
    wpAny (model prog w) A (call (.type "set") [.ref g]) Q E s := by
  obtain ⟨fp, wr, gg, P, St, W, hst, hT, ha, hfp, hwr, hval⟩ := X
  refine set_of_gen W hT hst hfp ha val hval hb fun s' hm hS => ?_
  obtain ⟨o, ho, hso⟩ := hS.objOf
  obtain ⟨oL, _, _, hL, _⟩ := F.ns
  have hLlt : L < s.heap.objs.size := Heap.lt_size hL
  have hwr' : ∀ b ∈ s.heap.objs.size :: wr, L < b := fun b hb => by
    rcases List.mem_cons.mp hb with rfl | hb
    · exact hLlt
    · exact Nat.lt_of_lt_of_le hLK (hwr b hb)
  have F' := F.moved hm hwr'
  have hG : AllBare s.gens → AllBare s'.gens := fun hg => AllBare.movedS hg hm
  have e : s' = { s with heap := s'.heap, gens := s'.gens, toks := s'.toks } := by
    obtain ⟨a1, a2, a3, a4, a5⟩ := s'
    have e1 : a3 = s.drawn := hm.drawn
    have e2 : a5 = s.os := hm.os
    subst e1; subst e2; rfl
  rw [e]
  refine h _ o _ _ _ F' (fun p hp => ?_) (fun p hp => Heap.lt_size (N p hp).1) hso hG
  rcases List.mem_cons.mp hp with rfl | hp
  · refine ⟨ho, Nat.ne_of_gt hLlt, ?_⟩
    cases hq : h₀.get? s.heap.objs.size with
    | none => rfl
    | some o' => exact absurd (Heap.lt_size (F.keep _ _ hq)) (Nat.lt_irrefl _)
  · refine ⟨hm.heap _ _ (fun hmem => ?_) (N p hp).1, (N p hp).2⟩
    rcases List.mem_cons.mp hmem with e | hmem
    · exact absurd (Heap.lt_size (N p hp).1) (by rw [e]; exact Nat.lt_irrefl _)
    · exact absurd (hK p hp) (Nat.not_lt.mpr (hwr _ hmem))
end
end Mine
end
section
open PySem PySem.Spec PyProof.Rows PySem.W
set_option maxRecDepth 100000
namespace Mine
section
variable {prog : Program} {w : World} {A : Around} {E : Value → Shared → Prop} {s : Shared}
theorem isStrOf_at (k : Str) : ∀ {vs : List Value} {xs : List Str}, StrsAre vs xs → ∀ (j : Nat) (h1 : j < vs.length) (h2 : j < xs.length), isStrOf k vs[j] = (xs[j] == k)
  | _, _, .cons n t _, 0, _, _ => rfl
  | _, _, .cons n t r, j + 1, h1, h2 => isStrOf_at k r j (Nat.lt_of_succ_lt_succ h1) (Nat.lt_of_succ_lt_succ h2)
theorem index_strs {l : Addr} {vs : List Value} {xs : List Str} {k : Str} {t : Tok} {j : Nat} {Q : Value → Shared → Prop} (hl : s.heap.IsList l vs.toArray) (hx : StrsAre vs xs) (hj : j < xs.length) (hz : xs.length < 1000) (hk : xs[j] = k) (hno : ∀ m (hm : m < xs.length), m < j → xs[m] ≠ k)
    (h : Q (.int (j : Nat) s.toks) { s with toks := s.toks + 1 }) : wpAny (model prog w) A (call (.builtin "list.index") [.ref l, .str k t]) Q E s := by
  obtain ⟨⟨cls, dd, data, sl⟩, ho, hc, n, hd⟩ := id hl
  simp only at hc hd
  subst hc hd
  have hlen := hx.length
  refine call_meets PySem.F.slot_list_index ⟨_, ho, rfl⟩ PySem.F.entry_list_index (PySem.F.args_list_index_2 _ _)
    (SeqAt.list_indexAt l vs.toArray n dd sl (.str k t) (isStrOf k) j (by simpa [hlen] using hj) (by omega) ?_ ?_) ⟨ho, fun y hy => (eq_isStrOf k t hx y (by simpa using hy)).at _ _, h⟩
  · show isStrOf k vs[j] = true
    rw [isStrOf_at k hx _ (by omega) hj]
    simpa using hk
  · intro i hi hlt
    show isStrOf k vs[i] = false
    rw [isStrOf_at k hx i (by simpa using hi) (by omega)]
    simpa using hno i (by omega) hlt
theorem index_none_loop (l : Addr) (items : Array Value) (n : Nat) (dd : Option Addr) (sl : Array (Option Value)) (k : Str) (t : Tok) (e : Value → Bool) (upto : Int) (hu : (items.size : Int) ≤ upto) (hrep : (reprText k ++ (" is not in list" : String)).length ≤ sizeLine) (hrep2 : (reprText k).length ≤ sizeLine) (hno : ∀ y, y ∈ items → e y = false) (d : Nat) :
    ∀ i : Nat, items.size - i = d → Meets (Builtin.«list.index.loop» ⟨[.ref l, .str k t, rawInt i, rawInt upto], []⟩)
      (fun A R s => A.handled = none ∧ s.heap.get? l = some { cls := .type "list", dict := dd, data := .seq items n, slots := sl } ∧ (∀ y, y ∈ items → SeqAt.EqAt A.in1 s y (.str k t) (e y)) ∧ ∀ h' tk x, Heap.NewExc s.heap h' x "ValueError" → R (.error (.ref x)) { s with heap := h', toks := tk }) := by
  induction d with
  | zero =>
    intro i hd prog w A R s h
    obtain ⟨hp, g, dr, tk, os⟩ := s; obtain ⟨hh, hl, he, h⟩ := h
    wp_walk using AutoSeq1.wpAny_loadPart' hl
    have hi : (if (i : Int) < upto then items[((i : Nat) : Int).toNat]? else none) = none := by
      split
      · simp; omega
      · rfl
    rw [hi]
    refine wpAny_bind (wpAny_rule ?_)
    refine wpAny_bind (wpAny_pyRepr_str ?_ hrep2)
    unfold Builtin.List.listRaiseStr
    revert hrep
    generalize (reprText k ++ Str.ofString " is not in list") = msg
    intro hrep
    refine wpAny_bind (PySem.wpAny_mkStr ?_ hrep)
    refine wpAny_raise_newExc (A := A.in1) (cls := "ValueError") plainExc_ValueError hh (fun h' e x => ?_) (by show 1 ≤ sizeLine; rw [sizeLine_eq]; omega)
    exact h h' _ e x

  | succ d ih =>
    intro i hd prog w A R s h
    obtain ⟨hp, g, dr, tk, os⟩ := s; obtain ⟨hh, hl, he, h⟩ := h
    have hlt : i < items.size := by omega
    have hst : (i : Int) < upto := by omega
    wp_walk using AutoSeq1.wpAny_loadPart' hl
    have hi : (if (i : Int) < upto then items[((i : Nat) : Int).toNat]? else none) = some items[i] := by simp [hst, hlt]
    have hc : ((i : Int) + 1) = ((i + 1 : Nat) : Int) := by push_cast; rfl
    rw [hi]
    refine wpAny_bind (he _ (Array.getElem_mem hlt) prog w _ _ ?_)
    rw [hno _ (Array.getElem_mem hlt)]
    wp_walk
    rw [hc]
    exact ⟨plainId_quiet MeetsSeq.plain_index_loop _, codeAny_builtin MeetsSeq.entry_index_loop (by
      rw [Around.under_plainId MeetsSeq.plain_index_loop _]
      exact ih (i + 1) (by omega) prog w A R _ ⟨hh, hl, he, h⟩)⟩
theorem index_strs_none {l : Addr} {vs : List Value} {xs : List Str} {k : Str} {t : Tok} {Q : Value → Shared → Prop} (hh : A.handled = none) (hl : s.heap.IsList l vs.toArray) (hx : StrsAre vs xs) (hz : xs.length < 1000) (hk : k.length ≤ 1000) (hrep : (reprText k ++ (" is not in list" : String)).length ≤ sizeLine) (hrep2 : (reprText k).length ≤ sizeLine) (hno : ∀ m (hm : m < xs.length), xs[m] ≠ k)
    (h : ∀ h' tk e, Heap.NewExc s.heap h' e "ValueError" → E (.ref e) { s with heap := h', toks := tk }) : wpAny (model prog w) A (call (.builtin "list.index") [.ref l, .str k t]) Q E s := by
  obtain ⟨⟨cls, dd, data, sl⟩, ho, hc, n, hd⟩ := id hl
  simp only at hc hd
  subst hc hd
  have hlen := hx.length
  have hM : Meets (Builtin.«list.index» ⟨[.ref l, .str k t], []⟩) (fun A R s => A.handled = none ∧ s.heap.get? l = some { cls := .type "list", dict := dd, data := .seq vs.toArray n, slots := sl } ∧ (∀ y, y ∈ vs.toArray → SeqAt.EqAt A.in1 s y (.str k t) (isStrOf k y)) ∧ ∀ h' tk x, Heap.NewExc s.heap h' x "ValueError" → R (.error (.ref x)) { s with heap := h', toks := tk }) := by
    intro prog w A R s h
    obtain ⟨hp, g, d, tk, os⟩ := s; obtain ⟨hh, hl, he, h⟩ := h
    wp_walk using AutoSeq1.wpAny_loadPart' hl
    have a1 : ((fun i : Int => if i < 0 then max 0 (i + (vs.toArray.size : Int)) else i) ((none : Option Int).getD 0)) = ((0 : Nat) : Int) := by simp
    have a2 : ((fun i : Int => if i < 0 then max 0 (i + (vs.toArray.size : Int)) else i) ((none : Option Int).getD (2 ^ 63 - 1))) = 2 ^ 63 - 1 := by simp
    rw [a1, a2]
    exact ⟨plainId_quiet MeetsSeq.plain_index_loop _, codeAny_builtin MeetsSeq.entry_index_loop (by
      rw [Around.under_plainId MeetsSeq.plain_index_loop _]
      refine index_none_loop l vs.toArray n dd sl k t (isStrOf k) (2 ^ 63 - 1) (by simp; omega) hrep hrep2 (fun y hy => ?_) _ 0 rfl prog w A R _ ⟨hh, hl, he, h⟩
      obtain ⟨i, hi, rfl⟩ := Array.mem_iff_getElem.mp hy
      have h1 := isStrOf_at k hx i (by simpa using hi) (by simpa [hlen] using hi)
      have h2 : (xs[i]'(by simpa [hlen] using hi) == k) = false := by simpa using hno i (by simpa [hlen] using hi)
      rw [h2] at h1
      simpa using h1)⟩
  exact call_meets PySem.F.slot_list_index ⟨_, ho, rfl⟩ PySem.F.entry_list_index (PySem.F.args_list_index_2 _ _) hM ⟨hh, ho, fun y hy => (eq_isStrOf k t hx y (by simpa using hy)).at _ _, h⟩
end
end Mine
end
section
set_option maxRecDepth 100000
namespace Mine
/-- the code that holds the table P is c, in the written part -/
def CodeK (c P : Addr) : Prop := ∀ (w : World) (h : Heap) (ps : Array Value), (theK.heap_1 w.params).In h → h.get? P = some (tabO ps) → TriplesOk ps.toList → h.IsCode c P ps ∧ h.TableAt c P ps
theorem code88 : CodeK 92 88 := fun w h ps X hP htr => by
  have e := X 92 ⟨.type "code", none, .fields #[.str "_tzolkin_count" 342, .str "_tzolkin_count" 343, .str "/claim/cut.py" 344, .int 55 0, .int 2 0, .int 0 0, .int 0 0, .int 3 0, .ref 87, .bool true, .int 181 0, .ref 88, .none, .ref 89, .ref 90, .ref 91, .int 352 0, .int 55 0, .str "/claim/cut.py" 353], #[]⟩ rfl
  exact ⟨⟨_, _, _, _, _, _, _, _, _, _, e, rfl, rfl, rfl, rfl, rfl, rfl, hP, rfl, htr, by decide⟩, ⟨_, _, e, rfl, rfl, rfl⟩, hP⟩
theorem code109 : CodeK 113 109 := fun w h ps X hP htr => by
  have e := X 113 ⟨.type "code", none, .fields #[.str "next_tzolkin_haab" 379, .str "next_tzolkin_haab" 380, .str "/claim/cut.py" 381, .int 83 0, .int 3 0, .int 0 0, .int 0 0, .int 3 0, .ref 108, .bool true, .int 181 0, .ref 109, .none, .ref 110, .ref 111, .ref 112, .int 393 0, .int 83 0, .str "/claim/cut.py" 394], #[]⟩ rfl
  exact ⟨⟨_, _, _, _, _, _, _, _, _, _, e, rfl, rfl, rfl, rfl, rfl, rfl, hP, rfl, htr, by decide⟩, ⟨_, _, e, rfl, rfl, rfl⟩, hP⟩
/-- the table P lies in the calls' own part, and may be another one there -/
def InCC (P : Addr) : Prop := ∀ cc, CC cc → (∃ ps : Array Value, (P, tabO ps) ∈ cc ∧ TriplesOk ps.toList) ∧ ∀ ps' : Array Value, TriplesOk ps'.toList → ∃ cc', CC cc' ∧ ∀ p ∈ cc', p = (P, tabO ps') ∨ (p ∈ cc ∧ p.1 ≠ P)
theorem in88 : InCC 88 := fun cc h => by
  obtain ⟨ps, qs, rfl, h1, h2⟩ := h
  refine ⟨⟨ps, .head _, h1⟩, fun ps' h' => ⟨_, ⟨ps', qs, rfl, h', h2⟩, fun p hp => ?_⟩⟩
  rcases List.mem_cons.mp hp with rfl | hp
  · exact .inl rfl
  · exact .inr ⟨.tail _ hp, by rw [List.mem_singleton.mp hp]; exact (by decide : (109 : Nat) ≠ 88)⟩
theorem in109 : InCC 109 := fun cc h => by
  obtain ⟨ps, qs, rfl, h1, h2⟩ := h
  refine ⟨⟨qs, .tail _ (.head _), h2⟩, fun qs' h' => ⟨_, ⟨ps, qs', rfl, h1, h'⟩, fun p hp => ?_⟩⟩
  rcases List.mem_cons.mp hp with rfl | hp
  · exact .inr ⟨.head _, (by decide : (88 : Nat) ≠ 109)⟩
  · exact .inl (List.mem_singleton.mp hp)
section
variable {w : World} {A : Around} {E : Value → Shared → Prop} {s : Shared}
theorem bi_top {mean : ExcName → Option Value} {mg mb : Str → Option Value} {h₀ : Heap} {P : Addr} {prog : Program} (T : Top p0 lo0 mean mg mb h₀) (hP : h₀.get? P = none) (hk : ∀ b o, h₀.get? b = some o → s.heap.get? b = some o) (s₃ : Shared) (Q' : Addr → Shared → Prop) (h₃ : ∀ b o, b ≠ P → s.heap.get? b = some o → s₃.heap.get? b = some o) (h : Q' builtinsNs s₃) :
    wpAny (model prog w) A (builtinsFor mainGlobals builtinsNs) Q' E s₃ := by
  obtain ⟨bm, ob, h1, h2, h3, h4, h5, h6⟩ := T.bmain
  have k : ∀ b o, h₀.get? b = some o → s₃.heap.get? b = some o := fun b o e => h₃ b o (fun z => by rw [z, hP] at e; cases e) (hk b o e)
  exact wpAny_builtinsFor (T.g.keeps k) h1 h2 (k _ _ h3) h4 h5 h6 h
theorem iter_range {prog : Program} {env : Env} {q1 q2 q3 q4 q5 : Pos} {k1 k2 k3 : _} {N st : Int} (hst : st ≠ 0)
    (hr : ∀ Q' : Value → Shared → Prop, Q' (.type "range") s → wpAny (model prog w) A (eval (.Name "range" q1) env) Q' E s) (hp : ∀ s' : Shared, Builtin.divisionGoesByPylong (N - 0) st = false ∨ PySem.PylongRoom (model prog w) A s') :
    wpAny (model prog w) A (eval (.Call (.Name "range" q1) [.Constant (.int 0) k1 q2, .Constant (.int N) k2 q3, .Constant (.int st) k3 q4] [] q5) env) (fun xv s₁ => ∃ r t u v h₁ tk, xv = .ref r ∧ s₁ = { s with heap := h₁, toks := tk } ∧ IsRange h₁ r 0 N st t u v ∧ s.heap.objs.size ≤ h₁.objs.size ∧ ∀ b o, s.heap.get? b = some o → h₁.get? b = some o) E s := by
  refine Call_ (hr _ ?_)
  refine Pv.callWith_type1 ?_
  refine spliced_more (wpAny_Constant_int (spliced_more (wpAny_Constant_int (spliced_more (wpAny_Constant_int (spliced_none ?_))))))
  refine call_range_3 hst ?_ (hp _)
  exact ⟨_, _, _, _, _, _, rfl, rfl, IsRange.new .., by rw [Heap.size_push]; exact Nat.le_succ _, fun b o e => Heap.get?_push_of_some _ e⟩
theorem gen_K {c P : Addr} (hcode : CodeK c P) (hcc : InCC P) {prog : Program} {mean : ExcName → Option Value} {mg mb : Str → Option Value} {h₀ : Heap} {m : Str → Option Value} {news pre cc : List (Addr × Obj)} {cn : Str} {cs : Scope} {L a : Addr} {cl : List (Str × Addr)} {x y : Str} {p2 p3 p4 px : Pos} {iter : PySem.Expr} {scope : Scope} {pos : Pos} {cy : Addr} {oc : Obj} {d : Int} {td : Tok} {N st : Int} {n : Nat} {Q : Value → Shared → Prop}
    (F : Fr h₀ L s.heap m) (X : (theK.heap_1 w.params).In h₀) (hN : News h₀ L s.heap news) (S : Sp news pre cc) (hpo : PreOk pre) (hC : CC cc) (T : Top p0 lo0 mean mg mb h₀)
    (hh : A.handled = none) (hco : scope.isCoroutine = false) (hclos : closureFor scope (envX cn cs L a (.ref c) cl) = pure [(y, cy)]) (hcell : ∀ z ∈ scope.names, z.2 ≠ .cell) (h0 : scope.names.lookup (".0" : Str) = some NameKind.local)
    (hx : scope.names.lookup x = some .local) (hy : scope.names.lookup y = some .free) (hkind : scope.kind = .function) (hroom : A.depth < recursionLimit)
    (hdx : (x == ("__debug__" : Str)) = false) (hdy : (y == ("__debug__" : Str)) = false) (hny : (y == ("__classdict__" : Str)) = false) (hs : ∀ z, genFold iter (envX cn cs L a (.ref c) cl) z = pure z)
    (hsmall : Builtin.Range.small 0 N st = true) (hn : Builtin.Range.rangeSize 0 N st = (n : Int))
    (hit : wpAny (model prog w) A (eval iter (envX cn cs L a (.ref c) cl)) (fun xv s₁ => ∃ r t u v h₁ tk, xv = .ref r ∧ s₁ = { s with heap := h₁, toks := tk } ∧ IsRange h₁ r 0 N st t u v ∧ s.heap.objs.size ≤ h₁.objs.size ∧ ∀ b o, s.heap.get? b = some o → h₁.get? b = some o) E s)
    (hm : (cy, oc) ∈ news) (hv : oc.data = .cell (some (.int d td))) (hPs : P ≠ cStatics)
    (hQ : ∀ g h' gs' tk' cc', CC cc' → Fr h₀ L h' m → News h₀ L h' (pre ++ cc') → (∀ p ∈ pre ++ cc', p.1 < s.heap.objs.size) → L < s.heap.objs.size → GenInts prog w A g n (fun i => (i : Nat) * st + d) s.heap.objs.size { s with heap := h', gens := gs', toks := tk' } → (AllBare s.gens → AllBare gs') →
      Q (.ref g) { s with heap := h', gens := gs', toks := tk' }) :
    wpAny (model prog w) A (eval (.GeneratorExp (.BinOp (.Name x p2) .Add (.Name y p3) p4) [⟨.Name x px, iter, [], 0⟩] scope pos) (envX cn cs L a (.ref c) cl)) Q E s := by
  obtain ⟨⟨ps, hps, htr⟩, hup⟩ := hcc cc hC
  have hN' : News h₀ L s.heap (pre ++ cc) := S ▸ hN
  have hP := hN' _ (List.mem_append_right _ hps)
  obtain ⟨hIC, hTA⟩ := hcode w s.heap ps (X.keeps F.keep) hP.1 htr
  refine gen_add hh hco hclos hcell h0 hx hy hkind hroom hdx hdy hny hs hsmall hn hit hIC hTA hPs (T.nolimit.keeps F.keep) ⟨oc, (hN _ hm).1, hv⟩ (fun s₃ Q' h₃ h => bi_top T hP.2.2 F.keep s₃ Q' h₃ h) fun g h' gs' tk' ps' hG hk hT' htr' hb => ?_
  obtain ⟨cc', hC', hmem⟩ := hup ps' htr'
  obtain ⟨oL, _, _, hL, _⟩ := F.ns
  have keep : ∀ b o, h₀.get? b = some o → h'.get? b = some o := fun b o e => hk b o (fun z => by rw [z, hP.2.2] at e; cases e) (F.keep b o e)
  refine hQ g h' gs' tk' cc' hC' ⟨F.ns.at fun o e => hk L o (Ne.symm hP.2.1) e, keep, F.above⟩ (fun p hp => ?_) (fun p hp => ?_) (Heap.lt_size hL) hG hb
  · rcases List.mem_append.mp hp with hp | hp
    · have q := hN' p (List.mem_append_left _ hp)
      refine ⟨hk _ _ (fun z => ?_) q.1, q.2⟩
      have z1 := q.1
      rw [z, hP.1] at z1
      have := hpo p hp
      rw [← Option.some.inj z1] at this
      cases this
    · rcases hmem p hp with rfl | ⟨hp, hne⟩
      · exact ⟨hT'.2, hP.2⟩
      · have q := hN' p (List.mem_append_right _ hp)
        exact ⟨hk _ _ hne q.1, q.2⟩
  · rcases List.mem_append.mp hp with hp | hp
    · exact Heap.lt_size (hN' p (List.mem_append_left _ hp)).1
    · rcases hmem p hp with rfl | ⟨hp, hne⟩
      · exact Heap.lt_size hP.1
      · exact Heap.lt_size (hN' p (List.mem_append_right _ hp)).1
end
end Mine
end
section
set_option maxRecDepth 100000
namespace Mine
theorem met_iff (n : Nat) (val : Nat → Int) (k : Int) : ((firstMet val n).any (· == k)) = true ↔ ∃ j : Nat, j < n ∧ val j = k := by
  rw [firstMet_any, List.any_eq_true]
  constructor
  · rintro ⟨x, hx, he⟩
    obtain ⟨j, hj, rfl⟩ := List.mem_map.mp hx
    exact ⟨j, List.mem_range.mp hj, by simpa using he⟩
  · rintro ⟨j, hj, rfl⟩
    exact ⟨_, List.mem_map.mpr ⟨j, List.mem_range.mpr hj, rfl⟩, by simp⟩
theorem met_len (n : Nat) (val : Nat → Int) (h : n < scanBound) : (firstMet val n).length < scanBound := Nat.lt_of_le_of_lt (firstMet_length_le val n) h
/-- the place of a day's number and name among the 260 -/
abbrev tcF (d i : Int) : Int := (40 * d - 39 * (i + 1) - 1) % 260 + 1
theorem tc_meet (d i : Int) (h : 1 ≤ d ∧ d ≤ 13 ∧ 0 ≤ i ∧ i < 20) (k : Int) :
    ((firstMet (fun j : Nat => (j : Int) * 13 + d) 20).any (· == k) && (firstMet (fun j : Nat => (j : Int) * 20 + (1 + i)) 13).any (· == k)) = decide (some (tcF d i) = some k) := by
  rw [Bool.eq_iff_iff, Bool.and_eq_true, met_iff, met_iff, decide_eq_true_eq]
  constructor
  · rintro ⟨⟨j, hj, e⟩, ⟨j', hj', e'⟩⟩
    congr 1
    simp only [tcF]
    omega
  · intro e
    have e := Option.some.inj e
    subst e
    simp only [tcF]
    refine ⟨⟨(((40 * d - 39 * (i + 1) - 1) % 260 + 1 - d) / 13).toNat, ?_, ?_⟩, ⟨(((40 * d - 39 * (i + 1) - 1) % 260 + 1 - (1 + i)) / 20).toNat, ?_, ?_⟩⟩ <;> omega
theorem tz_nodup : ∀ j (hj : j < tzL.length), ∀ m (hm : m < tzL.length), m < j → tzL[m] ≠ tzL[j] := by decide
theorem haab_nodup : ∀ j (hj : j < haabL.length), ∀ m (hm : m < haabL.length), m < j → haabL[m] ≠ haabL[j] := by decide
def BelowL (pre cc : List (Addr × Obj)) (D : Addr) : Prop := ∀ p ∈ pre ++ cc, p.1 < D
theorem ne_cc {pre cc cc' : List (Addr × Obj)} {D d : Addr} (l : BelowL pre cc D) (h : CC cc) (h' : CC cc') (hd : @LE.le Nat _ D d) : ∀ p ∈ pre ++ cc', p.1 ≠ d := fun p hp => by
  rcases List.mem_append.mp hp with hp | hp
  · exact Nat.ne_of_lt (Nat.lt_of_lt_of_le (l p (List.mem_append_left _ hp)) hd)
  · obtain ⟨ps, qs, rfl, _, _⟩ := h
    obtain ⟨ps', qs', rfl, _, _⟩ := h'
    have h1 := l (109, tabO qs) (List.mem_append_right _ (.tail _ (.head _)))
    have h0 := l (88, tabO ps) (List.mem_append_right _ (.head _))
    dsimp only at h1 h0
    rcases List.mem_cons.mp hp with rfl | hp
    · exact Nat.ne_of_lt (Nat.lt_of_lt_of_le h0 hd)
    · rw [List.mem_singleton.mp hp]
      exact Nat.ne_of_lt (Nat.lt_of_lt_of_le h1 hd)
section
variable {prog : Program} {w : World} {A : Around} {E : Value → Shared → Prop} {s : Shared}
theorem index_tz {l : Addr} {vs : List Value} {i : Int} {t : Tok} {Q : Value → Shared → Prop} (hl : s.heap.IsList l vs.toArray) (hx : StrsAre vs tzL) (h0 : 0 ≤ i) (h1 : i < 20) (h : Q (.int i s.toks) { s with toks := s.toks + 1 }) :
    wpAny (model prog w) A (call (.builtin "list.index") [.ref l, .str (tzS i) t]) Q E s := by
  have hj : i.toNat < tzL.length := by show i.toNat < 20; omega
  have e : tzL[i.toNat] = tzS i := by unfold tzS; rw [List.getD_eq_getElem?_getD, List.getElem?_eq_getElem hj]; rfl
  refine index_strs hl hx hj (by decide) e (fun m hm hlt => by rw [← e]; exact tz_nodup _ hj m hm hlt) ?_
  rw [Int.toNat_of_nonneg h0]; exact h
theorem index_haab {l : Addr} {vs : List Value} {i : Int} {t : Tok} {Q : Value → Shared → Prop} (hl : s.heap.IsList l vs.toArray) (hx : StrsAre vs haabL) (h0 : 0 ≤ i) (h1 : i < 19) (h : Q (.int i s.toks) { s with toks := s.toks + 1 }) :
    wpAny (model prog w) A (call (.builtin "list.index") [.ref l, .str (haabS i) t]) Q E s := by
  have hj : i.toNat < haabL.length := by show i.toNat < 19; omega
  have e : haabL[i.toNat] = haabS i := by unfold haabS; rw [List.getD_eq_getElem?_getD, List.getElem?_eq_getElem hj]; rfl
  refine index_strs hl hx hj (by decide) e (fun m hm hlt => by rw [← e]; exact haab_nodup _ hj m hm hlt) ?_
  rw [Int.toNat_of_nonneg h0]; exact h
theorem meth_list {name : Str} {id : String} {pl : Sem Bool} {l : Addr} {items : Array Value} {n : Nat} {sl : Array (Option Value)} {Q : Value × List Value → Shared → Prop} {K : Frag} {h₀ : Heap} {L : Addr} {m : Str → Option Value} (slot : Slot "list" name id)
    (hty : typeOf (.builtin id) = pure (.type "method_descriptor")) (F : Fr h₀ L s.heap m) (X : K.In h₀) (ho : K.lookup l = some ⟨.type "list", none, .seq items n, sl⟩) (h : Q (.builtin id, [.ref l]) s) :
    wpAny (model prog w) A (getMethod (.ref l) name pl) Q E s :=
  getMethod_list_of slot hty (items := items) ⟨_, F.keep _ _ (X _ _ ho), rfl, n, rfl⟩ ⟨_, F.keep _ _ (X _ _ ho), rfl⟩ h
end
end Mine
end
local macro_rules | `(tactic| k_mem) => `(tactic| exact List.mem_append_left _ (by assumption))
local macro_rules | `(tactic| k_all) => `(tactic| exact Mine.ne_cc (by assumption) (by assumption) (by assumption) (by omega))
section
set_option maxRecDepth 100000
namespace Mine
section
variable {prog : Program} {w : World} {A : Around} {E : Value → Shared → Prop} {s : Shared} {h₀ : Heap} {L : Addr} {m : Str → Option Value} {news : List (Addr × Obj)}
theorem setm_K {a : Addr} {o : Obj} {S : Int → Bool} {n : Nat} {name : Str} {id : String} {pl : Sem Bool} {Q : Value × List Value → Shared → Prop} (slot : Slot "set" name id) (hty : typeOf (.builtin id) = pure (.type "method_descriptor")) (N : News h₀ L s.heap news) (h1 : (a, o) ∈ news) (s1 : o.SetObjOf (intKind prog w) S n)
    (h : Q (.builtin id, [.ref a]) s) : wpAny (model prog w) A (getMethod (.ref a) name pl) Q E s :=
  getMethod_builtin ⟨_, (N _ h1).1, s1.1.1⟩ PySem.F.plainAttrs_set slot hty (fun a e => by cases e; exact ⟨_, (N _ h1).1, s1.1.2.1⟩) h
theorem inter_K {a b : Addr} {o1 o2 : Obj} {S1 S2 : Int → Bool} {n1 n2 : Nat} (c : Option Int) {Q : Value → Shared → Prop} (F : Fr h₀ L s.heap m) (N : News h₀ L s.heap news) (h1 : (a, o1) ∈ news) (h2 : (b, o2) ∈ news) (hne : b ≠ a) (s1 : o1.SetObjOf (intKind prog w) S1 n1) (s2 : o2.SetObjOf (intKind prog w) S2 n2)
    (hb1 : n1 < scanBound) (hb2 : n2 < scanBound) (hc : ∀ k, (S1 k && S2 k) = decide (c = some k))
    (h : ∀ D o h', Fr h₀ L h' m → News h₀ L h' ((D, o) :: news) → (∀ p ∈ news, p.1 < D) → o.SetObjOf (intKind prog w) (fun k => decide (c = some k)) (if c.isSome then 1 else 0) → Q (.ref D) { s with heap := h' }) :
    wpAny (model prog w) A (call (.builtin "set.intersection") [.ref a, .ref b]) Q E s := by
  refine call_inter hne (s1.setOf (N _ h1).1 hb1) (s2.setOf (N _ h2).1 hb2) hc fun h' hk hS => ?_
  obtain ⟨o, ho, hso⟩ := hS.objOf
  obtain ⟨oL, _, _, hL, _⟩ := F.ns
  refine h _ o h' (F.keeps hk) (fun p hp => ?_) (fun p hp => Heap.lt_size (N p hp).1) hso
  rcases List.mem_cons.mp hp with rfl | hp
  · refine ⟨ho, Nat.ne_of_gt (Heap.lt_size hL), ?_⟩
    cases hq : h₀.get? s.heap.objs.size with
    | none => rfl
    | some o' => exact absurd (Heap.lt_size (F.keep _ _ hq)) (Nat.lt_irrefl _)
  · exact ⟨hk _ _ (N p hp).1, (N p hp).2⟩
theorem pop_K {D : Addr} {o : Obj} {S : Int → Bool} {k : Int} {Q : Value → Shared → Prop} (F : Fr h₀ L s.heap m) (N : News h₀ L s.heap ((D, o) :: news)) (hlt : ∀ p ∈ news, p.1 < D) (so : o.SetObjOf (intKind prog w) S 1) (hk : S k = true)
    (h : ∀ t h' d, Fr h₀ L h' m → News h₀ L h' news → Q (.int k t) { s with heap := h', drawn := d }) : wpAny (model prog w) A (call (.builtin "set.pop") [.ref D]) Q E s := by
  have z := N _ (.head _)
  refine call_pop_some (so.setOf z.1 (by decide)) hk fun t h' d hsb => h t h' d (F.change hsb z.2.1 z.2.2) fun p hp => ?_
  have q := N p (.tail _ hp)
  exact ⟨(hsb.2 _ (Nat.ne_of_lt (hlt p hp))).trans q.1, q.2⟩
theorem popc_K {D : Addr} {o : Obj} {c : Int} {Q : Value → Shared → Prop} (F : Fr h₀ L s.heap m) (N : News h₀ L s.heap ((D, o) :: news)) (hlt : ∀ p ∈ news, p.1 < D) (so : o.SetObjOf (intKind prog w) (fun k => decide (some c = some k)) (if (some c).isSome = true then 1 else 0))
    (h : ∀ t h' d, Fr h₀ L h' m → News h₀ L h' news → Q (.int c t) { s with heap := h', drawn := d }) : wpAny (model prog w) A (call (.builtin "set.pop") [.ref D]) Q E s :=
  pop_K F N hlt (show o.SetObjOf (intKind prog w) _ 1 from so) (decide_eq_true rfl) h
theorem popn_K {D : Addr} {o : Obj} {Q : Value → Shared → Prop} (hh : A.handled = none) (N : News h₀ L s.heap ((D, o) :: news)) (so : o.SetObjOf (intKind prog w) (fun k => decide ((none : Option Int) = some k)) (if (none : Option Int).isSome = true then 1 else 0))
    (h : ∀ h' tk e, Heap.NewExc s.heap h' e "KeyError" → E (.ref e) { s with heap := h', toks := tk }) : wpAny (model prog w) A (call (.builtin "set.pop") [.ref D]) Q E s :=
  call_pop_none hh ((show o.SetObjOf (intKind prog w) _ 0 from so).setOf (N _ (.head _)).1 (by decide)) h
end
end Mine
end
section
namespace Mine
set_option maxRecDepth 100000 in
set_option maxHeartbeats 8000000 in
theorem c_hc (w : World) (mean : ExcName → Option Value) (mg mb : Str → Option Value) (d i : Int) (t u : Tok) :
    Cut w mean mg mb 4 86 [.int d t, .str (haabS i) u] (fun _ => 0 ≤ d ∧ d ≤ 19 ∧ 0 ≤ i ∧ i < 19) (RInt (20 * i + d)) := by
  unfold Cut
  k_fill
  intro dp un gd cn cs a ccd cl outer A₀ base h₀ L m pre cc s Q E hB hF hK hN hO hC hG hT hk hp hd1 hu1 hret
  refine wpAny_call ?_
  k_dflt cell_enter
  obtain ⟨hd0, hd19, hi0, hi19⟩ := hp
  w_top off
  repeat' (first | (k_unfold; (try dsimp only)) | (k_end; wrow_close) | ((with_reducible show wpAny _ _ (call (Value.builtin _) _) _ _ _); (k_here; (with_reducible show wpAny _ _ (call (Value.builtin _) [Value.ref _, Value.str _ _]) _ _ _); k_dflt (refine' index_haab ?l ?x ?h0 ?h1 ?_; (case l => ktb_isList); (case x => repeat constructor); (case h0 => (first | assumption | omega)); (case h1 => (first | assumption | omega))))) | ((with_reducible show wpAny _ _ (getMethod (Value.ref _) _ _) _ _ _); (k_here; (with_reducible show wpAny _ _ (getMethod (Value.ref _) (PySem.Str.ofString "index") _) _ _ _); k_dflt (refine' meth_list PySem.F.slot_list_index PySem.F.type_list_index ?F ?X ?ho ?_; (case F => k_asm); (case X => k_asm); (case ho => k_is)))) | ((with_reducible show wpAny _ _ (eval (Expr.Call (Expr.Name _ _) _ _ _) _) _ _ _); (k_here; refine Call_ ?_)) | walk1 | dsimp only | (leave1; try dsimp only))
  all_goals exact hret.of0 ⟨rfl, _, by congr 1; split <;> omega⟩ (by assumption) (by k_asm) (by k_asm) (by assumption)
end Mine
end
section
namespace Mine
set_option maxRecDepth 100000 in
set_option maxHeartbeats 8000000 in
theorem c_tc (w : World) (mean : ExcName → Option Value) (mg mb : Str → Option Value) (d i : Int) (t u : Tok) :
    Cut w mean mg mb 4 93 [.int d t, .str (tzS i) u] (fun _ => 1 ≤ d ∧ d ≤ 13 ∧ 0 ≤ i ∧ i < 20) (RInt (tcF d i)) := by
  unfold Cut
  k_fill
  intro dp un gd cn cs a ccd cl outer A₀ base h₀ L m pre cc s Q E hB hF hK hN hO hC hG hT hk hp hd1 hu1 hret
  refine wpAny_call ?_
  k_dflt (refine' code_defC ?k1 ?k2 ?k3 ?k4 ?k5 ?kA ?kF ?kK ?k6 ?k7 ?k8 ?k9 ?kB ?kD ?_ ?c2 ?c3 ?c4; (case kA => exact rfl); (case kF => exact rfl); (case kK => assumption); (case k1 => k_asm); (case k2 => k_asm); (case k3 => k_asm); (case k4 => k_asm); (case k5 => k_asm); (case k6 => k_is); (case k7 => k_is); (case k8 => ktr_room); (case k9 => exact BindsTo.of_eq rfl); (case kB => exact rfl); (case kD => decide +kernel); (case c2 => exact rfl); (case c3 => exact rfl); (case c4 => exact rfl); k_whole; intro g' L' h' tk' cells' FG' F' N' Y' B' X' T' l1; (try k_lt l1); k_cells Y'; (try simp only [List.cons_append, List.nil_append] at N'); (try dsimp only); (try k_lift B'); (try k_fold))
  have hp4 := hp
  have hBL : BelowL pre cc L' := l1
  obtain ⟨hd0, hd19, hi0, hi19⟩ := hp
  w_top off
  repeat' (first | (k_unfold; (try dsimp only)) | (k_end; wrow_close) | ((with_reducible show wpAny _ _ (call (Value.builtin _) _) _ _ _); first | (k_here; k_dflt (refine' popc_K ?F ?N ?hl ?so ?_; (case F => k_asm); (case N => k_asm); (case so => assumption); (case hl => first | assumption | exact allLt_out (by assumption))); (intro t9 h9 d9 F9 N9); (try dsimp only); (try k_fold); (try k_sweep)) | (k_here; k_dflt (refine' inter_K (some (tcF _ _)) ?F ?N ?h1 ?h2 ?hne ?s1 ?s2 ?hb1 ?hb2 ?hc ?_; (case F => k_asm); (case N => k_asm); (case h1 => k_mem); (case h2 => k_mem); (case s1 => assumption); (case s2 => assumption); (case hne => (refine neN ?_; (first | omega | decide))); (case hb1 => exact met_len _ _ (by decide)); (case hb2 => exact met_len _ _ (by decide)); (case hc => exact tc_meet _ _ (by assumption))); (intro D9 o9 h9 F9 N9 l9 so9); (try dsimp only); (try k_fold); (try k_sweep)) | (k_here; (with_reducible show wpAny _ _ (call (Value.builtin _) [Value.ref _, Value.str _ _]) _ _ _); k_dflt (refine' index_tz ?l ?x ?h0 ?h1 ?_; (case l => ktb_isList); (case x => repeat constructor); (case h0 => (first | assumption | omega)); (case h1 => (first | assumption | omega))))) | ((with_reducible show wpAny _ _ (getMethod (Value.ref _) _ _) _ _ _); first | (k_here; (with_reducible show wpAny _ _ (getMethod (Value.ref _) (PySem.Str.ofString "pop") _) _ _ _); k_dflt (refine' setm_K PySem.F.slot_set_pop PySem.F.type_set_pop ?N ?m ?s ?_; (case N => k_asm); (case m => k_mem); (case s => assumption))) | (k_here; (with_reducible show wpAny _ _ (getMethod (Value.ref _) (PySem.Str.ofString "intersection") _) _ _ _); k_dflt (refine' setm_K PySem.F.slot_set_intersection PySem.F.type_set_intersection ?N ?m ?s ?_; (case N => k_asm); (case m => k_mem); (case s => assumption))) | (k_here; (with_reducible show wpAny _ _ (getMethod (Value.ref _) (PySem.Str.ofString "index") _) _ _ _); k_dflt (refine' meth_list PySem.F.slot_list_index PySem.F.type_list_index ?F ?X ?ho ?_; (case F => k_asm); (case X => k_asm); (case ho => k_is)))) | ((with_reducible show wpAny _ _ (call (Value.type _) _) _ _ _); (k_here; (with_reducible show wpAny _ _ (call (Value.type "set") [Value.ref _]) _ _ _); k_dflt (refine' set_gen_K ?F ?N ?X ?hK ?hL ?hb ?_; (case F => k_asm); (case N => k_asm); (case X => assumption); (case hK => assumption); (case hL => assumption); (case hb => decide)); (intro D9 o9 h9 gs9 tk9 F9 N9 l9 so9 hG9); (have G9 := hG9 (by assumption)); clear hG9; (try k_lt l9); (try dsimp only); (try k_fold); (try k_sweep))) | ((with_reducible show wpAny _ _ (eval (Expr.GeneratorExp _ _ _ _) _) _ _ _); first | (k_here; k_dflt (refine' gen_K code88 in88 (n := 20) ?gF ?gX ?gN ?gS ?gpo ?gC ?gT ?ghh ?ghco ?ghclos ?ghcell ?gh0 ?ghx ?ghy ?ghkind ?ghroom ?ghdx ?ghdy ?ghny ?ghs ?ghsmall ?ghn ?ghit ?ghm ?ghv ?ghPs ?_; (case gF => k_asm); (case gX => k_asm); (case gN => k_asm); (case gC => assumption); (case gS => tb_rel); (case gpo => tb_start); (case gT => k_asm); (case ghh => first | rfl | assumption); (case ghco => rfl); (case ghclos => with_unfolding_all rfl); (case ghcell => decide); (case gh0 => rfl); (case ghx => rfl); (case ghy => rfl); (case ghkind => rfl); (case ghroom => ktr_room); (case ghdx => decide); (case ghdy => decide); (case ghny => decide); (case ghs => intro _; with_unfolding_all rfl); (case ghit => (refine iter_range (by decide) (fun Q' hq => nameX_B (K := theK.heap_1 _) (by k_asm) (by k_asm) (topRead_of (by assumption)) (by k_is) (by boot_fast) (by decide) hq) (fun _ => Or.inl (PyProof.noPylong_of_log2 (by decide +kernel))))); (case ghsmall => decide); (case ghn => first | rfl | decide); (case ghm => k_mem); (case ghv => k_asm); (case ghPs => decide)); (intro g9 h9 gs9 tk9 cc9 hc9 F9 N9 hK9 hL9 X9 hG9); (have G9 := hG9 (by assumption)); clear hG9; (try simp only [List.cons_append, List.nil_append] at N9 hK9); (try dsimp only); (try k_fold); (try k_sweep)) | (k_here; k_dflt (refine' gen_K code88 in88 (n := 13) ?gF ?gX ?gN ?gS ?gpo ?gC ?gT ?ghh ?ghco ?ghclos ?ghcell ?gh0 ?ghx ?ghy ?ghkind ?ghroom ?ghdx ?ghdy ?ghny ?ghs ?ghsmall ?ghn ?ghit ?ghm ?ghv ?ghPs ?_; (case gF => k_asm); (case gX => k_asm); (case gN => k_asm); (case gC => assumption); (case gS => tb_rel); (case gpo => tb_start); (case gT => k_asm); (case ghh => first | rfl | assumption); (case ghco => rfl); (case ghclos => with_unfolding_all rfl); (case ghcell => decide); (case gh0 => rfl); (case ghx => rfl); (case ghy => rfl); (case ghkind => rfl); (case ghroom => ktr_room); (case ghdx => decide); (case ghdy => decide); (case ghny => decide); (case ghs => intro _; with_unfolding_all rfl); (case ghit => (refine iter_range (by decide) (fun Q' hq => nameX_B (K := theK.heap_1 _) (by k_asm) (by k_asm) (topRead_of (by assumption)) (by k_is) (by boot_fast) (by decide) hq) (fun _ => Or.inl (PyProof.noPylong_of_log2 (by decide +kernel))))); (case ghsmall => decide); (case ghn => first | rfl | decide); (case ghm => k_mem); (case ghv => k_asm); (case ghPs => decide)); (intro g9 h9 gs9 tk9 cc9 hc9 F9 N9 hK9 hL9 X9 hG9); (have G9 := hG9 (by assumption)); clear hG9; (try simp only [List.cons_append, List.nil_append] at N9 hK9); (try dsimp only); (try k_fold); (try k_sweep))) | ((with_reducible show wpAny _ _ (exec (Stmt.Try _ _ _ _ _) _) _ _ _); (k_here; (with_reducible show wpAny _ _ (exec (PySem.Stmt.Try _ (_ :: _) _ [] _) (envOfC _ _ _ _ _)) _ _ _); refine wpAny_Try_except ?_)) | ((with_reducible show wpAny _ _ (eval (Expr.Call (Expr.Name _ _) _ _ _) _) _ _ _); (k_here; refine Call_ ?_)) | walk1 | dsimp only | (leave1; try dsimp only))
  all_goals exact hret.of0 ⟨rfl, _, rfl⟩ (by assumption) (by k_asm) (by ktr_rel) (by assumption)
end Mine
end
section
namespace Mine
set_option maxRecDepth 100000 in
set_option maxHeartbeats 8000000 in
theorem c_lc_to_haab (w : World) (mean : ExcName → Option Value) (mg mb : Str → Option Value) (a1 a2 a3 a4 a5 : Int) (t1 t2 t3 t4 t5 : Tok) :
    Cut w mean mg mb 3 65 [.int a1 t1, .int a2 t2, .int a3 t3, .int a4 t4, .int a5 t5] (fun _ => 584283 ≤ 584283 + a1 * 144000 + a2 * 7200 + a3 * 360 + a4 * 20 + a5) (RTupIS (hDay (584283 + a1 * 144000 + a2 * 7200 + a3 * 360 + a4 * 20 + a5 - 584283)) (haabS (hMon (584283 + a1 * 144000 + a2 * 7200 + a3 * 360 + a4 * 20 + a5 - 584283)))) := by
  unfold Cut
  k_fill
  intro dp un gd cn cs a ccd cl outer A₀ base h₀ L m pre cc s Q E hB hF hK hN hO hC hG hT hk hp hd1 hu1 hret
  refine wpAny_call ?_
  k_dflt cell_enter
  w_top off
  repeat' (first | (k_unfold; (try dsimp only)) | (k_end; wrow_close) | ((with_reducible show wpAny _ _ (call (Value.ref _) _) _ _ _); first | (k_here; (with_reducible show wpAny _ _ (call (Value.ref 58) [Value.int _ _]) _ _ _); k_dflt (refine' Cut.use (c_to_tzolkin _ _ _ _ _ _) ?k1 ?k2 ?k3 ?k4 ?k6 ?k9 ?k7 ?k8 ?k5 ?kK ?kp ?kd ?ku ?_; (case k1 => k_asm); (case k2 => k_asm); (case k3 => k_asm); (case k4 => k_asm); (case k5 => k_asm); (case k7 => assumption); (case k6 => tb_rel); (case k9 => tb_start); (case k8 => assumption); (case kK => first | exact rfl | assumption); (case kp => (first | trivial | assumption | omega | l_fact)); (case kd => ktr_room); (case ku => ktr_units)); (intro v9 tl9 cc9 h9 g9 d9 tk9 r9 l9 hc9 F9 N9 G9); (obtain ⟨D9, t90, t91, c9, e9, e8⟩ := r9); subst e9; subst e8; (simp only [List.cons_append, List.nil_append] at N9); (replace l9 := fun q hq => l9 q hq _ (List.Mem.head _)); (try dsimp only at l9); (try k_lt l9); (try dsimp only); (try k_fold); (try k_sweep)) | (k_here; (with_reducible show wpAny _ _ (call (Value.ref 51) [Value.int _ _]) _ _ _); k_dflt (refine' Cut.use (c_to_haab _ _ _ _ _ _) ?k1 ?k2 ?k3 ?k4 ?k6 ?k9 ?k7 ?k8 ?k5 ?kK ?kp ?kd ?ku ?_; (case k1 => k_asm); (case k2 => k_asm); (case k3 => k_asm); (case k4 => k_asm); (case k5 => k_asm); (case k7 => assumption); (case k6 => tb_rel); (case k9 => tb_start); (case k8 => assumption); (case kK => first | exact rfl | assumption); (case kp => (first | trivial | assumption | omega | l_fact)); (case kd => ktr_room); (case ku => ktr_units)); (intro v9 tl9 cc9 h9 g9 d9 tk9 r9 l9 hc9 F9 N9 G9); (obtain ⟨D9, t90, t91, c9, e9, e8⟩ := r9); subst e9; subst e8; (simp only [List.cons_append, List.nil_append] at N9); (replace l9 := fun q hq => l9 q hq _ (List.Mem.head _)); (try dsimp only at l9); (try k_lt l9); (try dsimp only); (try k_fold); (try k_sweep)) | (k_here; (with_reducible show wpAny _ _ (call (Value.ref 37) [Value.int _ _, Value.int _ _, Value.int _ _, Value.int _ _, Value.int _ _]) _ _ _); k_dflt (refine' Cut.use (c_to_jd _ _ _ _ _ _ _ _ _ _ _ _ _ _) ?k1 ?k2 ?k3 ?k4 ?k6 ?k9 ?k7 ?k8 ?k5 ?kK ?kp ?kd ?ku ?_; (case k1 => k_asm); (case k2 => k_asm); (case k3 => k_asm); (case k4 => k_asm); (case k5 => k_asm); (case k7 => assumption); (case k6 => tb_rel); (case k9 => tb_start); (case k8 => assumption); (case kK => first | exact rfl | assumption); (case kp => (first | trivial | assumption | omega | l_fact)); (case kd => ktr_room); (case ku => ktr_units)); (intro v9 tl9 cc9 h9 g9 d9 tk9 r9 l9 hc9 F9 N9 G9); (obtain ⟨e9, t9, e8⟩ := r9); subst e9; subst e8; (simp only [List.cons_append, List.nil_append] at N9); clear l9; (try dsimp only); (try k_fold); (try k_sweep))) | ((with_reducible show wpAny _ _ (eval (Expr.Call (Expr.Name _ _) _ _ _) _) _ _ _); (k_here; refine Call_ ?_)) | walk1 | dsimp only | (leave1; try dsimp only))
  all_goals exact hret.of1 ⟨_, _, _, _, rfl, rfl⟩ (by first | assumption | exact lt_left (by assumption) | exact allLt_out (by assumption)) (by assumption) (by k_asm) (by ktr_rel) (by assumption)
set_option maxRecDepth 100000 in
set_option maxHeartbeats 8000000 in
theorem c_lc_to_tzolkin (w : World) (mean : ExcName → Option Value) (mg mb : Str → Option Value) (a1 a2 a3 a4 a5 : Int) (t1 t2 t3 t4 t5 : Tok) :
    Cut w mean mg mb 3 72 [.int a1 t1, .int a2 t2, .int a3 t3, .int a4 t4, .int a5 t5] (fun _ => 584283 ≤ 584283 + a1 * 144000 + a2 * 7200 + a3 * 360 + a4 * 20 + a5) (RTupIS (tDay (584283 + a1 * 144000 + a2 * 7200 + a3 * 360 + a4 * 20 + a5 - 584283)) (tzS (tNam (584283 + a1 * 144000 + a2 * 7200 + a3 * 360 + a4 * 20 + a5 - 584283)))) := by
  unfold Cut
  k_fill
  intro dp un gd cn cs a ccd cl outer A₀ base h₀ L m pre cc s Q E hB hF hK hN hO hC hG hT hk hp hd1 hu1 hret
  refine wpAny_call ?_
  k_dflt cell_enter
  w_top off
  repeat' (first | (k_unfold; (try dsimp only)) | (k_end; wrow_close) | ((with_reducible show wpAny _ _ (call (Value.ref _) _) _ _ _); first | (k_here; (with_reducible show wpAny _ _ (call (Value.ref 58) [Value.int _ _]) _ _ _); k_dflt (refine' Cut.use (c_to_tzolkin _ _ _ _ _ _) ?k1 ?k2 ?k3 ?k4 ?k6 ?k9 ?k7 ?k8 ?k5 ?kK ?kp ?kd ?ku ?_; (case k1 => k_asm); (case k2 => k_asm); (case k3 => k_asm); (case k4 => k_asm); (case k5 => k_asm); (case k7 => assumption); (case k6 => tb_rel); (case k9 => tb_start); (case k8 => assumption); (case kK => first | exact rfl | assumption); (case kp => (first | trivial | assumption | omega | l_fact)); (case kd => ktr_room); (case ku => ktr_units)); (intro v9 tl9 cc9 h9 g9 d9 tk9 r9 l9 hc9 F9 N9 G9); (obtain ⟨D9, t90, t91, c9, e9, e8⟩ := r9); subst e9; subst e8; (simp only [List.cons_append, List.nil_append] at N9); (replace l9 := fun q hq => l9 q hq _ (List.Mem.head _)); (try dsimp only at l9); (try k_lt l9); (try dsimp only); (try k_fold); (try k_sweep)) | (k_here; (with_reducible show wpAny _ _ (call (Value.ref 51) [Value.int _ _]) _ _ _); k_dflt (refine' Cut.use (c_to_haab _ _ _ _ _ _) ?k1 ?k2 ?k3 ?k4 ?k6 ?k9 ?k7 ?k8 ?k5 ?kK ?kp ?kd ?ku ?_; (case k1 => k_asm); (case k2 => k_asm); (case k3 => k_asm); (case k4 => k_asm); (case k5 => k_asm); (case k7 => assumption); (case k6 => tb_rel); (case k9 => tb_start); (case k8 => assumption); (case kK => first | exact rfl | assumption); (case kp => (first | trivial | assumption | omega | l_fact)); (case kd => ktr_room); (case ku => ktr_units)); (intro v9 tl9 cc9 h9 g9 d9 tk9 r9 l9 hc9 F9 N9 G9); (obtain ⟨D9, t90, t91, c9, e9, e8⟩ := r9); subst e9; subst e8; (simp only [List.cons_append, List.nil_append] at N9); (replace l9 := fun q hq => l9 q hq _ (List.Mem.head _)); (try dsimp only at l9); (try k_lt l9); (try dsimp only); (try k_fold); (try k_sweep)) | (k_here; (with_reducible show wpAny _ _ (call (Value.ref 37) [Value.int _ _, Value.int _ _, Value.int _ _, Value.int _ _, Value.int _ _]) _ _ _); k_dflt (refine' Cut.use (c_to_jd _ _ _ _ _ _ _ _ _ _ _ _ _ _) ?k1 ?k2 ?k3 ?k4 ?k6 ?k9 ?k7 ?k8 ?k5 ?kK ?kp ?kd ?ku ?_; (case k1 => k_asm); (case k2 => k_asm); (case k3 => k_asm); (case k4 => k_asm); (case k5 => k_asm); (case k7 => assumption); (case k6 => tb_rel); (case k9 => tb_start); (case k8 => assumption); (case kK => first | exact rfl | assumption); (case kp => (first | trivial | assumption | omega | l_fact)); (case kd => ktr_room); (case ku => ktr_units)); (intro v9 tl9 cc9 h9 g9 d9 tk9 r9 l9 hc9 F9 N9 G9); (obtain ⟨e9, t9, e8⟩ := r9); subst e9; subst e8; (simp only [List.cons_append, List.nil_append] at N9); clear l9; (try dsimp only); (try k_fold); (try k_sweep))) | ((with_reducible show wpAny _ _ (eval (Expr.Call (Expr.Name _ _) _ _ _) _) _ _ _); (k_here; refine Call_ ?_)) | walk1 | dsimp only | (leave1; try dsimp only))
  all_goals exact hret.of1 ⟨_, _, _, _, rfl, rfl⟩ (by first | assumption | exact lt_left (by assumption) | exact allLt_out (by assumption)) (by assumption) (by k_asm) (by ktr_rel) (by assumption)
set_option maxRecDepth 100000 in
set_option maxHeartbeats 8000000 in
theorem c_law_names (w : World) (mean : ExcName → Option Value) (mg mb : Str → Option Value)  :
    Cut w mean mg mb 1 121 [] (fun _ => True) (RStrs tzL) := by
  unfold Cut
  k_fill
  intro dp un gd cn cs a ccd cl outer A₀ base h₀ L m pre cc s Q E hB hF hK hN hO hC hG hT hk hp hd1 hu1 hret
  refine wpAny_call ?_
  k_dflt cell_enter
  w_top off
  repeat' (first | (k_unfold; (try dsimp only)) | (k_end; wrow_close) | ((with_reducible show wpAny _ _ (call (Value.ref _) _) _ _ _); first | (k_here; (with_reducible show wpAny _ _ (call (Value.ref 58) [Value.int _ _]) _ _ _); k_dflt (refine' Cut.use (c_to_tzolkin _ _ _ _ _ _) ?k1 ?k2 ?k3 ?k4 ?k6 ?k9 ?k7 ?k8 ?k5 ?kK ?kp ?kd ?ku ?_; (case k1 => k_asm); (case k2 => k_asm); (case k3 => k_asm); (case k4 => k_asm); (case k5 => k_asm); (case k7 => assumption); (case k6 => tb_rel); (case k9 => tb_start); (case k8 => assumption); (case kK => first | exact rfl | assumption); (case kp => (first | trivial | assumption | omega | l_fact)); (case kd => ktr_room); (case ku => ktr_units)); (intro v9 tl9 cc9 h9 g9 d9 tk9 r9 l9 hc9 F9 N9 G9); (obtain ⟨D9, t90, t91, c9, e9, e8⟩ := r9); subst e9; subst e8; (simp only [List.cons_append, List.nil_append] at N9); (replace l9 := fun q hq => l9 q hq _ (List.Mem.head _)); (try dsimp only at l9); (try k_lt l9); (try dsimp only); (try k_fold); (try k_sweep)) | (k_here; (with_reducible show wpAny _ _ (call (Value.ref 51) [Value.int _ _]) _ _ _); k_dflt (refine' Cut.use (c_to_haab _ _ _ _ _ _) ?k1 ?k2 ?k3 ?k4 ?k6 ?k9 ?k7 ?k8 ?k5 ?kK ?kp ?kd ?ku ?_; (case k1 => k_asm); (case k2 => k_asm); (case k3 => k_asm); (case k4 => k_asm); (case k5 => k_asm); (case k7 => assumption); (case k6 => tb_rel); (case k9 => tb_start); (case k8 => assumption); (case kK => first | exact rfl | assumption); (case kp => (first | trivial | assumption | omega | l_fact)); (case kd => ktr_room); (case ku => ktr_units)); (intro v9 tl9 cc9 h9 g9 d9 tk9 r9 l9 hc9 F9 N9 G9); (obtain ⟨D9, t90, t91, c9, e9, e8⟩ := r9); subst e9; subst e8; (simp only [List.cons_append, List.nil_append] at N9); (replace l9 := fun q hq => l9 q hq _ (List.Mem.head _)); (try dsimp only at l9); (try k_lt l9); (try dsimp only); (try k_fold); (try k_sweep)) | (k_here; (with_reducible show wpAny _ _ (call (Value.ref 37) [Value.int _ _, Value.int _ _, Value.int _ _, Value.int _ _, Value.int _ _]) _ _ _); k_dflt (refine' Cut.use (c_to_jd _ _ _ _ _ _ _ _ _ _ _ _ _ _) ?k1 ?k2 ?k3 ?k4 ?k6 ?k9 ?k7 ?k8 ?k5 ?kK ?kp ?kd ?ku ?_; (case k1 => k_asm); (case k2 => k_asm); (case k3 => k_asm); (case k4 => k_asm); (case k5 => k_asm); (case k7 => assumption); (case k6 => tb_rel); (case k9 => tb_start); (case k8 => assumption); (case kK => first | exact rfl | assumption); (case kp => (first | trivial | assumption | omega | l_fact)); (case kd => ktr_room); (case ku => ktr_units)); (intro v9 tl9 cc9 h9 g9 d9 tk9 r9 l9 hc9 F9 N9 G9); (obtain ⟨e9, t9, e8⟩ := r9); subst e9; subst e8; (simp only [List.cons_append, List.nil_append] at N9); clear l9; (try dsimp only); (try k_fold); (try k_sweep))) | ((with_reducible show wpAny _ _ (eval (Expr.Call (Expr.Name _ _) _ _ _) _) _ _ _); (k_here; refine Call_ ?_)) | walk1 | dsimp only | (leave1; try dsimp only))
  all_goals (refine' hret.of1 ⟨_, _, _, rfl, ?st, rfl⟩ ?l ?c ?F ?N ?G; (case N => k_asm); (case F => k_asm); (case l => first | assumption | exact lt_left (by assumption) | exact allLt_out (by assumption)); (case c => assumption); (case G => assumption); (case st => repeat constructor))
set_option maxRecDepth 100000 in
set_option maxHeartbeats 8000000 in
theorem c_law_moons (w : World) (mean : ExcName → Option Value) (mg mb : Str → Option Value)  :
    Cut w mean mg mb 1 128 [] (fun _ => True) (RStrs haabL) := by
  unfold Cut
  k_fill
  intro dp un gd cn cs a ccd cl outer A₀ base h₀ L m pre cc s Q E hB hF hK hN hO hC hG hT hk hp hd1 hu1 hret
  refine wpAny_call ?_
  k_dflt cell_enter
  w_top off
  repeat' (first | (k_unfold; (try dsimp only)) | (k_end; wrow_close) | ((with_reducible show wpAny _ _ (call (Value.ref _) _) _ _ _); first | (k_here; (with_reducible show wpAny _ _ (call (Value.ref 58) [Value.int _ _]) _ _ _); k_dflt (refine' Cut.use (c_to_tzolkin _ _ _ _ _ _) ?k1 ?k2 ?k3 ?k4 ?k6 ?k9 ?k7 ?k8 ?k5 ?kK ?kp ?kd ?ku ?_; (case k1 => k_asm); (case k2 => k_asm); (case k3 => k_asm); (case k4 => k_asm); (case k5 => k_asm); (case k7 => assumption); (case k6 => tb_rel); (case k9 => tb_start); (case k8 => assumption); (case kK => first | exact rfl | assumption); (case kp => (first | trivial | assumption | omega | l_fact)); (case kd => ktr_room); (case ku => ktr_units)); (intro v9 tl9 cc9 h9 g9 d9 tk9 r9 l9 hc9 F9 N9 G9); (obtain ⟨D9, t90, t91, c9, e9, e8⟩ := r9); subst e9; subst e8; (simp only [List.cons_append, List.nil_append] at N9); (replace l9 := fun q hq => l9 q hq _ (List.Mem.head _)); (try dsimp only at l9); (try k_lt l9); (try dsimp only); (try k_fold); (try k_sweep)) | (k_here; (with_reducible show wpAny _ _ (call (Value.ref 51) [Value.int _ _]) _ _ _); k_dflt (refine' Cut.use (c_to_haab _ _ _ _ _ _) ?k1 ?k2 ?k3 ?k4 ?k6 ?k9 ?k7 ?k8 ?k5 ?kK ?kp ?kd ?ku ?_; (case k1 => k_asm); (case k2 => k_asm); (case k3 => k_asm); (case k4 => k_asm); (case k5 => k_asm); (case k7 => assumption); (case k6 => tb_rel); (case k9 => tb_start); (case k8 => assumption); (case kK => first | exact rfl | assumption); (case kp => (first | trivial | assumption | omega | l_fact)); (case kd => ktr_room); (case ku => ktr_units)); (intro v9 tl9 cc9 h9 g9 d9 tk9 r9 l9 hc9 F9 N9 G9); (obtain ⟨D9, t90, t91, c9, e9, e8⟩ := r9); subst e9; subst e8; (simp only [List.cons_append, List.nil_append] at N9); (replace l9 := fun q hq => l9 q hq _ (List.Mem.head _)); (try dsimp only at l9); (try k_lt l9); (try dsimp only); (try k_fold); (try k_sweep)) | (k_here; (with_reducible show wpAny _ _ (call (Value.ref 37) [Value.int _ _, Value.int _ _, Value.int _ _, Value.int _ _, Value.int _ _]) _ _ _); k_dflt (refine' Cut.use (c_to_jd _ _ _ _ _ _ _ _ _ _ _ _ _ _) ?k1 ?k2 ?k3 ?k4 ?k6 ?k9 ?k7 ?k8 ?k5 ?kK ?kp ?kd ?ku ?_; (case k1 => k_asm); (case k2 => k_asm); (case k3 => k_asm); (case k4 => k_asm); (case k5 => k_asm); (case k7 => assumption); (case k6 => tb_rel); (case k9 => tb_start); (case k8 => assumption); (case kK => first | exact rfl | assumption); (case kp => (first | trivial | assumption | omega | l_fact)); (case kd => ktr_room); (case ku => ktr_units)); (intro v9 tl9 cc9 h9 g9 d9 tk9 r9 l9 hc9 F9 N9 G9); (obtain ⟨e9, t9, e8⟩ := r9); subst e9; subst e8; (simp only [List.cons_append, List.nil_append] at N9); clear l9; (try dsimp only); (try k_fold); (try k_sweep))) | ((with_reducible show wpAny _ _ (eval (Expr.Call (Expr.Name _ _) _ _ _) _) _ _ _); (k_here; refine Call_ ?_)) | walk1 | dsimp only | (leave1; try dsimp only))
  all_goals (refine' hret.of1 ⟨_, _, _, rfl, ?st, rfl⟩ ?l ?c ?F ?N ?G; (case N => k_asm); (case F => k_asm); (case l => first | assumption | exact lt_left (by assumption) | exact allLt_out (by assumption)); (case c => assumption); (case G => assumption); (case st => repeat constructor))
end Mine
end
section
namespace Mine
theorem hm_b (p : Int) : 0 ≤ hDay p ∧ hDay p < 20 ∧ 0 ≤ hMon p ∧ hMon p < 19 ∧ 1 ≤ tDay p ∧ tDay p ≤ 13 ∧ 0 ≤ tNam p ∧ tNam p < 20 := by
  simp only [hDay, hMon, hPl, tDay, tNam]; omega
theorem haab_inj : ∀ a b : Fin 19, haabL.getD a.val Str.empty = haabL.getD b.val Str.empty → a = b := by decide
theorem haabS_inj {a b : Int} (ha : 0 ≤ a ∧ a < 19) (hb : 0 ≤ b ∧ b < 19) (h : haabS a = haabS b) : a = b := by
  have := haab_inj ⟨a.toNat, by omega⟩ ⟨b.toNat, by omega⟩ h
  have := congrArg Fin.val this
  dsimp only at this
  omega
theorem tz_inj : ∀ a b : Fin 20, tzL.getD a.val Str.empty = tzL.getD b.val Str.empty → a = b := by decide
theorem tzS_inj {a b : Int} (ha : 0 ≤ a ∧ a < 20) (hb : 0 ≤ b ∧ b < 20) (h : tzS a = tzS b) : a = b := by
  have := tz_inj ⟨a.toNat, by omega⟩ ⟨b.toNat, by omega⟩ h
  have := congrArg Fin.val this
  dsimp only at this
  omega
set_option maxRecDepth 100000 in
set_option maxHeartbeats 8000000 in
theorem c_next_haab (w : World) (mean : ExcName → Option Value) (mg mb : Str → Option Value) (j jd : Int) (t u : Tok) :
    Cut w mean mg mb 5 100 [.str (haabS j) t, .int jd u] (fun _ => 584283 ≤ jd ∧ 0 ≤ j ∧ j < 19) (RInt (jd + (if hMon (jd - 584283) = j then 1 - hDay (jd - 584283) else (20 * j + 1 - (20 * hMon (jd - 584283) + hDay (jd - 584283))) % 365))) := by
  unfold Cut
  k_fill
  intro dp un gd cn cs a ccd cl outer A₀ base h₀ L m pre cc s Q E hB hF hK hN hO hC hG hT hk hp hd1 hu1 hret
  refine wpAny_call ?_
  k_dflt cell_enter
  obtain ⟨hp1, hj0, hj1⟩ := hp
  obtain ⟨b1, b2, b3, b4, b5, b6, b7, b8⟩ := hm_b (jd - 584283)
  w_top off
  repeat' (first | (k_unfold; (try dsimp only)) | (k_end; wrow_close) | ((with_reducible show wpAny _ _ (call (Value.ref _) _) _ _ _); first | (k_here; (with_reducible show wpAny _ _ (call (Value.ref 93) [Value.int _ _, Value.str _ _]) _ _ _); k_dflt (refine' Cut.use (c_tc _ _ _ _ _ _ _ _) ?k1 ?k2 ?k3 ?k4 ?k6 ?k9 ?k7 ?k8 ?k5 ?kK ?kp ?kd ?ku ?_; (case k1 => k_asm); (case k2 => k_asm); (case k3 => k_asm); (case k4 => k_asm); (case k5 => k_asm); (case k7 => assumption); (case k6 => tb_rel); (case k9 => tb_start); (case k8 => assumption); (case kK => first | exact rfl | assumption); (case kp => (refine ⟨?_, ?_, ?_, ?_⟩ <;> omega)); (case kd => ktr_room); (case ku => ktr_units)); (intro v9 tl9 cc9 h9 g9 d9 tk9 r9 l9 hc9 F9 N9 G9); (obtain ⟨e9, t9, e8⟩ := r9); subst e9; subst e8; (simp only [List.cons_append, List.nil_append] at N9); clear l9; (try dsimp only); (try k_fold); (try k_sweep)) | (k_here; (with_reducible show wpAny _ _ (call (Value.ref 86) [Value.int _ _, Value.str _ _]) _ _ _); k_dflt (refine' Cut.use (c_hc _ _ _ _ _ _ _ _) ?k1 ?k2 ?k3 ?k4 ?k6 ?k9 ?k7 ?k8 ?k5 ?kK ?kp ?kd ?ku ?_; (case k1 => k_asm); (case k2 => k_asm); (case k3 => k_asm); (case k4 => k_asm); (case k5 => k_asm); (case k7 => assumption); (case k6 => tb_rel); (case k9 => tb_start); (case k8 => assumption); (case kK => first | exact rfl | assumption); (case kp => (refine ⟨?_, ?_, ?_, ?_⟩ <;> omega)); (case kd => ktr_room); (case ku => ktr_units)); (intro v9 tl9 cc9 h9 g9 d9 tk9 r9 l9 hc9 F9 N9 G9); (obtain ⟨e9, t9, e8⟩ := r9); subst e9; subst e8; (simp only [List.cons_append, List.nil_append] at N9); clear l9; (try dsimp only); (try k_fold); (try k_sweep)) | (k_here; (with_reducible show wpAny _ _ (call (Value.ref 58) [Value.int _ _]) _ _ _); k_dflt (refine' Cut.use (c_to_tzolkin _ _ _ _ _ _) ?k1 ?k2 ?k3 ?k4 ?k6 ?k9 ?k7 ?k8 ?k5 ?kK ?kp ?kd ?ku ?_; (case k1 => k_asm); (case k2 => k_asm); (case k3 => k_asm); (case k4 => k_asm); (case k5 => k_asm); (case k7 => assumption); (case k6 => tb_rel); (case k9 => tb_start); (case k8 => assumption); (case kK => first | exact rfl | assumption); (case kp => (first | trivial | assumption | omega | l_fact)); (case kd => ktr_room); (case ku => ktr_units)); (intro v9 tl9 cc9 h9 g9 d9 tk9 r9 l9 hc9 F9 N9 G9); (obtain ⟨D9, t90, t91, c9, e9, e8⟩ := r9); subst e9; subst e8; (simp only [List.cons_append, List.nil_append] at N9); (replace l9 := fun q hq => l9 q hq _ (List.Mem.head _)); (try dsimp only at l9); (try k_lt l9); (try dsimp only); (try k_fold); (try k_sweep)) | (k_here; (with_reducible show wpAny _ _ (call (Value.ref 51) [Value.int _ _]) _ _ _); k_dflt (refine' Cut.use (c_to_haab _ _ _ _ _ _) ?k1 ?k2 ?k3 ?k4 ?k6 ?k9 ?k7 ?k8 ?k5 ?kK ?kp ?kd ?ku ?_; (case k1 => k_asm); (case k2 => k_asm); (case k3 => k_asm); (case k4 => k_asm); (case k5 => k_asm); (case k7 => assumption); (case k6 => tb_rel); (case k9 => tb_start); (case k8 => assumption); (case kK => first | exact rfl | assumption); (case kp => (first | trivial | assumption | omega | l_fact)); (case kd => ktr_room); (case ku => ktr_units)); (intro v9 tl9 cc9 h9 g9 d9 tk9 r9 l9 hc9 F9 N9 G9); (obtain ⟨D9, t90, t91, c9, e9, e8⟩ := r9); subst e9; subst e8; (simp only [List.cons_append, List.nil_append] at N9); (replace l9 := fun q hq => l9 q hq _ (List.Mem.head _)); (try dsimp only at l9); (try k_lt l9); (try dsimp only); (try k_fold); (try k_sweep))) | ((with_reducible show wpAny _ _ (eval (Expr.Call (Expr.Name _ _) _ _ _) _) _ _ _); (k_here; refine Call_ ?_)) | walk1 | dsimp only | (leave1; try dsimp only))
  · (rename (_ == _) = true => hq); exact hret.of0 ⟨rfl, _, by rw [if_pos (haabS_inj ⟨b3, b4⟩ ⟨hj0, hj1⟩ (by simpa using hq))]⟩ (by assumption) (by k_asm) (by ktr_rel) (by assumption)
  · (rename (_ == _) = false => hq); exact hret.of0 ⟨rfl, _, by rw [if_neg (fun z => by rw [z] at hq; simp at hq), fmod_val _ _ (by decide)]⟩ (by assumption) (by k_asm) (by ktr_rel) (by assumption)
end Mine
end
section
namespace Mine
set_option maxRecDepth 100000 in
set_option maxHeartbeats 8000000 in
theorem c_next_tz (w : World) (mean : ExcName → Option Value) (mg mb : Str → Option Value) (d i jd : Int) (D : Addr) (t u v : Tok) (cn : Nat) :
    Cut w mean mg mb 6 107 [.ref D, .int jd u] (fun pre => 584283 ≤ jd ∧ 1 ≤ d ∧ d ≤ 13 ∧ 0 ≤ i ∧ i < 20 ∧ (D, tupO [.int d t, .str (tzS i) v] cn) ∈ pre) (RInt (jd + (tcF d i - tcF (tDay (jd - 584283)) (tNam (jd - 584283))) % 260)) := by
  unfold Cut
  k_fill
  intro dp un gd cn cs a ccd cl outer A₀ base h₀ L m pre cc s Q E hB hF hK hN hO hC hG hT hk hp hd1 hu1 hret
  refine wpAny_call ?_
  k_dflt cell_enter
  obtain ⟨hp1, hd0, hd1, hi0, hi1, hmem⟩ := hp
  obtain ⟨b1, b2, b3, b4, b5, b6, b7, b8⟩ := hm_b (jd - 584283)
  w_top off
  repeat' (first | (k_unfold; (try dsimp only)) | (k_end; wrow_close) | ((with_reducible show wpAny _ _ (call (Value.ref _) _) _ _ _); first | (k_here; (with_reducible show wpAny _ _ (call (Value.ref 93) [Value.int _ _, Value.str _ _]) _ _ _); k_dflt (refine' Cut.use (c_tc _ _ _ _ _ _ _ _) ?k1 ?k2 ?k3 ?k4 ?k6 ?k9 ?k7 ?k8 ?k5 ?kK ?kp ?kd ?ku ?_; (case k1 => k_asm); (case k2 => k_asm); (case k3 => k_asm); (case k4 => k_asm); (case k5 => k_asm); (case k7 => assumption); (case k6 => tb_rel); (case k9 => tb_start); (case k8 => assumption); (case kK => first | exact rfl | assumption); (case kp => (refine ⟨?_, ?_, ?_, ?_⟩ <;> omega)); (case kd => ktr_room); (case ku => ktr_units)); (intro v9 tl9 cc9 h9 g9 d9 tk9 r9 l9 hc9 F9 N9 G9); (obtain ⟨e9, t9, e8⟩ := r9); subst e9; subst e8; (simp only [List.cons_append, List.nil_append] at N9); clear l9; (try dsimp only); (try k_fold); (try k_sweep)) | (k_here; (with_reducible show wpAny _ _ (call (Value.ref 86) [Value.int _ _, Value.str _ _]) _ _ _); k_dflt (refine' Cut.use (c_hc _ _ _ _ _ _ _ _) ?k1 ?k2 ?k3 ?k4 ?k6 ?k9 ?k7 ?k8 ?k5 ?kK ?kp ?kd ?ku ?_; (case k1 => k_asm); (case k2 => k_asm); (case k3 => k_asm); (case k4 => k_asm); (case k5 => k_asm); (case k7 => assumption); (case k6 => tb_rel); (case k9 => tb_start); (case k8 => assumption); (case kK => first | exact rfl | assumption); (case kp => (refine ⟨?_, ?_, ?_, ?_⟩ <;> omega)); (case kd => ktr_room); (case ku => ktr_units)); (intro v9 tl9 cc9 h9 g9 d9 tk9 r9 l9 hc9 F9 N9 G9); (obtain ⟨e9, t9, e8⟩ := r9); subst e9; subst e8; (simp only [List.cons_append, List.nil_append] at N9); clear l9; (try dsimp only); (try k_fold); (try k_sweep)) | (k_here; (with_reducible show wpAny _ _ (call (Value.ref 58) [Value.int _ _]) _ _ _); k_dflt (refine' Cut.use (c_to_tzolkin _ _ _ _ _ _) ?k1 ?k2 ?k3 ?k4 ?k6 ?k9 ?k7 ?k8 ?k5 ?kK ?kp ?kd ?ku ?_; (case k1 => k_asm); (case k2 => k_asm); (case k3 => k_asm); (case k4 => k_asm); (case k5 => k_asm); (case k7 => assumption); (case k6 => tb_rel); (case k9 => tb_start); (case k8 => assumption); (case kK => first | exact rfl | assumption); (case kp => (first | trivial | assumption | omega | l_fact)); (case kd => ktr_room); (case ku => ktr_units)); (intro v9 tl9 cc9 h9 g9 d9 tk9 r9 l9 hc9 F9 N9 G9); (obtain ⟨D9, t90, t91, c9, e9, e8⟩ := r9); subst e9; subst e8; (simp only [List.cons_append, List.nil_append] at N9); (replace l9 := fun q hq => l9 q hq _ (List.Mem.head _)); (try dsimp only at l9); (try k_lt l9); (try dsimp only); (try k_fold); (try k_sweep)) | (k_here; (with_reducible show wpAny _ _ (call (Value.ref 51) [Value.int _ _]) _ _ _); k_dflt (refine' Cut.use (c_to_haab _ _ _ _ _ _) ?k1 ?k2 ?k3 ?k4 ?k6 ?k9 ?k7 ?k8 ?k5 ?kK ?kp ?kd ?ku ?_; (case k1 => k_asm); (case k2 => k_asm); (case k3 => k_asm); (case k4 => k_asm); (case k5 => k_asm); (case k7 => assumption); (case k6 => tb_rel); (case k9 => tb_start); (case k8 => assumption); (case kK => first | exact rfl | assumption); (case kp => (first | trivial | assumption | omega | l_fact)); (case kd => ktr_room); (case ku => ktr_units)); (intro v9 tl9 cc9 h9 g9 d9 tk9 r9 l9 hc9 F9 N9 G9); (obtain ⟨D9, t90, t91, c9, e9, e8⟩ := r9); subst e9; subst e8; (simp only [List.cons_append, List.nil_append] at N9); (replace l9 := fun q hq => l9 q hq _ (List.Mem.head _)); (try dsimp only at l9); (try k_lt l9); (try dsimp only); (try k_fold); (try k_sweep))) | ((with_reducible show wpAny _ _ (eval (Expr.Call (Expr.Name _ _) _ _ _) _) _ _ _); (k_here; refine Call_ ?_)) | walk1 | dsimp only | (leave1; try dsimp only))
  all_goals exact hret.of0 ⟨rfl, _, by rw [fmod_val _ _ (by decide)]⟩ (by assumption) (by k_asm) (by ktr_rel) (by assumption)
end Mine
end
section
set_option maxRecDepth 100000
namespace Mine
/-- where the two rounds meet within 18,980 days: the first day from now on that bears both -/
abbrev cmF (hd td : Int) : Int := hd + 365 * ((5 * ((td - hd) / 5)) % 52)
theorem cm_meet (hd td : Int) (h1 : 0 ≤ hd ∧ hd < 365) (h2 : 0 ≤ td ∧ td < 260) (h5 : (td - hd) % 5 = 0) (k : Int) :
    ((firstMet (fun j : Nat => (j : Int) * 260 + td) 73).any (· == k) && (firstMet (fun j : Nat => (j : Int) * 365 + hd) 52).any (· == k)) = decide (some (cmF hd td) = some k) := by
  rw [Bool.eq_iff_iff, Bool.and_eq_true, met_iff, met_iff, decide_eq_true_eq]
  constructor
  · rintro ⟨⟨j, hj, e⟩, ⟨j', hj', e'⟩⟩
    congr 1
    simp only [cmF]
    omega
  · intro e
    have e := Option.some.inj e
    subst e
    simp only [cmF]
    refine ⟨⟨((hd + 365 * ((5 * ((td - hd) / 5)) % 52) - td) / 260).toNat, ?_, ?_⟩, ⟨((5 * ((td - hd) / 5)) % 52).toNat, ?_, ?_⟩⟩ <;> omega
theorem cm_none (hd td : Int) (h5 : (td - hd) % 5 ≠ 0) (k : Int) :
    ((firstMet (fun j : Nat => (j : Int) * 260 + td) 73).any (· == k) && (firstMet (fun j : Nat => (j : Int) * 365 + hd) 52).any (· == k)) = decide ((none : Option Int) = some k) := by
  rw [Bool.eq_iff_iff, Bool.and_eq_true, met_iff, met_iff, decide_eq_true_eq]
  constructor
  · rintro ⟨⟨j, hj, e⟩, ⟨j', hj', e'⟩⟩
    exfalso
    omega
  · intro e; cases e
theorem fm365 (x : Int) : 0 ≤ x.fmod 365 ∧ x.fmod 365 < 365 := ⟨Int.fmod_nonneg_of_pos x (by decide), Int.fmod_lt_of_pos x (by decide)⟩
theorem fm260 (x : Int) : 0 ≤ x.fmod 260 ∧ x.fmod 260 < 260 := ⟨Int.fmod_nonneg_of_pos x (by decide), Int.fmod_lt_of_pos x (by decide)⟩
/-- the days to the wanted day of the Haab, of the Tzolkin -/
abbrev hdF (p e j : Int) : Int := (20 * j + e - (20 * hMon p + hDay p)).fmod 365
abbrev tdF (p d i : Int) : Int := (tcF d i - tcF (tDay p) (tNam p)).fmod 260
end Mine
end
section
namespace Mine
set_option maxRecDepth 100000 in
set_option maxHeartbeats 8000000 in
theorem c_nth (w : World) (mean : ExcName → Option Value) (mg mb : Str → Option Value) (d i e j jd : Int) (D1 D2 : Addr) (t1 t2 t3 t4 u : Tok) (c1 c2 : Nat) :
    Cut w mean mg mb 6 114 [.ref D1, .ref D2, .int jd u] (fun pre => 584283 ≤ jd ∧ 1 ≤ d ∧ d ≤ 13 ∧ 0 ≤ i ∧ i < 20 ∧ 0 ≤ e ∧ e ≤ 19 ∧ 0 ≤ j ∧ j < 19 ∧ (D1, tupO [.int d t1, .str (tzS i) t2] c1) ∈ pre ∧ (D2, tupO [.int e t3, .str (haabS j) t4] c2) ∈ pre ∧ (tdF (jd - 584283) d i - hdF (jd - 584283) e j) % 5 = 0) (RInt (cmF (hdF (jd - 584283) e j) (tdF (jd - 584283) d i) + jd)) := by
  unfold Cut
  k_fill
  intro dp un gd cn cs a ccd cl outer A₀ base h₀ L m pre cc s Q E hB hF hK hN hO hC hG hT hk hp hd1 hu1 hret
  refine wpAny_call ?_
  k_dflt (refine' code_defC ?k1 ?k2 ?k3 ?k4 ?k5 ?kA ?kF ?kK ?k6 ?k7 ?k8 ?k9 ?kB ?kD ?_ ?c2 ?c3 ?c4; (case kA => exact rfl); (case kF => exact rfl); (case kK => assumption); (case k1 => k_asm); (case k2 => k_asm); (case k3 => k_asm); (case k4 => k_asm); (case k5 => k_asm); (case k6 => k_is); (case k7 => k_is); (case k8 => ktr_room); (case k9 => exact BindsTo.of_eq rfl); (case kB => exact rfl); (case kD => decide +kernel); (case c2 => exact rfl); (case c3 => exact rfl); (case c4 => exact rfl); k_whole; intro g' L' h' tk' cells' FG' F' N' Y' B' X' T' l1; (try k_lt l1); k_cells Y'; (try simp only [List.cons_append, List.nil_append] at N'); (try dsimp only); (try k_lift B'); (try k_fold))
  have hBL : BelowL pre cc L' := l1
  obtain ⟨hp1, hd0, hd1, hi0, hi1, he0, he1, hj0, hj1, hmem1, hmem2, h5⟩ := hp
  obtain ⟨b1, b2, b3, b4, b5, b6, b7, b8⟩ := hm_b (jd - 584283)
  w_top off
  repeat' (first | (k_unfold; (try dsimp only)) | (k_end; wrow_close) | ((with_reducible show wpAny _ _ (call (Value.builtin _) _) _ _ _); first | (k_here; k_dflt (refine' inter_K (some (cmF _ _)) ?F ?N ?h1 ?h2 ?hne ?s1 ?s2 ?hb1 ?hb2 ?hc ?_; (case F => k_asm); (case N => k_asm); (case h1 => k_mem); (case h2 => k_mem); (case s1 => assumption); (case s2 => assumption); (case hne => (refine neN ?_; (first | omega | decide))); (case hb1 => exact met_len _ _ (by decide)); (case hb2 => exact met_len _ _ (by decide)); (case hc => exact cm_meet _ _ (fm365 _) (fm260 _) (by assumption))); (intro D9 o9 h9 F9 N9 l9 so9); (try dsimp only); (try k_fold); (try k_sweep)) | (k_here; k_dflt (refine' popc_K ?F ?N ?hl ?so ?_; (case F => k_asm); (case N => k_asm); (case so => assumption); (case hl => first | assumption | exact allLt_out (by assumption))); (intro t9 h9 d9 F9 N9); (try dsimp only); (try k_fold); (try k_sweep))) | ((with_reducible show wpAny _ _ (getMethod (Value.ref _) _ _) _ _ _); first | (k_here; (with_reducible show wpAny _ _ (getMethod (Value.ref _) (PySem.Str.ofString "pop") _) _ _ _); k_dflt (refine' setm_K PySem.F.slot_set_pop PySem.F.type_set_pop ?N ?m ?s ?_; (case N => k_asm); (case m => k_mem); (case s => assumption))) | (k_here; (with_reducible show wpAny _ _ (getMethod (Value.ref _) (PySem.Str.ofString "intersection") _) _ _ _); k_dflt (refine' setm_K PySem.F.slot_set_intersection PySem.F.type_set_intersection ?N ?m ?s ?_; (case N => k_asm); (case m => k_mem); (case s => assumption)))) | ((with_reducible show wpAny _ _ (call (Value.type _) _) _ _ _); (k_here; (with_reducible show wpAny _ _ (call (Value.type "set") [Value.ref _]) _ _ _); k_dflt (refine' set_gen_K ?F ?N ?X ?hK ?hL ?hb ?_; (case F => k_asm); (case N => k_asm); (case X => assumption); (case hK => assumption); (case hL => assumption); (case hb => decide)); (intro D9 o9 h9 gs9 tk9 F9 N9 l9 so9 hG9); (have G9 := hG9 (by assumption)); clear hG9; (try k_lt l9); (try dsimp only); (try k_fold); (try k_sweep))) | ((with_reducible show wpAny _ _ (eval (Expr.GeneratorExp _ _ _ _) _) _ _ _); first | (k_here; k_dflt (refine' gen_K code109 in109 (n := 73) ?gF ?gX ?gN ?gS ?gpo ?gC ?gT ?ghh ?ghco ?ghclos ?ghcell ?gh0 ?ghx ?ghy ?ghkind ?ghroom ?ghdx ?ghdy ?ghny ?ghs ?ghsmall ?ghn ?ghit ?ghm ?ghv ?ghPs ?_; (case gF => k_asm); (case gX => k_asm); (case gN => k_asm); (case gC => assumption); (case gS => tb_rel); (case gpo => tb_start); (case gT => k_asm); (case ghh => first | rfl | assumption); (case ghco => rfl); (case ghclos => with_unfolding_all rfl); (case ghcell => decide); (case gh0 => rfl); (case ghx => rfl); (case ghy => rfl); (case ghkind => rfl); (case ghroom => ktr_room); (case ghdx => decide); (case ghdy => decide); (case ghny => decide); (case ghs => intro _; with_unfolding_all rfl); (case ghit => (refine iter_range (by decide) (fun Q' hq => nameX_B (K := theK.heap_1 _) (by k_asm) (by k_asm) (topRead_of (by assumption)) (by k_is) (by boot_fast) (by decide) hq) (fun _ => Or.inl (PyProof.noPylong_of_log2 (by decide +kernel))))); (case ghsmall => decide); (case ghn => first | rfl | decide); (case ghm => k_mem); (case ghv => k_asm); (case ghPs => decide)); (intro g9 h9 gs9 tk9 cc9 hc9 F9 N9 hK9 hL9 X9 hG9); (have G9 := hG9 (by assumption)); clear hG9; (try simp only [List.cons_append, List.nil_append] at N9 hK9); (try dsimp only); (try k_fold); (try k_sweep)) | (k_here; k_dflt (refine' gen_K code109 in109 (n := 52) ?gF ?gX ?gN ?gS ?gpo ?gC ?gT ?ghh ?ghco ?ghclos ?ghcell ?gh0 ?ghx ?ghy ?ghkind ?ghroom ?ghdx ?ghdy ?ghny ?ghs ?ghsmall ?ghn ?ghit ?ghm ?ghv ?ghPs ?_; (case gF => k_asm); (case gX => k_asm); (case gN => k_asm); (case gC => assumption); (case gS => tb_rel); (case gpo => tb_start); (case gT => k_asm); (case ghh => first | rfl | assumption); (case ghco => rfl); (case ghclos => with_unfolding_all rfl); (case ghcell => decide); (case gh0 => rfl); (case ghx => rfl); (case ghy => rfl); (case ghkind => rfl); (case ghroom => ktr_room); (case ghdx => decide); (case ghdy => decide); (case ghny => decide); (case ghs => intro _; with_unfolding_all rfl); (case ghit => (refine iter_range (by decide) (fun Q' hq => nameX_B (K := theK.heap_1 _) (by k_asm) (by k_asm) (topRead_of (by assumption)) (by k_is) (by boot_fast) (by decide) hq) (fun _ => Or.inl (PyProof.noPylong_of_log2 (by decide +kernel))))); (case ghsmall => decide); (case ghn => first | rfl | decide); (case ghm => k_mem); (case ghv => k_asm); (case ghPs => decide)); (intro g9 h9 gs9 tk9 cc9 hc9 F9 N9 hK9 hL9 X9 hG9); (have G9 := hG9 (by assumption)); clear hG9; (try simp only [List.cons_append, List.nil_append] at N9 hK9); (try dsimp only); (try k_fold); (try k_sweep))) | ((with_reducible show wpAny _ _ (exec (Stmt.Try _ _ _ _ _) _) _ _ _); (k_here; (with_reducible show wpAny _ _ (exec (PySem.Stmt.Try _ (_ :: _) _ [] _) (envOfC _ _ _ _ _)) _ _ _); refine wpAny_Try_except ?_)) | ((with_reducible show wpAny _ _ (call (Value.ref _) _) _ _ _); first | (k_here; (with_reducible show wpAny _ _ (call (Value.ref 93) [Value.int _ _, Value.str _ _]) _ _ _); k_dflt (refine' Cut.use (c_tc _ _ _ _ _ _ _ _) ?k1 ?k2 ?k3 ?k4 ?k6 ?k9 ?k7 ?k8 ?k5 ?kK ?kp ?kd ?ku ?_; (case k1 => k_asm); (case k2 => k_asm); (case k3 => k_asm); (case k4 => k_asm); (case k5 => k_asm); (case k7 => assumption); (case k6 => tb_rel); (case k9 => tb_start); (case k8 => assumption); (case kK => first | exact rfl | assumption); (case kp => (refine ⟨?_, ?_, ?_, ?_⟩ <;> omega)); (case kd => ktr_room); (case ku => ktr_units)); (intro v9 tl9 cc9 h9 g9 d9 tk9 r9 l9 hc9 F9 N9 G9); (obtain ⟨e9, t9, e8⟩ := r9); subst e9; subst e8; (simp only [List.cons_append, List.nil_append] at N9); clear l9; (try dsimp only); (try k_fold); (try k_sweep)) | (k_here; (with_reducible show wpAny _ _ (call (Value.ref 86) [Value.int _ _, Value.str _ _]) _ _ _); k_dflt (refine' Cut.use (c_hc _ _ _ _ _ _ _ _) ?k1 ?k2 ?k3 ?k4 ?k6 ?k9 ?k7 ?k8 ?k5 ?kK ?kp ?kd ?ku ?_; (case k1 => k_asm); (case k2 => k_asm); (case k3 => k_asm); (case k4 => k_asm); (case k5 => k_asm); (case k7 => assumption); (case k6 => tb_rel); (case k9 => tb_start); (case k8 => assumption); (case kK => first | exact rfl | assumption); (case kp => (refine ⟨?_, ?_, ?_, ?_⟩ <;> omega)); (case kd => ktr_room); (case ku => ktr_units)); (intro v9 tl9 cc9 h9 g9 d9 tk9 r9 l9 hc9 F9 N9 G9); (obtain ⟨e9, t9, e8⟩ := r9); subst e9; subst e8; (simp only [List.cons_append, List.nil_append] at N9); clear l9; (try dsimp only); (try k_fold); (try k_sweep)) | (k_here; (with_reducible show wpAny _ _ (call (Value.ref 58) [Value.int _ _]) _ _ _); k_dflt (refine' Cut.use (c_to_tzolkin _ _ _ _ _ _) ?k1 ?k2 ?k3 ?k4 ?k6 ?k9 ?k7 ?k8 ?k5 ?kK ?kp ?kd ?ku ?_; (case k1 => k_asm); (case k2 => k_asm); (case k3 => k_asm); (case k4 => k_asm); (case k5 => k_asm); (case k7 => assumption); (case k6 => tb_rel); (case k9 => tb_start); (case k8 => assumption); (case kK => first | exact rfl | assumption); (case kp => (first | trivial | assumption | omega | l_fact)); (case kd => ktr_room); (case ku => ktr_units)); (intro v9 tl9 cc9 h9 g9 d9 tk9 r9 l9 hc9 F9 N9 G9); (obtain ⟨D9, t90, t91, c9, e9, e8⟩ := r9); subst e9; subst e8; (simp only [List.cons_append, List.nil_append] at N9); (replace l9 := fun q hq => l9 q hq _ (List.Mem.head _)); (try dsimp only at l9); (try k_lt l9); (try dsimp only); (try k_fold); (try k_sweep)) | (k_here; (with_reducible show wpAny _ _ (call (Value.ref 51) [Value.int _ _]) _ _ _); k_dflt (refine' Cut.use (c_to_haab _ _ _ _ _ _) ?k1 ?k2 ?k3 ?k4 ?k6 ?k9 ?k7 ?k8 ?k5 ?kK ?kp ?kd ?ku ?_; (case k1 => k_asm); (case k2 => k_asm); (case k3 => k_asm); (case k4 => k_asm); (case k5 => k_asm); (case k7 => assumption); (case k6 => tb_rel); (case k9 => tb_start); (case k8 => assumption); (case kK => first | exact rfl | assumption); (case kp => (first | trivial | assumption | omega | l_fact)); (case kd => ktr_room); (case ku => ktr_units)); (intro v9 tl9 cc9 h9 g9 d9 tk9 r9 l9 hc9 F9 N9 G9); (obtain ⟨D9, t90, t91, c9, e9, e8⟩ := r9); subst e9; subst e8; (simp only [List.cons_append, List.nil_append] at N9); (replace l9 := fun q hq => l9 q hq _ (List.Mem.head _)); (try dsimp only at l9); (try k_lt l9); (try dsimp only); (try k_fold); (try k_sweep))) | ((with_reducible show wpAny _ _ (eval (Expr.Call (Expr.Name _ _) _ _ _) _) _ _ _); (k_here; refine Call_ ?_)) | walk1 | dsimp only | (leave1; try dsimp only))
  all_goals exact hret.of0 ⟨rfl, _, rfl⟩ (by assumption) (by k_asm) (by ktr_rel) (by assumption)
end Mine
end
section
set_option maxRecDepth 100000
namespace Mine
/-- the frames of a stack of calls -/
abbrev frs (l : List Env) : List Addr := l.filterMap (·.frame)
theorem frs_cons {env : Env} {l : List Env} {L b : Addr} (hf : env.frame = some L) (hm : b ∈ frs (env :: l)) : b = L ∨ b ∈ frs l := by
  obtain ⟨ev, he, h2⟩ := List.mem_filterMap.mp hm
  rcases List.mem_cons.mp he with rfl | he
  · left; rw [hf] at h2; exact (Option.some.inj h2).symm
  · exact .inr (List.mem_filterMap.mpr ⟨ev, he, h2⟩)
theorem kd_push {env : Env} {outer : List Env} {h₀ g : Heap} {L : Addr} {m : Str → Option Value} (D : KtsDicts (frs outer) h₀) (F : Fr h₀ L g m) (hf : env.frame = some L) : KtsDicts (frs (env :: outer)) g := by
  intro b hb
  rcases frs_cons hf hb with rfl | hb
  · obtain ⟨o, es, ep, ho, hd, _⟩ := F.ns
    exact ⟨o, es, ep, ho, hd⟩
  · obtain ⟨o, es, n, ho, hd⟩ := D b hb
    exact ⟨o, es, n, F.keep b o ho, hd⟩
section
variable {M : Model} {A : Around} {E : Value → Shared → Prop} {s' : Shared} {base g g₂ h : Heap} {env : Env} {outer : List Env} {L e t : Addr} {m : Str → Option Value} {Q : Unit → Shared → Prop} {news : List (Addr × Obj)} {cls : Value} {vs : List Value}
/-- a frame of any kind is left by an exception that it made -/
theorem leave_made {X : String} (K : Below A base outer g) (hf : env.frame = some L) (hk : env.scope.kind = .function) (hx : Heap.NewExc h s'.heap e X) (F : Fr g L h m) (N : News g L h news)
    (hQ : ∀ h', RaisedSN base g outer e (.type X) news h' → g.UpToSlots h' → Q () { s' with heap := h' }) :
    wpAny M (A.deeper env) (leaving env (.ref e)) Q E s' := by
  have K' := pushX K F hf hk
  have Lg : g.get? L = none := kts_self F
  have old : ∀ b o, g.get? b = some o → b ∉ frs outer → (hideAll h (frs (env :: outer))).get? b = some o := fun b o q nm =>
    hideAll_get _ (F.keep b o q) fun hm => (frs_cons hf hm).elim (fun z => by rw [z, Lg] at q; cases q) nm
  have low : ∀ b o, base.get? b = some o → (hideAll h (frs (env :: outer))).get? b = some o := fun b o q =>
    hideAll_get _ (K'.stays b o q) fun hm => by rw [(K'.frames.mem hm).1] at q; cases q
  have led : ∀ q ∈ news, (hideAll h (frs (env :: outer))).get? q.1 = some q.2 ∧ g.get? q.1 = none ∧ base.get? q.1 = none := fun q hq => by
    refine ⟨hideAll_get _ (N q hq).1 fun hm => ?_, (N q hq).2.2, fresh_of_stays K.stays (N q hq).2.2⟩
    rcases frs_cons hf hm with z | z
    · exact (N q hq).2.1 z
    · obtain ⟨_, o, ho, _⟩ := K.frames.mem z
      rw [(N q hq).2.2] at ho; cases ho
  obtain ⟨ob, tp, he, hcls, hd⟩ := hx.there
  have hen : (hideAll h (frs (env :: outer))).get? e = none := by
    cases q : (hideAll h (frs (env :: outer))).get? e with
    | none => rfl
    | some o => have := of_hideAll _ q; rw [hx.new] at this; cases this
  refine wpAny_leaving_firstW (a0 := tp) K'.stack ((funFrames_hide K'.frames fun ev he b hb => List.mem_filterMap.mpr ⟨ev, he, hb⟩).of_keeps fun b o hb _ => ⟨o, hx.keeps b o hb, rfl⟩) hf he (fun b o hb => hx.keeps b o (of_hideAll _ hb)) hen hd rfl rfl fun h' hL => ?_
  obtain ⟨k1, ⟨_, _, k2⟩, k3, k4⟩ := hL
  exact hQ h' ⟨_, tp, low, old, led, k1, hen, k2, by rw [← hcls]; exact k3⟩ (((Heap.UpToSlots.of_keeps F.keep).trans (Heap.UpToSlots.of_keeps hx.keeps)).trans k4)
/-- a frame of any kind is left by an exception that flew into it -/
theorem leave_past (K : Below A base outer g) (hf : env.frame = some L) (F : Fr g L g₂ m) (R : RaisedSN base g₂ (env :: outer) e cls news s'.heap) (hsm : g₂.UpToSlots s'.heap)
    (hQ : ∀ h', RaisedSN base g outer e cls news h' → g.UpToSlots h' → Q () { s' with heap := h' }) :
    wpAny M (A.deeper env) (leaving env (.ref e)) Q E s' := by
  obtain ⟨B, a0, hB, hBG, hl, hfl⟩ := R
  have Lg : g.get? L = none := kts_self F
  refine wpAny_leaves_onW (Around.frames_deeper K.stack) hf hfl fun h' x1 x2 => ?_
  exact hQ h' ⟨B, a0, hB, fun b o q nm => hBG b o (F.keep b o q) fun hm => (frs_cons hf hm).elim (fun z => by rw [z, Lg] at q; cases q) nm,
    fun q hq => ⟨(hl q hq).1, kts_none F.keep (hl q hq).2.1, (hl q hq).2.2⟩, x1⟩ ((Heap.UpToSlots.of_keeps F.keep).trans (hsm.trans x2))
end
/-- what a caller is told of an exception that flies into its frame -/
abbrev Thrown (base h₀ : Heap) (L : Addr) (m : Str → Option Value) (pre : List (Addr × Obj)) (env : Env) (outer : List Env) (X : String) (s : Shared) (E : Value → Shared → Prop) : Prop :=
  ∀ (e : Addr) (cc' : List (Addr × Obj)) (G h' : Heap) (g' : Array GenState) (d' : Drawn) (tk' : Nat), RaisedSN base G (env :: outer) e (.type X) (pre ++ cc') h' → Fr h₀ L G m → G.UpToSlots h' → CC cc' → AllBare g' →
    E (.ref e) { s with heap := h', gens := g', drawn := d', toks := tk' }
abbrev CutE (w : World) (mean : ExcName → Option Value) (mg mb : Str → Option Value) (n : Nat) (f : Addr) (vs : List Value) (cond : List (Addr × Obj) → Prop) (X : String) : Prop :=
  ∀ (dp un : Nat) (gd : Option (List Code)) (cn : Str) (cs : Scope) (a : Addr) (ccd : Value) (cl : List (Str × Addr)) (outer : List Env) (A₀ : Around) (base h₀ : Heap) (L : Addr) (m : Str → Option Value) (pre cc : List (Addr × Obj)) (s : Shared) (Q E : Value → Shared → Prop),
    Below A₀ base outer h₀ → Fr h₀ L s.heap m → (theK.heap_1 w.params).In h₀ → News h₀ L s.heap (pre ++ cc) → PreOk pre → CC cc → AllBare s.gens → Top p0 lo0 mean mg mb h₀ → cs.kind = .function → cond pre → dp + n < recursionLimit → un + 10 * n < cLine →
    (theK.heap_1 w.params).In base → Top p0 lo0 mean mg mb base → KtsDicts (frs outer) h₀ → Thrown base h₀ L m pre (envX cn cs L a ccd cl) outer X s E →
      wpAny (model PySem.Challenge.rw_jb0005_01.row.prog w) (ktrTop dp un gd cn cs L a ccd cl outer) (call (.ref f) vs) Q E s
theorem CutE.use {w : World} {mean : ExcName → Option Value} {mg mb : Str → Option Value} {n : Nat} {f : Addr} {vs : List Value} {cond : List (Addr × Obj) → Prop} {X : String}
    {dp un : Nat} {gd : Option (List Code)} {cn : Str} {cs : Scope} {a : Addr} {ccd : Value} {cl : List (Str × Addr)} {outer : List Env} {A₀ : Around} {base h₀ : Heap} {L : Addr} {m : Str → Option Value} {news pre cc : List (Addr × Obj)} {s : Shared} {Q E : Value → Shared → Prop}
    (C : CutE w mean mg mb n f vs cond X) (B : Below A₀ base outer h₀) (F : Fr h₀ L s.heap m) (I : (theK.heap_1 w.params).In h₀) (N : News h₀ L s.heap news) (S : Sp news pre cc) (hpo : PreOk pre) (hc : CC cc) (G : AllBare s.gens) (T : Top p0 lo0 mean mg mb h₀) (hk : cs.kind = .function) (hp : cond pre) (hdp : dp + n < recursionLimit) (hu : un + 10 * n < cLine)
    (I0 : (theK.heap_1 w.params).In base) (T0 : Top p0 lo0 mean mg mb base) (D : KtsDicts (frs outer) h₀)
    (ret : Thrown base h₀ L m pre (envX cn cs L a ccd cl) outer X s E) : wpAny (model PySem.Challenge.rw_jb0005_01.row.prog w) (ktrTop dp un gd cn cs L a ccd cl outer) (call (.ref f) vs) Q E s :=
  C _ _ _ _ _ _ _ _ _ _ _ _ _ _ _ _ _ _ _ B F I (S ▸ N) hpo hc G T hk hp hdp hu I0 T0 D ret
end Mine
namespace Mine
theorem raised_sub {base G h : Heap} {l : List Env} {e : Addr} {cls : Value} {news ns : List (Addr × Obj)} (R : RaisedSN base G l e cls news h) (hs : ∀ q ∈ ns, q ∈ news) : RaisedSN base G l e cls ns h := by
  obtain ⟨B, a0, h1, h2, h3, h4⟩ := R
  exact ⟨B, a0, h1, h2, fun q hq => h3 q (hs q hq), h4⟩
end Mine
end
section
namespace Mine
set_option maxRecDepth 100000 in
set_option maxHeartbeats 8000000 in
theorem e_nt_low (w : World) (mean : ExcName → Option Value) (mg mb : Str → Option Value) (jd : Int) (vn : Value) (u : Tok) :
    CutE w mean mg mb 2 107 [vn, .int jd u] (fun _ => jd < 584283) "IndexError" := by
  unfold CutE
  k_fill
  intro dp un gd cn cs a ccd cl outer A₀ base h₀ L m pre cc s Q E hB hF hK hN hO hC hG hT hk hp hd1 hu1 hI0 hT0 hD hret
  have hBT := And.intro hI0 hT0
  clear hI0 hT0
  refine wpAny_call ?_
  k_dflt cell_enter
  w_top off
  repeat' (first | (k_unfold; (try dsimp only)) | (k_end; wrow_close) | ((with_reducible show wpAny _ _ (leaving _ (Value.ref _)) _ _ _); first | (k_here; (rename RaisedSN _ _ _ _ _ _ _ => rX); k_dflt (refine' leave_past ?k1 ?kf ?k2 ?k3 ?k4 ?_; (case kf => exact rfl); (case k3 => exact rX); (case k2 => assumption); (case k1 => assumption); (case k4 => assumption); intro h' R' U'; (try dsimp only at R' U' ⊢))) | (k_here; first | ((rename Heap.NewExc _ _ _ _ => rX); k_dflt (refine' leave_made ?k1 ?kf ?kk ?k0 ?k2 ?k3 ?_; (case kf => exact rfl); (case kk => exact rfl); (case k0 => exact rX); (case k2 => assumption); (case k1 => assumption); (case k3 => k_asm); intro h' R' U'; (try dsimp only at R' U' ⊢))) | ((rename Heap.MadeExc _ _ _ _ _ => rX); k_dflt (refine' leave_made ?k1 ?kf ?kk ?k0 ?k2 ?k3 ?_; (case kf => exact rfl); (case kk => exact rfl); (case k0 => exact rX.newExc); (case k2 => assumption); (case k1 => assumption); (case k3 => k_asm); intro h' R' U'; (try dsimp only at R' U' ⊢))))) | ((with_reducible show wpAny _ _ (eval (Expr.Call (Expr.Name _ _) _ _ _) _) _ _ _); (k_here; refine Call_ ?_)) | walk1 | dsimp only | (leave1; try dsimp only))
  all_goals exact hret _ _ _ _ _ _ _ (raised_sub (by assumption) (fun q hq => by first | exact hq | exact .tail _ hq | exact .tail _ (.tail _ hq) | exact .tail _ (.tail _ (.tail _ hq)) | exact .tail _ (.tail _ (.tail _ (.tail _ hq))) | exact .tail _ (.tail _ (.tail _ (.tail _ (.tail _ hq)))) | exact .tail _ (.tail _ (.tail _ (.tail _ (.tail _ (.tail _ hq))))))) (by assumption) (by assumption) (by assumption) (by assumption)
set_option maxRecDepth 100000 in
set_option maxHeartbeats 8000000 in
theorem e_nh_low (w : World) (mean : ExcName → Option Value) (mg mb : Str → Option Value) (jd : Int) (vn : Value) (u : Tok) :
    CutE w mean mg mb 2 100 [vn, .int jd u] (fun _ => jd < 584283) "IndexError" := by
  unfold CutE
  k_fill
  intro dp un gd cn cs a ccd cl outer A₀ base h₀ L m pre cc s Q E hB hF hK hN hO hC hG hT hk hp hd1 hu1 hI0 hT0 hD hret
  have hBT := And.intro hI0 hT0
  clear hI0 hT0
  refine wpAny_call ?_
  k_dflt cell_enter
  w_top off
  repeat' (first | (k_unfold; (try dsimp only)) | (k_end; wrow_close) | ((with_reducible show wpAny _ _ (leaving _ (Value.ref _)) _ _ _); first | (k_here; (rename RaisedSN _ _ _ _ _ _ _ => rX); k_dflt (refine' leave_past ?k1 ?kf ?k2 ?k3 ?k4 ?_; (case kf => exact rfl); (case k3 => exact rX); (case k2 => assumption); (case k1 => assumption); (case k4 => assumption); intro h' R' U'; (try dsimp only at R' U' ⊢))) | (k_here; first | ((rename Heap.NewExc _ _ _ _ => rX); k_dflt (refine' leave_made ?k1 ?kf ?kk ?k0 ?k2 ?k3 ?_; (case kf => exact rfl); (case kk => exact rfl); (case k0 => exact rX); (case k2 => assumption); (case k1 => assumption); (case k3 => k_asm); intro h' R' U'; (try dsimp only at R' U' ⊢))) | ((rename Heap.MadeExc _ _ _ _ _ => rX); k_dflt (refine' leave_made ?k1 ?kf ?kk ?k0 ?k2 ?k3 ?_; (case kf => exact rfl); (case kk => exact rfl); (case k0 => exact rX.newExc); (case k2 => assumption); (case k1 => assumption); (case k3 => k_asm); intro h' R' U'; (try dsimp only at R' U' ⊢))))) | ((with_reducible show wpAny _ _ (eval (Expr.Call (Expr.Name _ _) _ _ _) _) _ _ _); (k_here; refine Call_ ?_)) | walk1 | dsimp only | (leave1; try dsimp only))
  all_goals exact hret _ _ _ _ _ _ _ (raised_sub (by assumption) (fun q hq => by first | exact hq | exact .tail _ hq | exact .tail _ (.tail _ hq) | exact .tail _ (.tail _ (.tail _ hq)) | exact .tail _ (.tail _ (.tail _ (.tail _ hq))) | exact .tail _ (.tail _ (.tail _ (.tail _ (.tail _ hq)))) | exact .tail _ (.tail _ (.tail _ (.tail _ (.tail _ (.tail _ hq))))))) (by assumption) (by assumption) (by assumption) (by assumption)
set_option maxRecDepth 100000 in
set_option maxHeartbeats 8000000 in
theorem e_from_jd (w : World) (mean : ExcName → Option Value) (mg mb : Str → Option Value) (jd : Int) (u : Tok) :
    CutE w mean mg mb 2 44 [.int jd u] (fun _ => jd < 584283) "ValueError" := by
  unfold CutE
  k_fill
  intro dp un gd cn cs a ccd cl outer A₀ base h₀ L m pre cc s Q E hB hF hK hN hO hC hG hT hk hp hd1 hu1 hI0 hT0 hD hret
  have hBT := And.intro hI0 hT0
  clear hI0 hT0
  refine wpAny_call ?_
  k_dflt cell_enter
  w_top off
  repeat' (first | (k_unfold; (try dsimp only)) | (k_end; wrow_close) | ((with_reducible show wpAny _ _ (leaving _ (Value.ref _)) _ _ _); first | (k_here; (rename RaisedSN _ _ _ _ _ _ _ => rX); k_dflt (refine' leave_past ?k1 ?kf ?k2 ?k3 ?k4 ?_; (case kf => exact rfl); (case k3 => exact rX); (case k2 => assumption); (case k1 => assumption); (case k4 => assumption); intro h' R' U'; (try dsimp only at R' U' ⊢))) | (k_here; first | ((rename Heap.NewExc _ _ _ _ => rX); k_dflt (refine' leave_made ?k1 ?kf ?kk ?k0 ?k2 ?k3 ?_; (case kf => exact rfl); (case kk => exact rfl); (case k0 => exact rX); (case k2 => assumption); (case k1 => assumption); (case k3 => k_asm); intro h' R' U'; (try dsimp only at R' U' ⊢))) | ((rename Heap.MadeExc _ _ _ _ _ => rX); k_dflt (refine' leave_made ?k1 ?kf ?kk ?k0 ?k2 ?k3 ?_; (case kf => exact rfl); (case kk => exact rfl); (case k0 => exact rX.newExc); (case k2 => assumption); (case k1 => assumption); (case k3 => k_asm); intro h' R' U'; (try dsimp only at R' U' ⊢))))) | ((with_reducible show wpAny _ _ (eval (Expr.Call (Expr.Name _ _) _ _ _) _) _ _ _); (k_here; refine Call_ ?_)) | walk1 | dsimp only | (leave1; try dsimp only))
  all_goals exact hret _ _ _ _ _ _ _ (raised_sub (by assumption) (fun q hq => by first | exact hq | exact .tail _ hq | exact .tail _ (.tail _ hq) | exact .tail _ (.tail _ (.tail _ hq)) | exact .tail _ (.tail _ (.tail _ (.tail _ hq))) | exact .tail _ (.tail _ (.tail _ (.tail _ (.tail _ hq)))) | exact .tail _ (.tail _ (.tail _ (.tail _ (.tail _ (.tail _ hq))))))) (by assumption) (by assumption) (by assumption) (by assumption)
set_option maxRecDepth 100000 in
set_option maxHeartbeats 8000000 in
theorem e_hc_day (w : World) (mean : ExcName → Option Value) (mg mb : Str → Option Value) (d : Int) (vn : Value) (u : Tok) :
    CutE w mean mg mb 2 86 [.int d u, vn] (fun _ => d < 0 ∨ 19 < d) "IndexError" := by
  unfold CutE
  k_fill
  intro dp un gd cn cs a ccd cl outer A₀ base h₀ L m pre cc s Q E hB hF hK hN hO hC hG hT hk hp hd1 hu1 hI0 hT0 hD hret
  have hBT := And.intro hI0 hT0
  clear hI0 hT0
  refine wpAny_call ?_
  k_dflt cell_enter
  w_top off
  repeat' (first | (k_unfold; (try dsimp only)) | (k_end; wrow_close) | ((with_reducible show wpAny _ _ (leaving _ (Value.ref _)) _ _ _); first | (k_here; (rename RaisedSN _ _ _ _ _ _ _ => rX); k_dflt (refine' leave_past ?k1 ?kf ?k2 ?k3 ?k4 ?_; (case kf => exact rfl); (case k3 => exact rX); (case k2 => assumption); (case k1 => assumption); (case k4 => assumption); intro h' R' U'; (try dsimp only at R' U' ⊢))) | (k_here; first | ((rename Heap.NewExc _ _ _ _ => rX); k_dflt (refine' leave_made ?k1 ?kf ?kk ?k0 ?k2 ?k3 ?_; (case kf => exact rfl); (case kk => exact rfl); (case k0 => exact rX); (case k2 => assumption); (case k1 => assumption); (case k3 => k_asm); intro h' R' U'; (try dsimp only at R' U' ⊢))) | ((rename Heap.MadeExc _ _ _ _ _ => rX); k_dflt (refine' leave_made ?k1 ?kf ?kk ?k0 ?k2 ?k3 ?_; (case kf => exact rfl); (case kk => exact rfl); (case k0 => exact rX.newExc); (case k2 => assumption); (case k1 => assumption); (case k3 => k_asm); intro h' R' U'; (try dsimp only at R' U' ⊢))))) | ((with_reducible show wpAny _ _ (eval (Expr.Call (Expr.Name _ _) _ _ _) _) _ _ _); (k_here; refine Call_ ?_)) | walk1 | dsimp only | (leave1; try dsimp only))
  all_goals exact hret _ _ _ _ _ _ _ (raised_sub (by assumption) (fun q hq => by first | exact hq | exact .tail _ hq | exact .tail _ (.tail _ hq) | exact .tail _ (.tail _ (.tail _ hq)) | exact .tail _ (.tail _ (.tail _ (.tail _ hq))) | exact .tail _ (.tail _ (.tail _ (.tail _ (.tail _ hq)))) | exact .tail _ (.tail _ (.tail _ (.tail _ (.tail _ (.tail _ hq))))))) (by assumption) (by assumption) (by assumption) (by assumption)
end Mine
end
section
namespace Mine
set_option maxRecDepth 100000 in
set_option maxHeartbeats 8000000 in
theorem e_tc_day (w : World) (mean : ExcName → Option Value) (mg mb : Str → Option Value) (d : Int) (vn : Value) (u : Tok) :
    CutE w mean mg mb 2 93 [.int d u, vn] (fun _ => d < 1 ∨ 13 < d) "IndexError" := by
  unfold CutE
  k_fill
  intro dp un gd cn cs a ccd cl outer A₀ base h₀ L m pre cc s Q E hB hF hK hN hO hC hG hT hk hp hd1 hu1 hI0 hT0 hD hret
  have hBT := And.intro hI0 hT0
  clear hI0 hT0
  refine wpAny_call ?_
  k_dflt (refine' code_defC ?k1 ?k2 ?k3 ?k4 ?k5 ?kA ?kF ?kK ?k6 ?k7 ?k8 ?k9 ?kB ?kD ?_ ?c2 ?c3 ?c4; (case kA => exact rfl); (case kF => exact rfl); (case kK => assumption); (case k1 => k_asm); (case k2 => k_asm); (case k3 => k_asm); (case k4 => k_asm); (case k5 => k_asm); (case k6 => k_is); (case k7 => k_is); (case k8 => ktr_room); (case k9 => exact BindsTo.of_eq rfl); (case kB => exact rfl); (case kD => decide +kernel); (case c2 => exact rfl); (case c3 => exact rfl); (case c4 => exact rfl); k_whole; intro g' L' h' tk' cells' FG' F' N' Y' B' X' T' l1; (try k_lt l1); k_cells Y'; (try simp only [List.cons_append, List.nil_append] at N'); (try dsimp only); (try k_lift B'); (try k_fold))
  w_top off
  repeat' (first | (k_unfold; (try dsimp only)) | (k_end; wrow_close) | ((with_reducible show wpAny _ _ (exec (Stmt.Raise (some _) none _) _) _ _ _); (k_here; refine Raise_new rfl ?_)) | ((with_reducible show wpAny _ _ (leaving _ (Value.ref _)) _ _ _); first | (k_here; (rename RaisedSN _ _ _ _ _ _ _ => rX); k_dflt (refine' leave_past ?k1 ?kf ?k2 ?k3 ?k4 ?_; (case kf => exact rfl); (case k3 => exact rX); (case k2 => assumption); (case k1 => assumption); (case k4 => assumption); intro h' R' U'; (try dsimp only at R' U' ⊢))) | (k_here; first | ((rename Heap.NewExc _ _ _ _ => rX); k_dflt (refine' leave_made ?k1 ?kf ?kk ?k0 ?k2 ?k3 ?_; (case kf => exact rfl); (case kk => exact rfl); (case k0 => exact rX); (case k2 => assumption); (case k1 => assumption); (case k3 => k_asm); intro h' R' U'; (try dsimp only at R' U' ⊢))) | ((rename Heap.MadeExc _ _ _ _ _ => rX); k_dflt (refine' leave_made ?k1 ?kf ?kk ?k0 ?k2 ?k3 ?_; (case kf => exact rfl); (case kk => exact rfl); (case k0 => exact rX.newExc); (case k2 => assumption); (case k1 => assumption); (case k3 => k_asm); intro h' R' U'; (try dsimp only at R' U' ⊢))))) | ((with_reducible show wpAny _ _ (eval (Expr.Call (Expr.Name _ _) _ _ _) _) _ _ _); (k_here; refine Call_ ?_)) | walk1 | dsimp only | (leave1; try dsimp only))
  all_goals exact hret _ _ _ _ _ _ _ (raised_sub (by assumption) (fun q hq => by first | exact hq | exact .tail _ hq | exact .tail _ (.tail _ hq) | exact .tail _ (.tail _ (.tail _ hq)) | exact .tail _ (.tail _ (.tail _ (.tail _ hq))) | exact .tail _ (.tail _ (.tail _ (.tail _ (.tail _ hq)))) | exact .tail _ (.tail _ (.tail _ (.tail _ (.tail _ (.tail _ hq))))))) (by assumption) (by assumption) (by assumption) (by assumption)
end Mine
end
section
set_option maxRecDepth 100000
namespace Mine
theorem funFrames_up {base h h' : Heap} (k : ∀ b o, h.get? b = some o → (∀ vs, o.data ≠ .fields vs) → ∃ o', h'.get? b = some o' ∧ ∀ vs, o'.data ≠ .fields vs) : ∀ {l : List Env}, h.FunFrames base l → h'.FunFrames base l
  | [], _ => trivial
  | _ :: _, ⟨hk, ⟨L, o, hf, hn, ho, hd⟩, hr⟩ => by
    obtain ⟨o', ho', hd'⟩ := k L o ho hd
    exact ⟨hk, ⟨L, o', hf, hn, ho', hd'⟩, funFrames_up k hr⟩
/-- an exception of class X in sight: its entry, its mark of flight, its context c -/
structure Lit (base : Heap) (l : List Env) (e : Addr) (X : String) (c fl : Value) (h : Heap) : Prop where
  stays : base.StaysIn h
  fresh : base.get? e = none
  frames : h.FunFrames base l
  there : ∃ oe vs T oT ts a0, h.get? e = some oe ∧ oe.cls = .type X ∧ oe.data = .fields vs ∧ vs[0]? = some a0 ∧ vs[1]? = some (.ref T) ∧ vs[2]? = some c ∧ base.get? T = none ∧ T ≠ e ∧ h.get? T = some oT ∧ oT.data = .fields ts ∧ ts[3]? = some fl
theorem Lit.traced {base h : Heap} {l : List Env} {e : Addr} {X : String} {c fl : Value} (x : Lit base l e X c fl h) : ∃ a0, h.TracedAtW base e (.type X) a0 fl := by
  obtain ⟨oe, vs, T, oT, ts, a0, h1, h2, h3, h4, h5, h6, h7, h8, h9, h10, h11⟩ := x.there
  exact ⟨a0, oe, vs, T, oT, ts, h1, ⟨h2, h4⟩, h3, h5, h7, h8, h9, h10, h11⟩
theorem Lit.flying {base h : Heap} {l : List Env} {e : Addr} {X : String} {c : Value} (x : Lit base l e X c .none h) : ∃ a0, Heap.FlyingW base l e (.type X) a0 h := by
  obtain ⟨a0, t⟩ := x.traced
  exact ⟨a0, x.stays, x.fresh, x.frames, t⟩
theorem Lit.apart {base h : Heap} {l : List Env} {e : Addr} {X : String} {c fl : Value} (x : Lit base l e X c fl h) {b : Addr} {o : Obj} (ho : h.get? b = some o) {ts : Array Value} (hd : o.data = .fields ts) : b ∉ frs l := fun hm => by
  obtain ⟨_, o', ho', hn⟩ := x.frames.mem hm
  rw [ho] at ho'; injection ho' with q; subst q; exact hn ts hd
section
variable {M : Model} {A : Around} {E : Value → Shared → Prop} {s : Shared}
theorem lit_note {base : Heap} {env : Env} {outer : List Env} {L e : Addr} {oe : Obj} {vs : Array Value} {X : String} {a0 c : Value} {Q : Unit → Shared → Prop}
    (hfr : A.frames = some (env :: outer)) (hl : s.heap.FunFrames base (env :: outer)) (hf : env.frame = some L) (hkb : base.StaysIn s.heap) (hen : base.get? e = none)
    (he : s.heap.get? e = some oe) (hcls : oe.cls = .type X) (hd : oe.data = .fields vs) (h0 : vs[0]? = some a0) (h1 : vs[1]? = some .none) (h2 : vs[2]? = some c)
    (k : ∀ h', Lit base (env :: outer) e X c (rawInt L) h' → s.heap.UpToSlots h' → Q () { s with heap := h' }) : wpAny M A (noteFrame (.ref e) env) Q E s := by
  have hsz : 1 < vs.size := (Array.getElem?_eq_some_iff.mp h1).1
  have apart : e ∉ frs (env :: outer) := fun hm => by
    obtain ⟨_, o, ho, hn⟩ := hl.mem hm
    rw [he] at ho; injection ho with q; subst q; exact hn vs hd
  unfold noteFrame
  simp only [hf]
  refine wpAny_bind (wpAny_field he hd h1 ?_)
  rw [if_neg (by decide)]
  refine wpAny_bind (wpAny_frameOf_fun hfr hl hf fun h₁ S₁ => ?_)
  refine wpAny_bind (wpAny_entryPlaceOf fun pl hpl => ?_)
  unfold EntryCells.newEntry newFields
  refine wpAny_bind (wpAny_newObj_type ?_ (hpl.sizeOk5 _ _ _ _ _))
  generalize hob : ({ cls := .type "traceback", dict := none, data := .fields ([Value.none, .ref L, .none, rawInt L, .none] ++ (if pl.isEmpty then List.replicate 6 Value.none else pl)).toArray } : Obj) = ob
  have e1 : h₁.get? e = some oe := (S₁.2.1 e apart).trans he
  have st1 : base.StaysIn h₁ := fun b o q => (S₁.2.1 b fun hm => by rw [(hl.mem hm).1] at q; cases q).trans (hkb b o q)
  have e2 := Heap.get?_push_of_some (h := h₁) ob e1
  refine wpAny_setField e2 hd hsz ?_
  have Te : h₁.objs.size ≠ e := Nat.ne_of_gt (Heap.lt_size e1)
  have d3 := Obj.data_mapFields hd (·.setIfInBounds 1 (Value.ref h₁.objs.size))
  have e3 := Heap.get?_update_self (Obj.mapFields (·.setIfInBounds 1 (Value.ref h₁.objs.size))) e2 (Obj.isFreed_of_fields d3)
  have keep : ∀ b o, b ≠ e → h₁.get? b = some o → ((h₁.push ob).update e (Obj.mapFields (·.setIfInBounds 1 (Value.ref h₁.objs.size)))).get? b = some o := fun b o hb q => by
    rw [Heap.get?_update_other _ _ (Ne.symm hb)]; exact Heap.get?_push_of_some _ q
  have nrec : ∀ b o, s.heap.get? b = some o → (∀ ws, o.data ≠ .fields ws) → b ≠ e := fun b o q hn z => by
    rw [z, he] at q; injection q with q; subst q; exact hn vs hd
  have sl : s.heap.UpToSlots ((h₁.push ob).update e (Obj.mapFields (·.setIfInBounds 1 (Value.ref h₁.objs.size)))) := fun b o q hn => by
    obtain ⟨sl, z⟩ := S₁.2.2 b o q
    exact ⟨sl, keep b _ (nrec b o q hn) z⟩
  have obT : ((h₁.push ob).update e (Obj.mapFields (·.setIfInBounds 1 (Value.ref h₁.objs.size)))).get? h₁.objs.size = some ob := by
    rw [Heap.get?_update_other _ _ (Ne.symm Te)]; exact Heap.get?_push_size h₁ (by subst hob; rfl)
  refine k _ ⟨fun b o q => keep b o (fun z => by rw [z, hen] at q; cases q) (st1 b o q), hen, hl.of_keeps fun b o q hn => ?_, ?_⟩ sl
  · obtain ⟨sl, z⟩ := sl b o q hn
    exact ⟨_, z, rfl⟩
  · refine ⟨_, _, h₁.objs.size, ob, _, a0, e3, (Obj.cls_mapFields _ _).trans hcls, d3, ?_, ?_, ?_, st1.fresh, Te, obT, by subst hob; rfl, ?_⟩
    · rw [Array.getElem?_setIfInBounds_ne (by decide)]; exact h0
    · simp [hsz]
    · rw [Array.getElem?_setIfInBounds_ne (by decide)]; exact h2
    · first | (simp; done) | (rcases hpl with rfl | ⟨_, _, _, _, _, _, _, rfl⟩ <;> simp)
theorem lit_flight {base : Heap} {l : List Env} {e : Addr} {X : String} {c fl : Value} {fr : Option Addr} {Q : Unit → Shared → Prop} (x : Lit base l e X c fl s.heap)
    (k : ∀ h', Lit base l e X c (fr.elim .none fun f => rawInt f) h' → s.heap.UpToSlots h' → Q () { s with heap := h' }) : wpAny M A (setFlight (.ref e) fr) Q E s := by
  obtain ⟨oe, vs, T, oT, ts, a0, h1, h2, h3, h4, h5, h6, h7, h8, h9, h10, h11⟩ := x.there
  have sz : 3 < ts.size := (Array.getElem?_eq_some_iff.mp h11).1
  have other : ∀ b, b ≠ T → (s.heap.update T (Obj.mapFields (·.setIfInBounds 3 (fr.elim Value.none fun f => rawInt f)))).get? b = s.heap.get? b := fun b hb => Heap.get?_update_other _ _ (Ne.symm hb)
  have nrec : ∀ b o, s.heap.get? b = some o → (∀ ws, o.data ≠ .fields ws) → b ≠ T := fun b o q hn z => by
    rw [z, h9] at q; injection q with q; subst q; exact hn ts h10
  unfold setFlight
  refine wpAny_bind (wpAny_field h1 h3 h5 ?_)
  rw [if_pos (show (Value.ref T != Value.none) = true from by simp)]
  refine wpAny_setField h9 h10 sz (k _ ⟨fun b o q => (other b fun z => by rw [z, h7] at q; cases q).trans (x.stays b o q), x.fresh, x.frames.of_keeps fun b o q hn => ⟨o, (other b (nrec b o q hn)).trans q, rfl⟩, ?_⟩
    fun b o q hn => ⟨o.slots, (other b (nrec b o q hn)).trans q⟩)
  exact ⟨oe, vs, T, _, _, a0, (other e (Ne.symm h8)).trans h1, h2, h3, h4, h5, h6, h7, h8, Heap.get?_update_self _ h9 (Obj.isFreed_of_fields (Obj.data_mapFields h10 _)), Obj.data_mapFields h10 _, by simp [sz]⟩
theorem lit_again {base : Heap} {l : List Env} {env : Env} {L e : Addr} {X : String} {c : Value} {Q : Unit → Shared → Prop} (hf : env.frame = some L) (x : Lit base l e X c (rawInt L) s.heap) (h : Q () s) : wpAny M A (noteFrame (.ref e) env) Q E s := by
  obtain ⟨a0, t⟩ := x.traced
  exact wpAny_noteFrame_againW hf t h
theorem lit_traced {base : Heap} {l : List Env} {e : Addr} {X : String} {c fl : Value} {Q : Value → Shared → Prop} (x : Lit base l e X c fl s.heap) (h : ∀ T, Q (.ref T) s) : wpAny M A (field (.ref e) 1) Q E s := by
  obtain ⟨oe, vs, T, oT, ts, a0, h1, h2, h3, h4, h5, h6, h7, h8, h9, h10, h11⟩ := x.there
  exact wpAny_field h1 h3 h5 (h T)
/-- a store into the frame's own table leaves it in sight -/
theorem Lit.sameBut {base h h' : Heap} {l : List Env} {e L : Addr} {X : String} {c fl : Value} {m : Str → Option Value} (x : Lit base l e X c fl h) (hL : L ∈ frs l) (S : Heap.SameBut L h h') (hn : h'.Ns L m) : Lit base l e X c fl h' := by
  obtain ⟨oe, vs, T, oT, ts, a0, h1, h2, h3, h4, h5, h6, h7, h8, h9, h10, h11⟩ := x.there
  have eL : e ≠ L := fun z => x.apart h1 h3 (z ▸ hL)
  have TL : T ≠ L := fun z => x.apart h9 h10 (z ▸ hL)
  refine ⟨fun b o q => (S.2 b fun z => ?_).trans (x.stays b o q), x.fresh, funFrames_up (fun b o q hnf => ?_) x.frames, oe, vs, T, oT, ts, a0, (S.2 e eL).trans h1, h2, h3, h4, h5, h6, h7, h8, (S.2 T TL).trans h9, h10, h11⟩
  · rw [z, (x.frames.mem hL).1] at q; cases q
  · by_cases z : b = L
    · subst z
      obtain ⟨o', es, ep, ho', hd', _⟩ := hn
      exact ⟨o', ho', fun ws q' => by rw [hd'] at q'; cases q'⟩
    · exact ⟨o, (S.2 b z).trans q, hnf⟩
end
end Mine
end
section
set_option maxRecDepth 100000
namespace Mine
section
variable {prog : Program} {w : World} {A₀ : Around} {E : Value → Shared → Prop} {s' : Shared} {base g h : Heap} {outer : List Env} {L a e : Addr} {m : Str → Option Value} {name : Str} {scope : Scope} {cd : Value} {cl : List (Str × Addr)}
  {n x : Str} {b₀ : Stmt} {suite : List Stmt} {pos np : Pos} {rest : List ExceptHandler} {Q : Flow → Shared → Prop} {news : List (Addr × Obj)} {KF : Frag}
  {p : Program} {loose : List Str} {mean : ExcName → Option Value} {mg mb : Str → Option Value} {X T' : String}
/-- the first steps at an exception made in this frame: it is noted, marked as landed -/
theorem lit_landed (K : Below A₀ base outer g) (F : Fr g L h m) (hx : Heap.NewExc h s'.heap e X) (hk : scope.kind = .function) {R : Unit → Shared → Prop}
    (k : ∀ h', Lit (hideAll h (frs (envX name scope L a cd cl :: outer))) (envX name scope L a cd cl :: outer) e X .none .none h' → h.UpToSlots h' → R () { s' with heap := h' }) :
    wpAny (model prog w) (A₀.deeper (envX name scope L a cd cl)) (noteFrame (.ref e) (envX name scope L a cd cl))
      (fun _ s₂ => wpAny (model prog w) (A₀.deeper (envX name scope L a cd cl)) (setFlight (.ref e) none) R E s₂) E s' := by
  have K' := pushX K F (env := envX name scope L a cd cl) rfl hk
  obtain ⟨ob, tp, he, hcls, hd⟩ := hx.there
  refine lit_note (base := hideAll h (frs (envX name scope L a cd cl :: outer))) K'.stack ((funFrames_hide K'.frames fun ev hv b hb => List.mem_filterMap.mpr ⟨ev, hv, hb⟩).of_keeps fun b o q _ => ⟨o, hx.keeps b o q, rfl⟩) rfl
    (fun b o q => hx.keeps b o (of_hideAll _ q)) ?_ he hcls hd rfl rfl rfl fun h₁ x₁ u₁ => ?_
  · cases q : (hideAll h (frs (envX name scope L a cd cl :: outer))).get? e with
    | none => rfl
    | some o => have := of_hideAll _ q; rw [hx.new] at this; cases this
  · exact lit_flight (s := { s' with heap := h₁ }) (fr := none) x₁ fun h₂ x₂ u₂ => k h₂ x₂ (((Heap.UpToSlots.of_keeps hx.keeps).trans u₁).trans u₂)
/-- the ground of a frame whose exception landed -/
theorem lit_ground (K : Below A₀ base outer g) (F : Fr g L h m) (N : News g L h news) (hk : scope.kind = .function) (hen : h.get? e = none) {h' : Heap} {c fl : Value} (x : Lit (hideAll h (frs (envX name scope L a cd cl :: outer))) (envX name scope L a cd cl :: outer) e X c fl h') (u : h.UpToSlots h') :
    ∃ g', KtsTurn (frs outer) g g' ∧ Fr g' L h' m ∧ Below A₀ base outer g' ∧ News g' L h' news ∧ ∃ oe vs, News g' L h' ((e, oe) :: news) ∧ oe.cls = .type X ∧ oe.data = .fields vs ∧ vs[2]? = some c := by
  have K' := pushX K F (env := envX name scope L a cd cl) rfl hk
  obtain ⟨g', T, F', B'⟩ := kts_ground (name := name) (scope := scope) (a := a) (cd := cd) K F (fun b o q nm => hideAll_get _ q nm) x.stays u
  have N' : News g' L h' news := fun q hq => by
    refine ⟨x.stays _ _ (hideAll_get _ (N q hq).1 fun hm => ?_), (N q hq).2.1, T.none_ _ (N q hq).2.2⟩
    rcases frs_cons (L := L) rfl hm with z | z
    · exact (N q hq).2.1 z
    · obtain ⟨_, o, ho, _⟩ := K.frames.mem z
      rw [(N q hq).2.2] at ho; cases ho
  obtain ⟨oe, vs, T1, oT, ts, a0, h1, h2, h3, h4, h5, h6, h7, h8, h9, h10, h11⟩ := x.there
  refine ⟨g', T, F', B', N', oe, vs, fun q hq => ?_, h2, h3, h6⟩
  rcases List.mem_cons.mp hq with rfl | hq
  · refine ⟨h1, fun z => ?_, T.none_ _ (kts_none F.keep hen)⟩
    obtain ⟨o, es, ep, ho, _⟩ := F.ns
    rw [← z, hen] at ho; cases ho
  · exact N' q hq
/-- `except T as n:` at an exception made in this frame -/
theorem hit_as (K : Below A₀ base outer g) (F : Fr g L h m) (hx : Heap.NewExc h s'.heap e X) (N : News g L h news) (hk : scope.kind = .function) (XB : KF.In base) (TB : Top p loose mean mg mb base)
    (ex : nsIn KF mainGlobals x = some none) (hv : bootBuiltins x = some (.type T')) (hn' : x ≠ "__name__")
    (hexc : isSubtype (.type T') (.type "BaseException") = pure true) (hnt : isSubtype (.type ((Manifest.find? T').elim "type" fun y => y.metatype)) (.type "tuple") = pure false) (hsub : isSubtype (.type X) (.type T') = pure true)
    (hlo : (envX name scope L a cd cl).kindOf n = some .local) (hxg : (envX name scope L a cd cl).kindOf x = some .globalImplicit) (hdb : (x == ("__debug__" : Str)) = false)
    (k : ∀ h' g' tk oe vs, KtsTurn (frs outer) g g' → Fr g' L h' (fun y => if y = n then some (.ref e) else m y) → News g' L h' ((e, oe) :: news) → oe.cls = .type X → oe.data = .fields vs → vs[2]? = some .none → Below A₀ base outer g' → KF.In g' → Top p loose mean mg mb g' →
      wpAny (model prog w) ((A₀.deeper (envX name scope L a cd cl)).mark (some (.ref e))) (execs (b₀ :: suite) (envX name scope L a cd cl))
        (fun f s₄ => wpAny (model prog w) (A₀.deeper (envX name scope L a cd cl)) (do bindName (envX name scope L a cd cl) n .none; unbindBehindTheSuite (envX name scope L a cd cl) n pos) (fun _ s₅ => Q f s₅) E s₄)
        (AsSuiteRaised (model prog w) ((A₀.deeper (envX name scope L a cd cl)).mark (some (.ref e))) (envX name scope L a cd cl) n pos (notedBy (model prog w) ((A₀.deeper (envX name scope L a cd cl)).mark (some (.ref e))) (envX name scope L a cd cl) (cameBackBy (model prog w) (A₀.deeper (envX name scope L a cd cl)) (envX name scope L a cd cl) E)))
        { s' with heap := h', toks := tk }) :
    wpAny (model prog w) (A₀.deeper (envX name scope L a cd cl)) (noteFrame (.ref e) (envX name scope L a cd cl))
      (fun _ s₂ => wpAny (model prog w) (A₀.deeper (envX name scope L a cd cl)) (setFlight (.ref e) none) (fun _ s₃ =>
        wpAny (model prog w) (A₀.deeper (envX name scope L a cd cl)) (handleBy (.ref e) (envX name scope L a cd cl) (.ExceptHandler (some (.Name x np)) (some n) (b₀ :: suite) pos :: rest)) Q E s₃) E s₂) E s' := by
  refine lit_landed K F hx hk fun h₂ x₂ u₂ => ?_
  obtain ⟨g₅, T₅, F₅, K₅, _⟩ := lit_ground K F N hk hx.new x₂ u₂
  obtain ⟨oe, vs, T1, oT, ts, a0, h1, h2, _⟩ := id x₂.there
  refine wpAny_handleBy_builtin_as (X := X) (T := T') (b := true) hexc hnt hsub (nameX_B F₅ (XB.keeps K₅.stays) (topRead_of (TB.keeps K₅.stays)) ex hv hn' ⟨rfl, ⟨oe, h1, h2⟩, ?_⟩ hk hxg hdb)
  rw [if_pos rfl]
  refine lit_flight (s := { s' with heap := h₂ }) (fr := none) x₂ fun h₃ x₃ u₃ => ?_
  obtain ⟨g₆, T₆, F₆, K₆, _, oe₆, vs₆, N₆, c₆, d₆, z₆⟩ := lit_ground K F N hk hx.new x₃ (u₂.trans u₃)
  exact storeX_L F₆ N₆ (fun h₇ F₇ N₇ => k h₇ g₆ _ oe₆ vs₆ T₆ F₇ N₇ c₆ d₆ z₆ K₆ (XB.keeps K₆.stays) (TB.keeps K₆.stays)) hk hlo
/-- `except T:` at an exception made in this frame -/
theorem hit_plain (K : Below A₀ base outer g) (F : Fr g L h m) (hx : Heap.NewExc h s'.heap e X) (N : News g L h news) (hk : scope.kind = .function) (XB : KF.In base) (TB : Top p loose mean mg mb base)
    (ex : nsIn KF mainGlobals x = some none) (hv : bootBuiltins x = some (.type T')) (hn' : x ≠ "__name__")
    (hexc : isSubtype (.type T') (.type "BaseException") = pure true) (hnt : isSubtype (.type ((Manifest.find? T').elim "type" fun y => y.metatype)) (.type "tuple") = pure false) (hsub : isSubtype (.type X) (.type T') = pure true)
    (hxg : (envX name scope L a cd cl).kindOf x = some .globalImplicit) (hdb : (x == ("__debug__" : Str)) = false)
    (k : ∀ h' g' oe vs, KtsTurn (frs outer) g g' → Fr g' L h' m → News g' L h' ((e, oe) :: news) → oe.cls = .type X → oe.data = .fields vs → vs[2]? = some .none → Below A₀ base outer g' → KF.In g' → Top p loose mean mg mb g' →
      wpAny (model prog w) ((A₀.deeper (envX name scope L a cd cl)).mark (some (.ref e))) (execs (b₀ :: suite) (envX name scope L a cd cl)) Q
        (notedBy (model prog w) ((A₀.deeper (envX name scope L a cd cl)).mark (some (.ref e))) (envX name scope L a cd cl) (cameBackBy (model prog w) (A₀.deeper (envX name scope L a cd cl)) (envX name scope L a cd cl) E))
        { s' with heap := h' }) :
    wpAny (model prog w) (A₀.deeper (envX name scope L a cd cl)) (noteFrame (.ref e) (envX name scope L a cd cl))
      (fun _ s₂ => wpAny (model prog w) (A₀.deeper (envX name scope L a cd cl)) (setFlight (.ref e) none) (fun _ s₃ =>
        wpAny (model prog w) (A₀.deeper (envX name scope L a cd cl)) (handleBy (.ref e) (envX name scope L a cd cl) (.ExceptHandler (some (.Name x np)) none (b₀ :: suite) pos :: rest)) Q E s₃) E s₂) E s' := by
  refine lit_landed K F hx hk fun h₂ x₂ u₂ => ?_
  obtain ⟨g₅, T₅, F₅, K₅, _⟩ := lit_ground K F N hk hx.new x₂ u₂
  obtain ⟨oe, vs, T1, oT, ts, a0, h1, h2, _⟩ := id x₂.there
  refine wpAny_handleBy_builtin (X := X) (T := T') (b := true) hexc hnt hsub (nameX_B F₅ (XB.keeps K₅.stays) (topRead_of (TB.keeps K₅.stays)) ex hv hn' ⟨rfl, ⟨oe, h1, h2⟩, ?_⟩ hk hxg hdb)
  rw [if_pos rfl]
  refine lit_flight (s := { s' with heap := h₂ }) (fr := none) x₂ fun h₃ x₃ u₃ => ?_
  obtain ⟨g₆, T₆, F₆, K₆, _, oe₆, vs₆, N₆, c₆, d₆, z₆⟩ := lit_ground K F N hk hx.new x₃ (u₂.trans u₃)
  exact k h₃ g₆ oe₆ vs₆ T₆ F₆ N₆ c₆ d₆ z₆ K₆ (XB.keeps K₆.stays) (TB.keeps K₆.stays)
end
/-- an exception lately made, its context c -/
structure Made (h h' : Heap) (e : Addr) (X : String) (c : Value) : Prop where
  keeps : ∀ b o, h.get? b = some o → h'.get? b = some o
  new : h.get? e = none
  there : ∃ oe vs a0, h'.get? e = some oe ∧ oe.cls = .type X ∧ oe.data = .fields vs ∧ vs[0]? = some a0 ∧ vs[1]? = some .none ∧ vs[2]? = some c
section
variable {M : Model} {A₀ : Around} {s' : Shared} {base g h : Heap} {outer : List Env} {L a e : Addr} {m : Str → Option Value} {name : Str} {scope : Scope} {cd v₀ c : Value} {cl : List (Str × Addr)} {n : Str} {pos : Pos} {R R' : Value → Shared → Prop} {news : List (Addr × Obj)} {X : String} {d : Option Value}
theorem lit_leave {B : Heap} (hB : B = hideAll h (frs (envX name scope L a cd cl :: outer))) (K : Below A₀ base outer g) (F : Fr g L h m) (N : News g L h news) (hk : scope.kind = .function)
    (x : Lit B (envX name scope L a cd cl :: outer) e X c (rawInt L) s'.heap) (u : g.UpToSlots s'.heap) {Q : Unit → Shared → Prop}
    (k : ∀ h', RaisedSN base g outer e (.type X) news h' → g.UpToSlots h' → Q () { s' with heap := h' }) :
    wpAny M (A₀.deeper (envX name scope L a cd cl)) (leaving (envX name scope L a cd cl) (.ref e)) Q (fun e' s'' => R' e' s'') s' := by
  have K' := pushX K F (env := envX name scope L a cd cl) rfl hk
  have Lg : g.get? L = none := kts_self F
  unfold leaving
  refine wpAny_bind (lit_again rfl x (lit_flight (fr := none) x fun h₁ x₁ u₁ => ?_))
  obtain ⟨a0, fl⟩ := x₁.flying
  have fl' : Heap.FlyingW B outer e (.type X) a0 h₁ := ⟨fl.1, fl.2.1, fl.2.2.1.2.2, fl.2.2.2⟩
  subst hB
  refine k h₁ ⟨_, a0, fun b o q => ?_, fun b o q nm => ?_, fun q hq => ⟨?_, (N q hq).2.2, fresh_of_stays K.stays (N q hq).2.2⟩, fl'⟩ (u.trans u₁)
  · exact hideAll_get _ (K'.stays b o q) fun hm => by rw [(K'.frames.mem hm).1] at q; cases q
  · exact hideAll_get _ (F.keep b o q) fun hm => (frs_cons (L := L) rfl hm).elim (fun z => by rw [z, Lg] at q; cases q) nm
  · refine hideAll_get _ (N q hq).1 fun hm => ?_
    rcases frs_cons (L := L) rfl hm with z | z
    · exact (N q hq).2.1 z
    · obtain ⟨_, o, ho, _⟩ := K.frames.mem z
      rw [(N q hq).2.2] at ho; cases ho
theorem lit_made (K : Below A₀ base outer g) (F : Fr g L h m) (hx : Made h s'.heap e X c) (hk : scope.kind = .function) {E : Value → Shared → Prop} {Q : Unit → Shared → Prop}
    (k : ∀ h', Lit (hideAll h (frs (envX name scope L a cd cl :: outer))) (envX name scope L a cd cl :: outer) e X c (rawInt L) h' → h.UpToSlots h' → Q () { s' with heap := h' }) :
    wpAny M ((A₀.deeper (envX name scope L a cd cl)).mark d) (noteFrame (.ref e) (envX name scope L a cd cl)) Q E s' := by
  have K' := pushX K F (env := envX name scope L a cd cl) rfl hk
  obtain ⟨oe, vs, a0, he, hcls, hd, h0, h1, h2⟩ := hx.there
  refine lit_note (base := hideAll h (frs (envX name scope L a cd cl :: outer))) K'.stack ((funFrames_hide K'.frames fun ev hv b hb => List.mem_filterMap.mpr ⟨ev, hv, hb⟩).of_keeps fun b o q _ => ⟨o, hx.keeps b o q, rfl⟩) rfl
    (fun b o q => hx.keeps b o (of_hideAll _ q)) ?_ he hcls hd h0 h1 h2 fun h₁ x₁ u₁ => k h₁ x₁ ((Heap.UpToSlots.of_keeps hx.keeps).trans u₁)
  cases q : (hideAll h (frs (envX name scope L a cd cl :: outer))).get? e with
  | none => rfl
  | some o => have := of_hideAll _ q; rw [hx.new] at this; cases this
theorem back_on {B : Heap} (x : Lit B (envX name scope L a cd cl :: outer) e X c (rawInt L) s'.heap) {E : Value → Shared → Prop}
    (k : ∀ h', Lit B (envX name scope L a cd cl :: outer) e X c (rawInt L) h' → s'.heap.UpToSlots h' → E (.ref e) { s' with heap := h' }) :
    notedBy M ((A₀.deeper (envX name scope L a cd cl)).mark d) (envX name scope L a cd cl) (cameBackBy M (A₀.deeper (envX name scope L a cd cl)) (envX name scope L a cd cl) E) (.ref e) s' := by
  unfold notedBy
  refine lit_again rfl x ?_
  unfold cameBackBy
  refine wpAny_bind (lit_traced x fun T => ?_)
  rw [if_neg (show ¬ ((Value.ref T == Value.none) = true) from by simp)]
  exact lit_flight (fr := some L) x fun h₁ x₁ u₁ => k h₁ x₁ u₁
/-- the suite of `except T:` throws, the frame is left -/
theorem threw_plain (K : Below A₀ base outer g) (F : Fr g L h m) (hx : Made h s'.heap e X c) (N : News g L h news) (hk : scope.kind = .function)
    (k : ∀ h', RaisedSN base g outer e (.type X) news h' → g.UpToSlots h' → R (.ref e) { s' with heap := h' }) :
    notedBy M ((A₀.deeper (envX name scope L a cd cl)).mark d) (envX name scope L a cd cl) (cameBackBy M (A₀.deeper (envX name scope L a cd cl)) (envX name scope L a cd cl)
      (fun y s₁ => wpAny M (A₀.deeper (envX name scope L a cd cl)) (leaving (envX name scope L a cd cl) y) (fun _ s₂ => R y s₂) (fun y' s₂ => R' y' s₂) s₁)) (.ref e) s' := by
  unfold notedBy
  refine lit_made K F hx hk fun h₁ x₁ u₁ => ?_
  unfold cameBackBy
  refine wpAny_bind (lit_traced (s := { s' with heap := h₁ }) x₁ fun T => ?_)
  rw [if_neg (show ¬ ((Value.ref T == Value.none) = true) from by simp)]
  refine lit_flight (s := { s' with heap := h₁ }) (fr := some L) x₁ fun h₂ x₂ u₂ => ?_
  exact lit_leave (s' := { s' with heap := h₂ }) rfl K F N hk x₂ (((Heap.UpToSlots.of_keeps F.keep).trans u₁).trans u₂) fun h₃ r₃ v₃ => k h₃ r₃ v₃
/-- the suite of `except T as n:` throws, the frame is left -/
theorem threw_as (K : Below A₀ base outer g) (F : Fr g L h m) (hx : Made h s'.heap e X c) (N : News g L h news) (hk : scope.kind = .function) (hn : (envX name scope L a cd cl).kindOf n = some .local)
    (k : ∀ h' tk, RaisedSN base g outer e (.type X) news h' → g.UpToSlots h' → R (.ref e) { s' with heap := h', toks := tk }) :
    AsSuiteRaised M ((A₀.deeper (envX name scope L a cd cl)).mark d) (envX name scope L a cd cl) n pos (notedBy M ((A₀.deeper (envX name scope L a cd cl)).mark d) (envX name scope L a cd cl) (cameBackBy M (A₀.deeper (envX name scope L a cd cl)) (envX name scope L a cd cl)
      (fun y s₁ => wpAny M (A₀.deeper (envX name scope L a cd cl)) (leaving (envX name scope L a cd cl) y) (fun _ s₂ => R y s₂) (fun y' s₂ => R' y' s₂) s₁))) (.ref e) s' := by
  have hLm : L ∈ frs (envX name scope L a cd cl :: outer) := List.mem_cons_self
  have hns : (scope.kind == .class || (scope.kind == .module && L != mainGlobals)) = false := by rw [hk]; rfl
  refine lit_made K F hx hk fun h₁ x₁ u₁ => ?_
  refine wpAny_bind (wpAny_bindName (wpAny_storeName_local (env := envX name scope L a cd cl) hn (s := { s' with heap := h₁ }) (u₁.ns F.ns) (fun h₂ n₂ S₂ => ?_) hns))
  have x₂ := x₁.sameBut hLm S₂ n₂
  refine wpAny_onRaise (wpAny_unbindName_local (env := envX name scope L a cd cl) (v := .none) hn n₂ (if_pos rfl) hns fun h₃ v₃ n₃ S₃ => ?_)
  have x₃ := x₂.sameBut hLm S₃ n₃
  have Lg : g.get? L = none := kts_self F
  have ug : g.UpToSlots h₃ := fun b o q hnf => by
    have bL : b ≠ L := fun z => by rw [z, Lg] at q; cases q
    obtain ⟨sl, z⟩ := u₁ b o (F.keep b o q) hnf
    exact ⟨sl, (S₃.2 b bL).trans ((S₂.2 b bL).trans z)⟩
  dsimp only
  unfold PySem.passOn
  refine wpAny_bind (lit_traced x₃ fun T => ?_)
  rw [if_neg (show ¬ ((Value.ref T == Value.none) = true) from by simp)]
  refine wpAny_bind (lit_flight (fr := some L) x₃ fun h₄ x₄ u₄ => wpAny_throw ?_)
  refine back_on x₄ fun h₅ x₅ u₅ => ?_
  exact lit_leave rfl K F N hk x₅ ((ug.trans u₄).trans u₅) fun h₆ r₆ v₆ => k h₆ _ r₆ v₆
end
end Mine
end
section
set_option maxRecDepth 100000
namespace Mine
theorem entry_unchain : entryFor table "proto.unchain" = some Builtin.«proto.unchain» := entryFor_of_tree (by kernel_rfl)
section
variable {prog : Program} {w : World} {A : Around} {E : Value → Shared → Prop} {s : Shared} {env : Env}
theorem exc_itself {X N I : String} (hc : ExcClass X N I) {a : Addr} {ob : Obj} {vs : Array Value} {msg : String} {Q : Value → Shared → Prop} (ha : s.heap.get? a = some ob) (hcls : ob.cls = .type X) (hd : ob.data = .fields vs) (h : Q (.ref a) s) :
    wpAny (model prog w) A (excFromValue (.ref a) msg) Q E s := by
  have hT : s.TypeIs (.ref a) X := ⟨ob, ha, hcls⟩
  have hnt : ∀ {Q' : Bool → Shared → Prop}, Q' false s → wpAny (model prog w) A (isType (.ref a)) Q' E s := by
    intro Q' hq
    simp only [isType, loadHead]
    refine wpAny_bind (wpAny_loadPart ha ?_)
    rw [hd]; exact wpAny_pure hq
  unfold excFromValue isExcClass
  refine wpAny_bind (wpAny_bind (hnt ?_))
  simp only [Bool.false_eq_true, if_false]
  refine wpAny_pure ?_
  simp only [Bool.false_eq_true, if_false]
  refine wpAny_bind (wpAny_isInstance hT hc.base ?_)
  simp only [if_true]
  exact wpAny_pure h
theorem exc_raised {X N I : String} (hc : ExcClass X N I) {a : Addr} {ob : Obj} {Q : Value → Shared → Prop} (ha : s.heap.get? a = some ob) (hcls : ob.cls = .type X) (h : Q (.ref a) s) :
    wpAny (model prog w) A (raisedInstance (.ref a)) Q E s := by
  have hT : s.TypeIs (.ref a) X := ⟨ob, ha, hcls⟩
  unfold raisedInstance
  refine wpAny_bind (wpAny_typeOf hT (wpAny_bind (m := typeOf (.type X)) (wpAny_pure ?_)))
  rw [if_pos hc.metaType]
  exact wpAny_pure h
theorem exc_isType {a : Addr} {ob : Obj} {vs : Array Value} {Q : Bool → Shared → Prop} (ha : s.heap.get? a = some ob) (hd : ob.data = .fields vs) (h : Q false s) : wpAny (model prog w) A (isType (.ref a)) Q E s := by
  simp only [isType, loadHead]
  refine wpAny_bind (wpAny_loadPart ha ?_)
  rw [hd]; exact wpAny_pure h
theorem unchain_none {e : Addr} {v : Value} {o : Obj} {vs : Array Value} {Q : Value → Shared → Prop} (ho : s.heap.get? e = some o) (hd : o.data = .fields vs) (h2 : vs[2]? = some .none) (h : Q .none s) :
    wpAny (model prog w) A (runValue (.builtin "proto.unchain" ⟨[v, .ref e, .ref e, .bool false], []⟩)) Q E s := by
  refine runValue_entry entry_unchain ?_
  unfold Builtin.«proto.unchain»
  dsimp only
  refine wpAny_bind (wpAny_field ho hd h2 ?_)
  rw [if_pos (by decide)]
  exact wpAny_bind (wpAny_pure (wpAny_pure ⟨_, rfl, h⟩))
/-- a new exception is thrown while another is handled -/
theorem raiseNew_in {α : Type} {e a : Addr} {o oa : Obj} {vs va : Array Value} {Q : α → Shared → Prop} (hh : A.handled = some (.ref e)) (hne : a ≠ e) (ho : s.heap.get? e = some o) (hd : o.data = .fields vs) (h2 : vs[2]? = some .none)
    (hoa : s.heap.get? a = some oa) (hda : oa.data = .fields va) (hsz : 2 < va.size) (k : E (.ref a) { s with heap := s.heap.update a (Obj.mapFields (·.setIfInBounds 2 (.ref e))) }) : wpAny (model prog w) A (raiseNew (.ref a) : Sem α) Q E s := by
  unfold raiseNew
  refine wpAny_bind (wpAny_handled ?_)
  rw [hh]
  dsimp only
  rw [if_pos (show (Value.ref e != Value.ref a) = true from by simp [Ne.symm hne])]
  refine wpAny_bind (wpAny_holding (unchain_none ho hd h2 ?_))
  exact wpAny_bind (m := setField (.ref a) 2 (.ref e)) (wpAny_setField hoa hda hsz (wpAny_throw k))
/-- what is asked of a value that is raised from (or within the handling of) e -/
structure FromOk (M : Model) (A : Around) (env : Env) (E : Value → Shared → Prop) (c : Option Expr) (e : Addr) (v : Value) (s : Shared) : Prop where
  it : ∃ (a : Addr) (oa : Obj) (va : Array Value) (o : Obj) (vs : Array Value) (X N I X1 N1 I1 : String), v = .ref a ∧ a ≠ e ∧ ExcClass X N I ∧ ExcClass X1 N1 I1 ∧ s.heap.get? a = some oa ∧ oa.cls = .type X ∧ oa.data = .fields va ∧ 4 < va.size ∧ va[1]? = some .none ∧
    s.heap.get? e = some o ∧ o.cls = .type X1 ∧ o.data = .fields vs ∧ vs[2]? = some .none ∧
    (∀ c', c = some c' → ∀ Q' : Value → Shared → Prop, Q' (.ref e) s → wpAny M A (eval c' env) Q' E s) ∧
    ∀ h', (∀ b, b ≠ a → h'.get? b = s.heap.get? b) → (∃ oa' va', h'.get? a = some oa' ∧ oa'.cls = .type X ∧ oa'.data = .fields va' ∧ va'[0]? = va[0]? ∧ va'[1]? = some .none ∧ va'[2]? = some (.ref e)) → E (.ref a) { s with heap := h' }
theorem raise_in {e : Addr} {x : Expr} {pos : Pos} {Q : Flow → Shared → Prop} (hh : A.handled = some (.ref e)) (h : wpAny (model prog w) A (eval x env) (Raisable (FromOk (model prog w) A env E none e)) E s) :
    wpAny (model prog w) A (exec (.Raise (some x) none pos) env) Q E s := by
  show wpAny (model prog w) A (do standAt pos; raiseStmt env (some (do let v ← eval x env; standAt pos; pure v)) none) Q E s
  refine wpAny_bind (wpAny_standAt ?_)
  unfold raiseStmt
  dsimp only
  refine wpAny_bind (wpAny_bind (wpAny_mono h (fun v s₁ h₁ => wpAny_bind (wpAny_standAt (wpAny_pure ?_))) fun _ _ x => x))
  obtain ⟨_, _, _, _, _, _, _, rfl, _, _, _, _, ⟨a, oa, va, o, vs, X, N, I, X1, N1, I1, hv, hne, hX, hX1, ha, hac, had, hsz, ha1, ho, hoc, hod, ho2, _, k⟩⟩ := h₁
  injection hv with hv
  subst hv
  refine wpAny_bind (wpAny_pure ?_)
  dsimp only
  refine wpAny_bind (wpAny_holding (exc_itself hX ha hac had ?_))
  refine wpAny_bind (exc_isType ha had ?_)
  simp only [Bool.false_eq_true, if_false]
  refine wpAny_bind (exc_raised hX ha hac ?_)
  unfold setFlight
  refine wpAny_bind (wpAny_bind (wpAny_field ha had ha1 ?_))
  rw [if_neg (by decide)]
  refine wpAny_pure (raiseNew_in hh hne ho hod ho2 ha had (by omega) (k _ (fun b hb => Heap.get?_update_other _ _ (Ne.symm hb)) ?_))
  refine ⟨_, _, Heap.get?_update_self _ ha (Obj.isFreed_of_fields (Obj.data_mapFields had _)), (Obj.cls_mapFields _ _).trans hac, Obj.data_mapFields had _, ?_, ?_, ?_⟩
  · rw [Array.getElem?_setIfInBounds_ne (by decide)]
  · rw [Array.getElem?_setIfInBounds_ne (by decide)]; exact ha1
  · simp [show 2 < va.size by omega]
theorem raise_from {e : Addr} {x c : Expr} {pos : Pos} {Q : Flow → Shared → Prop} (hh : A.handled = some (.ref e)) (h : wpAny (model prog w) A (eval x env) (Raisable (FromOk (model prog w) A env E (some c) e)) E s) :
    wpAny (model prog w) A (exec (.Raise (some x) (some c) pos) env) Q E s := by
  show wpAny (model prog w) A (do standAt pos; raiseStmt env (some (do let v ← eval x env; standAt pos; pure v)) (some (do let v ← eval c env; standAt pos; pure v))) Q E s
  refine wpAny_bind (wpAny_standAt ?_)
  unfold raiseStmt
  dsimp only
  refine wpAny_bind (wpAny_bind (wpAny_mono h (fun v s₁ h₁ => wpAny_bind (wpAny_standAt (wpAny_pure ?_))) fun _ _ x => x))
  obtain ⟨_, _, _, _, _, _, _, rfl, _, _, _, _, ⟨a, oa, va, o, vs, X, N, I, X1, N1, I1, hv, hne, hX, hX1, ha, hac, had, hsz, ha1, ho, hoc, hod, ho2, hc, k⟩⟩ := h₁
  injection hv with hv
  subst hv
  refine wpAny_bind (wpAny_holding (wpAny_bind (hc c rfl _ (wpAny_bind (wpAny_standAt (wpAny_pure ?_))))))
  refine wpAny_bind (wpAny_pure ?_)
  dsimp only
  refine wpAny_bind (wpAny_holding (exc_itself hX ha hac had ?_))
  rw [if_neg (show ¬ ((Value.ref e == Value.none) = true) from by simp)]
  refine wpAny_bind (wpAny_holding (exc_itself hX1 ho hoc hod ?_))
  have u3 := Heap.get?_update_self (Obj.mapFields (·.setIfInBounds 3 (Value.ref e))) ha (Obj.isFreed_of_fields (Obj.data_mapFields had _))
  have d3 := Obj.data_mapFields had (·.setIfInBounds 3 (Value.ref e))
  have c3 : (Obj.mapFields (·.setIfInBounds 3 (Value.ref e)) oa).cls = .type X := (Obj.cls_mapFields _ _).trans hac
  refine wpAny_bind (wpAny_setField ha had (by omega) ?_)
  have u4 := Heap.get?_update_self (Obj.mapFields (·.setIfInBounds 4 (Value.bool true))) u3 (Obj.isFreed_of_fields (Obj.data_mapFields d3 _))
  have d4 := Obj.data_mapFields d3 (·.setIfInBounds 4 (Value.bool true))
  have c4 : (Obj.mapFields (·.setIfInBounds 4 (Value.bool true)) (Obj.mapFields (·.setIfInBounds 3 (Value.ref e)) oa)).cls = .type X := (Obj.cls_mapFields _ _).trans c3
  refine wpAny_bind (wpAny_setField u3 d3 (by simp; omega) ?_)
  have o4 := ((Heap.get?_update_other _ (Obj.mapFields (·.setIfInBounds 4 (Value.bool true))) hne).trans ((Heap.get?_update_other s₁.heap (Obj.mapFields (·.setIfInBounds 3 (Value.ref e))) hne).trans ho))
  refine wpAny_bind (exc_isType u4 d4 ?_)
  simp only [Bool.false_eq_true, if_false]
  refine wpAny_bind (exc_raised hX u4 c4 ?_)
  unfold setFlight
  refine wpAny_bind (wpAny_bind (wpAny_field u4 d4 (x := .none) ?_ ?_))
  · rw [Array.getElem?_setIfInBounds_ne (by decide), Array.getElem?_setIfInBounds_ne (by decide)]; exact ha1
  rw [if_neg (by decide)]
  refine wpAny_pure (raiseNew_in hh hne o4 hod ho2 u4 d4 (by simp; omega) (k _ (fun b hb => ?_) ?_))
  · exact (Heap.get?_update_other _ _ (Ne.symm hb)).trans ((Heap.get?_update_other _ _ (Ne.symm hb)).trans (Heap.get?_update_other _ _ (Ne.symm hb)))
  refine ⟨_, _, Heap.get?_update_self _ u4 (Obj.isFreed_of_fields (Obj.data_mapFields d4 _)), (Obj.cls_mapFields _ _).trans c4, Obj.data_mapFields d4 _, ?_, ?_, ?_⟩
  · rw [Array.getElem?_setIfInBounds_ne (by decide), Array.getElem?_setIfInBounds_ne (by decide), Array.getElem?_setIfInBounds_ne (by decide)]
  · rw [Array.getElem?_setIfInBounds_ne (by decide), Array.getElem?_setIfInBounds_ne (by decide), Array.getElem?_setIfInBounds_ne (by decide)]; exact ha1
  · simp [show 2 < va.size by omega]
/-- a new exception of a plain class, thrown where e is handled -/
theorem from_ok {h g : Heap} {name : Str} {scope : Scope} {L f : Addr} {cd : Value} {cl : List (Str × Addr)} {m : Str → Option Value} {news : List (Addr × Obj)} {a e : Addr} {oe : Obj} {vs : Array Value} {X X1 N I N1 I1 : String} {c : Option Expr}
    (hx : Heap.NewExc h s.heap a X) (F : Fr g L h m) (N0 : News g L h ((e, oe) :: news)) (hX : ExcClass X N I) (hX1 : ExcClass X1 N1 I1) (hcl : oe.cls = .type X1) (hd : oe.data = .fields vs) (h2 : vs[2]? = some .none)
    (hc : ∀ c', c = some c' → ∀ (s' : Shared) (Q' : Value → Shared → Prop), Fr g L s'.heap m → Q' (.ref e) s' → wpAny (model prog w) A (eval c' (envX name scope L f cd cl)) Q' E s')
    (k : ∀ h', Made h h' a X (.ref e) → E (.ref a) { s with heap := h' }) : FromOk (model prog w) A (envX name scope L f cd cl) E c e (.ref a) s := by
  obtain ⟨ob, t, ha, hac, had⟩ := hx.there
  have he := (N0 _ (.head _)).1
  have hae : a ≠ e := fun z => by have := hx.new; rw [z, he] at this; cases this
  have F' : Fr g L s.heap m := ⟨(Heap.UpToSlots.of_keeps hx.keeps).ns F.ns, fun b o q => hx.keeps b o (F.keep b o q), F.above⟩
  refine ⟨a, ob, _, oe, vs, X, N, I, X1, N1, I1, rfl, hae, hX, hX1, ha, hac, had, by simp, rfl, hx.keeps _ _ he, hcl, hd, h2, fun c' q Q' hq => hc c' q s Q' F' hq, fun h' ho ⟨oa', va', z1, z2, z3, z4, z5, z6⟩ => ?_⟩
  refine k h' ⟨fun b o q => (ho b fun z => by rw [z, hx.new] at q; cases q).trans (hx.keeps b o q), hx.new, oa', va', t, z1, z2, z3, z4, z5, z6⟩
end
end Mine
namespace Mine
theorem upto_back {fs : List Addr} {g g' h : Heap} (T : KtsTurn fs g g') (u : g'.UpToSlots h) : g.UpToSlots h := Heap.UpToSlots.trans (fun b o q _ => T.up q) u
theorem raised_back {base g g' h : Heap} {l : List Env} {e : Addr} {cls : Value} {news : List (Addr × Obj)} (T : KtsTurn (frs l) g g') (R : RaisedSN base g' l e cls news h) : RaisedSN base g l e cls news h := by
  obtain ⟨B, a0, h1, h2, h3, h4⟩ := R
  refine ⟨B, a0, h1, fun b o q nm => h2 b o (T.other b o q nm) nm, fun q hq => ⟨(h3 q hq).1, ?_, (h3 q hq).2.2⟩, h4⟩
  cases z : g.get? q.1 with
  | none => rfl
  | some o => obtain ⟨sl, hs⟩ := T.up z; have := (h3 q hq).2.1; rw [hs] at this; cases this
end Mine
namespace Mine
theorem call_exc1 {prog : Program} {w : World} {A : Around} {s : Shared} {E E' : Value → Shared → Prop} {X N I : String} (hc : ExcClass X N I) {v : Value} (h : ∀ h' e, Heap.NewExc s.heap h' e X → E' (.ref e) { s with heap := h' }) :
    wpAny (model prog w) A (call (.type X) [v]) (Raisable E') E s :=
  call_exc (hrest := by show 1 ≤ 2 ^ 24; decide) hc fun h' e hx => by
    obtain ⟨ob, t, he, hcls, hd⟩ := hx.there
    exact ⟨e, ob, _, X, N, I, hc, rfl, he, hcls, hd, rfl, h h' e hx⟩
end Mine
end
section
set_option maxRecDepth 100000
namespace Mine
open Builtin Builtin.Str
/-- a field of a format that names its place by a digit -/
theorem field_man {prog : Program} {w : World} {A : Around} {E : Value → Shared → Prop} {s : Shared} {id : String} {a : Array Value} {byName : PySem.Str → Sem Value} {name : List Nat} {i : Nat} {v : Value} {num : Numbering} {Q : Value × Numbering → Shared → Prop}
    (hs : name.span (fun c => c != 46 && c != 91) = (name, [])) (hk : fieldKey name = .index i) (he : name.isEmpty = false) (hn : num = .unset ∨ num = .manual) (ha : a[i]? = some v)
    (h : Q (v, .manual) s) : wpAny (model prog w) A (fieldObject id (some a) byName name num) Q E s := by
  unfold fieldObject
  rw [hs]
  dsimp only
  rw [hk]
  refine wpAny_bind (wpAny_of_eq (a := some i) rfl ?_)
  rw [he]
  rcases hn with rfl | rfl
  all_goals
    refine wpAny_bind (wpAny_of_eq (a := (some i, .manual)) rfl ?_)
    try dsimp only
    rw [ha]
    refine wpAny_bind (wpAny_of_eq (a := v) rfl ?_)
    try dsimp only
    rw [KPc.range_list]
    exact wpAny_bind (wpAny_pure (wpAny_pure h))
end Mine
end
section
set_option maxRecDepth 100000
namespace Mine

set_option maxHeartbeats 8000000 in
theorem fmt_hc (t u : Tok) (prog : Program) (w : World) (A : Around) (E : Value → Shared → Prop) (s : Shared) (Q : Value → Shared → Prop) (h : ∀ x t' k, Q (.str x t') { s with toks := k }) :
    wpAny (model prog w) A (call (.builtin "str.format") [.str "'{0}' is not a valid Haab' month" t, .str "Nobody" u]) Q E s := by
  refine' KFm.call_k ?kfmF ?kfmg ?kfmm ?_
  case kfmF => kfm_eq
  case kfmg => kfm_args
  case kfmm =>
    k_dflt apply KPc.meets_of
    intro _ _ _ _ _ _ _
    unfold Builtin.«str.format»
    refine wpAny_bind (wpAny_of_eq (a := (_, _, _)) rfl ?_)
    refine wpAny_bind ?_
    unfold Builtin.Str.buildString
    refine wpAny_bind ?_
    rw [KPc.range_list]
    refine KFm.start ?_
    intro _ _
    refine KPc.turn ?_
    kpc_if
    kpc_check
    refine wpAny_bind (field_man (by rfl) (by rfl) (by rfl) (by first | exact Or.inl rfl | exact Or.inr rfl) (by rfl) ?_)
    refine wpAny_bind (wpAny_holding (wpAny_of_eq (a := _) rfl ?_))
    kpc_if
    refine wpAny_bind (wpAny_pure ?_)
    kfm_val
    refine wpAny_bind (wpAny_of_eq (a := some _) rfl ?_)
    refine wpAny_pure ?_
    refine KFm.after_field (by kpc_g) (by kpc_text) (by kpc_obj) (by kfm_len) (by kpc_obj) (by kfm_cat2) (by kfm_rest) ?_
    intro _ _
    refine KPc.turn ?_
    kpc_if
    kpc_check
    kfm_lit
    refine KPc.turn ?_
    kpc_if
    kfm_close
  intro t' k
  exact h _ _ _

set_option maxHeartbeats 8000000 in
theorem fmt_tc (t u : Tok) (prog : Program) (w : World) (A : Around) (E : Value → Shared → Prop) (s : Shared) (Q : Value → Shared → Prop) (h : ∀ x t' k, Q (.str x t') { s with toks := k }) :
    wpAny (model prog w) A (call (.builtin "str.format") [.str "'{0}' is not a valid Tzolk'in day name" t, .str "Nobody" u]) Q E s := by
  refine' KFm.call_k ?kfmF ?kfmg ?kfmm ?_
  case kfmF => kfm_eq
  case kfmg => kfm_args
  case kfmm =>
    k_dflt apply KPc.meets_of
    intro _ _ _ _ _ _ _
    unfold Builtin.«str.format»
    refine wpAny_bind (wpAny_of_eq (a := (_, _, _)) rfl ?_)
    refine wpAny_bind ?_
    unfold Builtin.Str.buildString
    refine wpAny_bind ?_
    rw [KPc.range_list]
    refine KFm.start ?_
    intro _ _
    refine KPc.turn ?_
    kpc_if
    kpc_check
    refine wpAny_bind (field_man (by rfl) (by rfl) (by rfl) (by first | exact Or.inl rfl | exact Or.inr rfl) (by rfl) ?_)
    refine wpAny_bind (wpAny_holding (wpAny_of_eq (a := _) rfl ?_))
    kpc_if
    refine wpAny_bind (wpAny_pure ?_)
    kfm_val
    refine wpAny_bind (wpAny_of_eq (a := some _) rfl ?_)
    refine wpAny_pure ?_
    refine KFm.after_field (by kpc_g) (by kpc_text) (by kpc_obj) (by kfm_len) (by kpc_obj) (by kfm_cat2) (by kfm_rest) ?_
    intro _ _
    refine KPc.turn ?_
    kpc_if
    kpc_check
    kfm_lit
    refine KPc.turn ?_
    kpc_if
    kfm_close
  intro t' k
  exact h _ _ _
end Mine
end
section
namespace Mine
set_option maxRecDepth 100000 in
set_option maxHeartbeats 8000000 in
theorem e_hc_nob (w : World) (mean : ExcName → Option Value) (mg mb : Str → Option Value) (d : Int) (u u2 : Tok) :
    CutE w mean mg mb 4 86 [.int d u, .str "Nobody" u2] (fun _ => 0 ≤ d ∧ d ≤ 19) "ValueError" := by
  unfold CutE
  k_fill
  intro dp un gd cn cs a ccd cl outer A₀ base h₀ L m pre cc s Q E hB hF hK hN hO hC hG hT hk hp hd1 hu1 hI0 hT0 hD hret
  have hBT := And.intro hI0 hT0
  clear hI0 hT0
  refine wpAny_call ?_
  k_dflt cell_enter
  w_top off
  repeat' (first | (k_unfold; (try dsimp only)) | (k_end; wrow_close) | ((with_reducible show wpAny _ _ (call (Value.type _) _) _ _ _); first | (k_here; refine call_exc1 excClass_IndexError ?_; intro h' e' X') | (k_here; refine call_exc1 excClass_ValueError ?_; intro h' e' X')) | ((with_reducible show wpAny _ _ (exec (Stmt.Raise (some _) (some _) _) _) _ _ _); (k_here; refine raise_from rfl ?_)) | ((with_reducible show wpAny _ _ (noteFrame (Value.ref _) _) _ _ _); (k_here; (rename Heap.NewExc _ _ _ _ => rX); (refine' hit_as ?k1 ?k2 rX ?k4 rfl ?k5 ?k6 ?k7 PyProof.Rows.Boot.«ValueError» ?k8 PySem.F.isExc_ValueError PySem.F.notTuple_ValueError ?k9 rfl rfl ?kA ?_); (case k5 => exact (And.left (by assumption))); (case k6 => exact (And.right (by assumption))); (case k1 => assumption); (case k2 => k_asm); (case k4 => k_asm); (case k7 => k_is); (case k8 => decide); (case k9 => (rw [isSubtype_type]; kernel_rfl)); (case kA => decide); clear rX; intro h' g' tk' oe' vs' T' F' N' c' d' z' B' X' P'; (try dsimp only); (try simp only [List.cons_append, List.nil_append] at N'); (try k_lift B'); (try k_fold))) | ((with_reducible show wpAny _ _ (call (Value.builtin _) _) _ _ _); first | (k_here; (with_reducible show wpAny _ _ (call (Value.builtin _) [Value.ref _, Value.str _ _]) _ _ _); k_dflt (refine' index_strs_none ?hh ?l ?x ?hz ?hk ?r1 ?r2 ?hno ?_; (case hh => exact rfl); (case l => ktb_isList); (case x => repeat constructor); (case hz => decide); (case hk => decide); (case r1 => decide +kernel); (case r2 => decide +kernel); (case hno => decide)); intro h' tk' e' X'; (try dsimp only)) | (k_here; (first | refine fmt_hc _ _ _ _ _ _ _ _ ?_ | refine fmt_tc _ _ _ _ _ _ _ _ ?_); intro x' t' tk'; (try dsimp only))) | ((with_reducible show wpAny _ _ (getMethod (Value.ref _) _ _) _ _ _); (k_here; (with_reducible show wpAny _ _ (getMethod (Value.ref _) (PySem.Str.ofString "index") _) _ _ _); k_dflt (refine' meth_list PySem.F.slot_list_index PySem.F.type_list_index ?F ?X ?ho ?_; (case F => k_asm); (case X => k_asm); (case ho => k_is)))) | ((with_reducible show wpAny _ _ (leaving _ (Value.ref _)) _ _ _); first | (k_here; (rename RaisedSN _ _ _ _ _ _ _ => rX); k_dflt (refine' leave_past ?k1 ?kf ?k2 ?k3 ?k4 ?_; (case kf => exact rfl); (case k3 => exact rX); (case k2 => assumption); (case k1 => assumption); (case k4 => assumption); intro h' R' U'; (try dsimp only at R' U' ⊢))) | (k_here; first | ((rename Heap.NewExc _ _ _ _ => rX); k_dflt (refine' leave_made ?k1 ?kf ?kk ?k0 ?k2 ?k3 ?_; (case kf => exact rfl); (case kk => exact rfl); (case k0 => exact rX); (case k2 => assumption); (case k1 => assumption); (case k3 => k_asm); intro h' R' U'; (try dsimp only at R' U' ⊢))) | ((rename Heap.MadeExc _ _ _ _ _ => rX); k_dflt (refine' leave_made ?k1 ?kf ?kk ?k0 ?k2 ?k3 ?_; (case kf => exact rfl); (case kk => exact rfl); (case k0 => exact rX.newExc); (case k2 => assumption); (case k1 => assumption); (case k3 => k_asm); intro h' R' U'; (try dsimp only at R' U' ⊢))))) | ((with_reducible show wpAny _ _ (eval (Expr.Call (Expr.Name _ _) _ _ _) _) _ _ _); (k_here; refine Call_ ?_)) | walk1 | dsimp only | (leave1; try dsimp only))
  all_goals
    refine from_ok (by assumption) (by k_asm) (by assumption) excClass_ValueError excClass_ValueError (by assumption) (by assumption) (by assumption) (fun c1 q s1 Q1 F1 hq => by injection q with q; subst q; exact nameX_L F1 (if_pos rfl) hq) (fun h2 M2 => ?_)
    exact threw_as (by assumption) (by assumption) M2 (by k_asm) rfl rfl (fun h3 tk3 R3 U3 => hret _ _ _ _ _ _ _ (raised_sub (raised_back (by assumption) R3) (fun q hq => by first | exact hq | exact .tail _ hq | exact .tail _ (.tail _ hq) | exact .tail _ (.tail _ (.tail _ hq)) | exact .tail _ (.tail _ (.tail _ (.tail _ hq))) | exact .tail _ (.tail _ (.tail _ (.tail _ (.tail _ hq)))) | exact .tail _ (.tail _ (.tail _ (.tail _ (.tail _ (.tail _ hq))))))) (by assumption) (upto_back (by assumption) U3) (by assumption) (by assumption))

end Mine
end
section
namespace Mine
set_option maxRecDepth 100000 in
set_option maxHeartbeats 8000000 in
theorem e_tc_nob (w : World) (mean : ExcName → Option Value) (mg mb : Str → Option Value) (d : Int) (u u2 : Tok) :
    CutE w mean mg mb 4 93 [.int d u, .str "Nobody" u2] (fun _ => 1 ≤ d ∧ d ≤ 13) "ValueError" := by
  unfold CutE
  k_fill
  intro dp un gd cn cs a ccd cl outer A₀ base h₀ L m pre cc s Q E hB hF hK hN hO hC hG hT hk hp hd1 hu1 hI0 hT0 hD hret
  have hBT := And.intro hI0 hT0
  clear hI0 hT0
  refine wpAny_call ?_
  k_dflt (refine' code_defC ?k1 ?k2 ?k3 ?k4 ?k5 ?kA ?kF ?kK ?k6 ?k7 ?k8 ?k9 ?kB ?kD ?_ ?c2 ?c3 ?c4; (case kA => exact rfl); (case kF => exact rfl); (case kK => assumption); (case k1 => k_asm); (case k2 => k_asm); (case k3 => k_asm); (case k4 => k_asm); (case k5 => k_asm); (case k6 => k_is); (case k7 => k_is); (case k8 => ktr_room); (case k9 => exact BindsTo.of_eq rfl); (case kB => exact rfl); (case kD => decide +kernel); (case c2 => exact rfl); (case c3 => exact rfl); (case c4 => exact rfl); k_whole; intro g' L' h' tk' cells' FG' F' N' Y' B' X' T' l1; (try k_lt l1); k_cells Y'; (try simp only [List.cons_append, List.nil_append] at N'); (try dsimp only); (try k_lift B'); (try k_fold))
  have hBL : BelowL pre cc L' := l1
  w_top off
  repeat' (first | (k_unfold; (try dsimp only)) | (k_end; wrow_close) | ((with_reducible show wpAny _ _ (call (Value.type _) _) _ _ _); first | (k_here; (with_reducible show wpAny _ _ (call (Value.type "set") [Value.ref _]) _ _ _); k_dflt (refine' set_gen_K ?F ?N ?X ?hK ?hL ?hb ?_; (case F => k_asm); (case N => k_asm); (case X => assumption); (case hK => assumption); (case hL => assumption); (case hb => decide)); (intro D9 o9 h9 gs9 tk9 F9 N9 l9 so9 hG9); (have G9 := hG9 (by assumption)); clear hG9; (try k_lt l9); (try dsimp only); (try k_fold); (try k_sweep)) | (k_here; refine call_exc1 excClass_IndexError ?_; intro h' e' X') | (k_here; refine call_exc1 excClass_ValueError ?_; intro h' e' X')) | ((with_reducible show wpAny _ _ (eval (Expr.GeneratorExp _ _ _ _) _) _ _ _); (k_here; k_dflt (refine' gen_K code88 in88 (n := 20) ?gF ?gX ?gN ?gS ?gpo ?gC ?gT ?ghh ?ghco ?ghclos ?ghcell ?gh0 ?ghx ?ghy ?ghkind ?ghroom ?ghdx ?ghdy ?ghny ?ghs ?ghsmall ?ghn ?ghit ?ghm ?ghv ?ghPs ?_; (case gF => k_asm); (case gX => k_asm); (case gN => k_asm); (case gC => assumption); (case gS => tb_rel); (case gpo => tb_start); (case gT => k_asm); (case ghh => first | rfl | assumption); (case ghco => rfl); (case ghclos => with_unfolding_all rfl); (case ghcell => decide); (case gh0 => rfl); (case ghx => rfl); (case ghy => rfl); (case ghkind => rfl); (case ghroom => ktr_room); (case ghdx => decide); (case ghdy => decide); (case ghny => decide); (case ghs => intro _; with_unfolding_all rfl); (case ghit => (refine iter_range (by decide) (fun Q' hq => nameX_B (K := theK.heap_1 _) (by k_asm) (by k_asm) (topRead_of (by assumption)) (by k_is) (by boot_fast) (by decide) hq) (fun _ => Or.inl (PyProof.noPylong_of_log2 (by decide +kernel))))); (case ghsmall => decide); (case ghn => first | rfl | decide); (case ghm => k_mem); (case ghv => k_asm); (case ghPs => decide)); (intro g9 h9 gs9 tk9 cc9 hc9 F9 N9 hK9 hL9 X9 hG9); (have G9 := hG9 (by assumption)); clear hG9; (try simp only [List.cons_append, List.nil_append] at N9 hK9); (try dsimp only); (try k_fold); (try k_sweep))) | ((with_reducible show wpAny _ _ (exec (Stmt.Raise (some _) (some _) _) _) _ _ _); (k_here; refine raise_from rfl ?_)) | ((with_reducible show wpAny _ _ (noteFrame (Value.ref _) _) _ _ _); (k_here; (rename Heap.NewExc _ _ _ _ => rX); (refine' hit_as ?k1 ?k2 rX ?k4 rfl ?k5 ?k6 ?k7 PyProof.Rows.Boot.«ValueError» ?k8 PySem.F.isExc_ValueError PySem.F.notTuple_ValueError ?k9 rfl rfl ?kA ?_); (case k5 => exact (And.left (by assumption))); (case k6 => exact (And.right (by assumption))); (case k1 => assumption); (case k2 => k_asm); (case k4 => k_asm); (case k7 => k_is); (case k8 => decide); (case k9 => (rw [isSubtype_type]; kernel_rfl)); (case kA => decide); clear rX; intro h' g' tk' oe' vs' T' F' N' c' d' z' B' X' P'; (try dsimp only); (try simp only [List.cons_append, List.nil_append] at N'); (try k_lift B'); (try k_fold))) | ((with_reducible show wpAny _ _ (call (Value.builtin _) _) _ _ _); first | (k_here; (with_reducible show wpAny _ _ (call (Value.builtin _) [Value.ref _, Value.str _ _]) _ _ _); k_dflt (refine' index_strs_none ?hh ?l ?x ?hz ?hk ?r1 ?r2 ?hno ?_; (case hh => exact rfl); (case l => ktb_isList); (case x => repeat constructor); (case hz => decide); (case hk => decide); (case r1 => decide +kernel); (case r2 => decide +kernel); (case hno => decide)); intro h' tk' e' X'; (try dsimp only)) | (k_here; (first | refine fmt_hc _ _ _ _ _ _ _ _ ?_ | refine fmt_tc _ _ _ _ _ _ _ _ ?_); intro x' t' tk'; (try dsimp only))) | ((with_reducible show wpAny _ _ (getMethod (Value.ref _) _ _) _ _ _); (k_here; (with_reducible show wpAny _ _ (getMethod (Value.ref _) (PySem.Str.ofString "index") _) _ _ _); k_dflt (refine' meth_list PySem.F.slot_list_index PySem.F.type_list_index ?F ?X ?ho ?_; (case F => k_asm); (case X => k_asm); (case ho => k_is)))) | ((with_reducible show wpAny _ _ (leaving _ (Value.ref _)) _ _ _); first | (k_here; (rename RaisedSN _ _ _ _ _ _ _ => rX); k_dflt (refine' leave_past ?k1 ?kf ?k2 ?k3 ?k4 ?_; (case kf => exact rfl); (case k3 => exact rX); (case k2 => assumption); (case k1 => assumption); (case k4 => assumption); intro h' R' U'; (try dsimp only at R' U' ⊢))) | (k_here; first | ((rename Heap.NewExc _ _ _ _ => rX); k_dflt (refine' leave_made ?k1 ?kf ?kk ?k0 ?k2 ?k3 ?_; (case kf => exact rfl); (case kk => exact rfl); (case k0 => exact rX); (case k2 => assumption); (case k1 => assumption); (case k3 => k_asm); intro h' R' U'; (try dsimp only at R' U' ⊢))) | ((rename Heap.MadeExc _ _ _ _ _ => rX); k_dflt (refine' leave_made ?k1 ?kf ?kk ?k0 ?k2 ?k3 ?_; (case kf => exact rfl); (case kk => exact rfl); (case k0 => exact rX.newExc); (case k2 => assumption); (case k1 => assumption); (case k3 => k_asm); intro h' R' U'; (try dsimp only at R' U' ⊢))))) | ((with_reducible show wpAny _ _ (exec (Stmt.Try _ _ _ _ _) _) _ _ _); (k_here; (with_reducible show wpAny _ _ (exec (PySem.Stmt.Try _ (_ :: _) _ [] _) (envOfC _ _ _ _ _)) _ _ _); refine wpAny_Try_except ?_)) | ((with_reducible show wpAny _ _ (eval (Expr.Call (Expr.Name _ _) _ _ _) _) _ _ _); (k_here; refine Call_ ?_)) | walk1 | dsimp only | (leave1; try dsimp only))
  all_goals
    refine from_ok (by assumption) (by k_asm) (by assumption) excClass_ValueError excClass_ValueError (by assumption) (by assumption) (by assumption) (fun c1 q s1 Q1 F1 hq => by injection q with q; subst q; exact nameX_L F1 (if_pos rfl) hq) (fun h2 M2 => ?_)
    exact threw_as (by assumption) (by assumption) M2 (by k_asm) rfl rfl (fun h3 tk3 R3 U3 => hret _ _ _ _ _ _ _ (raised_sub (raised_back (by assumption) R3) (fun q hq => by first | exact hq | exact .tail _ hq | exact .tail _ (.tail _ hq) | exact .tail _ (.tail _ (.tail _ hq)) | exact .tail _ (.tail _ (.tail _ (.tail _ hq))) | exact .tail _ (.tail _ (.tail _ (.tail _ (.tail _ hq)))) | exact .tail _ (.tail _ (.tail _ (.tail _ (.tail _ (.tail _ hq))))))) (by assumption) (upto_back (by assumption) U3) (by assumption) (by assumption))

end Mine
end
section
namespace Mine
set_option maxRecDepth 100000 in
set_option maxHeartbeats 8000000 in
theorem e_nt_day (w : World) (mean : ExcName → Option Value) (mg mb : Str → Option Value) (d jd : Int) (nm : Str) (D : Addr) (t u v : Tok) (cn : Nat) :
    CutE w mean mg mb 6 107 [.ref D, .int jd u] (fun pre => 584283 ≤ jd ∧ (d < 1 ∨ 13 < d) ∧ (D, tupO [.int d t, .str nm v] cn) ∈ pre) "IndexError" := by
  unfold CutE
  k_fill
  intro dp un gd cn cs a ccd cl outer A₀ base h₀ L m pre cc s Q E hB hF hK hN hO hC hG hT hk hp hd1 hu1 hI0 hT0 hD hret
  have hBT := And.intro hI0 hT0
  clear hI0 hT0
  refine wpAny_call ?_
  k_dflt cell_enter
  obtain ⟨hp1, hd0, hmem⟩ := hp
  have hD1 := kd_push (env := envX cn cs L a ccd cl) hD (by assumption) rfl
  obtain ⟨b1, b2, b3, b4, b5, b6, b7, b8⟩ := hm_b (jd - 584283)
  w_top off
  repeat' (first | (k_unfold; (try dsimp only)) | (k_end; wrow_close) | ((with_reducible show wpAny _ _ (call (Value.ref _) _) _ _ _); first | (k_here; (with_reducible show wpAny _ _ (call (Value.ref 93) [Value.int _ _, Value.str _ _]) _ _ _); k_dflt (refine' CutE.use (e_tc_day _ _ _ _ _ _ _) ?k1 ?k2 ?k3 ?k4 ?k6 ?k9 ?k7 ?k8 ?k5 ?kK ?kp ?kd ?ku ?kI ?kT ?kD ?_; (case k1 => k_asm); (case k2 => k_asm); (case k3 => k_asm); (case k4 => k_asm); (case k5 => k_asm); (case k7 => assumption); (case k6 => tb_rel); (case k9 => tb_start); (case k8 => assumption); (case kK => first | exact rfl | assumption); (case kp => omega); (case kd => ktr_room); (case ku => ktr_units); (case kI => exact And.left (by assumption)); (case kT => exact And.right (by assumption)); (case kD => assumption)); (intro e9 cc9 G9 h9 g9 d9 tk9 R9 F9 U9 hc9 hg9); (try simp only [List.cons_append, List.nil_append] at R9); (try dsimp only); (try k_fold)) | (k_here; (with_reducible show wpAny _ _ (call (Value.ref 93) [Value.int _ _, Value.str _ _]) _ _ _); k_dflt (refine' Cut.use (c_tc _ _ _ _ _ _ _ _) ?k1 ?k2 ?k3 ?k4 ?k6 ?k9 ?k7 ?k8 ?k5 ?kK ?kp ?kd ?ku ?_; (case k1 => k_asm); (case k2 => k_asm); (case k3 => k_asm); (case k4 => k_asm); (case k5 => k_asm); (case k7 => assumption); (case k6 => tb_rel); (case k9 => tb_start); (case k8 => assumption); (case kK => first | exact rfl | assumption); (case kp => (refine ⟨?_, ?_, ?_, ?_⟩ <;> omega)); (case kd => ktr_room); (case ku => ktr_units)); (intro v9 tl9 cc9 h9 g9 d9 tk9 r9 l9 hc9 F9 N9 G9); (obtain ⟨e9, t9, e8⟩ := r9); subst e9; subst e8; (simp only [List.cons_append, List.nil_append] at N9); clear l9; (try dsimp only); (try k_fold); (try k_sweep)) | (k_here; (with_reducible show wpAny _ _ (call (Value.ref 58) [Value.int _ _]) _ _ _); k_dflt (refine' Cut.use (c_to_tzolkin _ _ _ _ _ _) ?k1 ?k2 ?k3 ?k4 ?k6 ?k9 ?k7 ?k8 ?k5 ?kK ?kp ?kd ?ku ?_; (case k1 => k_asm); (case k2 => k_asm); (case k3 => k_asm); (case k4 => k_asm); (case k5 => k_asm); (case k7 => assumption); (case k6 => tb_rel); (case k9 => tb_start); (case k8 => assumption); (case kK => first | exact rfl | assumption); (case kp => (first | trivial | assumption | omega | l_fact)); (case kd => ktr_room); (case ku => ktr_units)); (intro v9 tl9 cc9 h9 g9 d9 tk9 r9 l9 hc9 F9 N9 G9); (obtain ⟨D9, t90, t91, c9, e9, e8⟩ := r9); subst e9; subst e8; (simp only [List.cons_append, List.nil_append] at N9); (replace l9 := fun q hq => l9 q hq _ (List.Mem.head _)); (try dsimp only at l9); (try k_lt l9); (try dsimp only); (try k_fold); (try k_sweep))) | ((with_reducible show wpAny _ _ (leaving _ (Value.ref _)) _ _ _); first | (k_here; (rename RaisedSN _ _ _ _ _ _ _ => rX); k_dflt (refine' leave_past ?k1 ?kf ?k2 ?k3 ?k4 ?_; (case kf => exact rfl); (case k3 => exact rX); (case k2 => assumption); (case k1 => assumption); (case k4 => assumption); intro h' R' U'; (try dsimp only at R' U' ⊢))) | (k_here; first | ((rename Heap.NewExc _ _ _ _ => rX); k_dflt (refine' leave_made ?k1 ?kf ?kk ?k0 ?k2 ?k3 ?_; (case kf => exact rfl); (case kk => exact rfl); (case k0 => exact rX); (case k2 => assumption); (case k1 => assumption); (case k3 => k_asm); intro h' R' U'; (try dsimp only at R' U' ⊢))) | ((rename Heap.MadeExc _ _ _ _ _ => rX); k_dflt (refine' leave_made ?k1 ?kf ?kk ?k0 ?k2 ?k3 ?_; (case kf => exact rfl); (case kk => exact rfl); (case k0 => exact rX.newExc); (case k2 => assumption); (case k1 => assumption); (case k3 => k_asm); intro h' R' U'; (try dsimp only at R' U' ⊢))))) | ((with_reducible show wpAny _ _ (eval (Expr.Call (Expr.Name _ _) _ _ _) _) _ _ _); (k_here; refine Call_ ?_)) | walk1 | dsimp only | (leave1; try dsimp only))
  all_goals exact hret _ _ _ _ _ _ _ (raised_sub (by assumption) (fun q hq => by first | exact hq | exact .tail _ hq | exact .tail _ (.tail _ hq) | exact .tail _ (.tail _ (.tail _ hq)) | exact .tail _ (.tail _ (.tail _ (.tail _ hq))) | exact .tail _ (.tail _ (.tail _ (.tail _ (.tail _ hq)))) | exact .tail _ (.tail _ (.tail _ (.tail _ (.tail _ (.tail _ hq))))))) (by assumption) (by assumption) (by assumption) (by assumption)
end Mine
end
section
namespace Mine
set_option maxRecDepth 100000 in
set_option maxHeartbeats 8000000 in
theorem e_nt_nob (w : World) (mean : ExcName → Option Value) (mg mb : Str → Option Value) (d jd : Int) (D : Addr) (t u v : Tok) (cn : Nat) :
    CutE w mean mg mb 6 107 [.ref D, .int jd u] (fun pre => 584283 ≤ jd ∧ 1 ≤ d ∧ d ≤ 13 ∧ (D, tupO [.int d t, .str "Nobody" v] cn) ∈ pre) "ValueError" := by
  unfold CutE
  k_fill
  intro dp un gd cn cs a ccd cl outer A₀ base h₀ L m pre cc s Q E hB hF hK hN hO hC hG hT hk hp hd1 hu1 hI0 hT0 hD hret
  have hBT := And.intro hI0 hT0
  clear hI0 hT0
  refine wpAny_call ?_
  k_dflt cell_enter
  obtain ⟨hp1, hd0, hd1, hmem⟩ := hp
  have hD1 := kd_push (env := envX cn cs L a ccd cl) hD (by assumption) rfl
  obtain ⟨b1, b2, b3, b4, b5, b6, b7, b8⟩ := hm_b (jd - 584283)
  w_top off
  repeat' (first | (k_unfold; (try dsimp only)) | (k_end; wrow_close) | ((with_reducible show wpAny _ _ (call (Value.ref _) _) _ _ _); first | (k_here; (with_reducible show wpAny _ _ (call (Value.ref 93) [Value.int _ _, Value.str (Str.ofString "Nobody") _]) _ _ _); k_dflt (refine' CutE.use (e_tc_nob _ _ _ _ _ _ _) ?k1 ?k2 ?k3 ?k4 ?k6 ?k9 ?k7 ?k8 ?k5 ?kK ?kp ?kd ?ku ?kI ?kT ?kD ?_; (case k1 => k_asm); (case k2 => k_asm); (case k3 => k_asm); (case k4 => k_asm); (case k5 => k_asm); (case k7 => assumption); (case k6 => tb_rel); (case k9 => tb_start); (case k8 => assumption); (case kK => first | exact rfl | assumption); (case kp => (constructor <;> omega)); (case kd => ktr_room); (case ku => ktr_units); (case kI => exact And.left (by assumption)); (case kT => exact And.right (by assumption)); (case kD => assumption)); (intro e9 cc9 G9 h9 g9 d9 tk9 R9 F9 U9 hc9 hg9); (try simp only [List.cons_append, List.nil_append] at R9); (try dsimp only); (try k_fold)) | (k_here; (with_reducible show wpAny _ _ (call (Value.ref 93) [Value.int _ _, Value.str _ _]) _ _ _); k_dflt (refine' Cut.use (c_tc _ _ _ _ _ _ _ _) ?k1 ?k2 ?k3 ?k4 ?k6 ?k9 ?k7 ?k8 ?k5 ?kK ?kp ?kd ?ku ?_; (case k1 => k_asm); (case k2 => k_asm); (case k3 => k_asm); (case k4 => k_asm); (case k5 => k_asm); (case k7 => assumption); (case k6 => tb_rel); (case k9 => tb_start); (case k8 => assumption); (case kK => first | exact rfl | assumption); (case kp => (refine ⟨?_, ?_, ?_, ?_⟩ <;> omega)); (case kd => ktr_room); (case ku => ktr_units)); (intro v9 tl9 cc9 h9 g9 d9 tk9 r9 l9 hc9 F9 N9 G9); (obtain ⟨e9, t9, e8⟩ := r9); subst e9; subst e8; (simp only [List.cons_append, List.nil_append] at N9); clear l9; (try dsimp only); (try k_fold); (try k_sweep)) | (k_here; (with_reducible show wpAny _ _ (call (Value.ref 58) [Value.int _ _]) _ _ _); k_dflt (refine' Cut.use (c_to_tzolkin _ _ _ _ _ _) ?k1 ?k2 ?k3 ?k4 ?k6 ?k9 ?k7 ?k8 ?k5 ?kK ?kp ?kd ?ku ?_; (case k1 => k_asm); (case k2 => k_asm); (case k3 => k_asm); (case k4 => k_asm); (case k5 => k_asm); (case k7 => assumption); (case k6 => tb_rel); (case k9 => tb_start); (case k8 => assumption); (case kK => first | exact rfl | assumption); (case kp => (first | trivial | assumption | omega | l_fact)); (case kd => ktr_room); (case ku => ktr_units)); (intro v9 tl9 cc9 h9 g9 d9 tk9 r9 l9 hc9 F9 N9 G9); (obtain ⟨D9, t90, t91, c9, e9, e8⟩ := r9); subst e9; subst e8; (simp only [List.cons_append, List.nil_append] at N9); (replace l9 := fun q hq => l9 q hq _ (List.Mem.head _)); (try dsimp only at l9); (try k_lt l9); (try dsimp only); (try k_fold); (try k_sweep))) | ((with_reducible show wpAny _ _ (leaving _ (Value.ref _)) _ _ _); first | (k_here; (rename RaisedSN _ _ _ _ _ _ _ => rX); k_dflt (refine' leave_past ?k1 ?kf ?k2 ?k3 ?k4 ?_; (case kf => exact rfl); (case k3 => exact rX); (case k2 => assumption); (case k1 => assumption); (case k4 => assumption); intro h' R' U'; (try dsimp only at R' U' ⊢))) | (k_here; first | ((rename Heap.NewExc _ _ _ _ => rX); k_dflt (refine' leave_made ?k1 ?kf ?kk ?k0 ?k2 ?k3 ?_; (case kf => exact rfl); (case kk => exact rfl); (case k0 => exact rX); (case k2 => assumption); (case k1 => assumption); (case k3 => k_asm); intro h' R' U'; (try dsimp only at R' U' ⊢))) | ((rename Heap.MadeExc _ _ _ _ _ => rX); k_dflt (refine' leave_made ?k1 ?kf ?kk ?k0 ?k2 ?k3 ?_; (case kf => exact rfl); (case kk => exact rfl); (case k0 => exact rX.newExc); (case k2 => assumption); (case k1 => assumption); (case k3 => k_asm); intro h' R' U'; (try dsimp only at R' U' ⊢))))) | ((with_reducible show wpAny _ _ (eval (Expr.Call (Expr.Name _ _) _ _ _) _) _ _ _); (k_here; refine Call_ ?_)) | walk1 | dsimp only | (leave1; try dsimp only))
  all_goals exact hret _ _ _ _ _ _ _ (raised_sub (by assumption) (fun q hq => by first | exact hq | exact .tail _ hq | exact .tail _ (.tail _ hq) | exact .tail _ (.tail _ (.tail _ hq)) | exact .tail _ (.tail _ (.tail _ (.tail _ hq))) | exact .tail _ (.tail _ (.tail _ (.tail _ (.tail _ hq)))) | exact .tail _ (.tail _ (.tail _ (.tail _ (.tail _ (.tail _ hq))))))) (by assumption) (by assumption) (by assumption) (by assumption)
end Mine
end
section
namespace Mine
theorem haab_nob : ∀ a : Fin 19, haabL.getD a.val Str.empty ≠ "Nobody" := by decide
theorem haabS_nob {j : Int} (h0 : 0 ≤ j) (h1 : j < 19) : haabS j ≠ "Nobody" := fun h => haab_nob ⟨j.toNat, by omega⟩ h
set_option maxRecDepth 100000 in
set_option maxHeartbeats 8000000 in
theorem e_nh_nob (w : World) (mean : ExcName → Option Value) (mg mb : Str → Option Value) (jd : Int) (t u : Tok) :
    CutE w mean mg mb 6 100 [.str "Nobody" t, .int jd u] (fun _ => 584283 ≤ jd) "ValueError" := by
  unfold CutE
  k_fill
  intro dp un gd cn cs a ccd cl outer A₀ base h₀ L m pre cc s Q E hB hF hK hN hO hC hG hT hk hp hd1 hu1 hI0 hT0 hD hret
  have hBT := And.intro hI0 hT0
  clear hI0 hT0
  refine wpAny_call ?_
  k_dflt cell_enter
  have hD1 := kd_push (env := envX cn cs L a ccd cl) hD (by assumption) rfl
  obtain ⟨b1, b2, b3, b4, b5, b6, b7, b8⟩ := hm_b (jd - 584283)
  w_top off
  repeat' (first | (k_unfold; (try dsimp only)) | (k_end; wrow_close) | ((with_reducible show wpAny _ _ (call (Value.ref _) _) _ _ _); first | (k_here; (with_reducible show wpAny _ _ (call (Value.ref 86) [Value.int _ _, Value.str (Str.ofString "Nobody") _]) _ _ _); k_dflt (refine' CutE.use (e_hc_nob _ _ _ _ _ _ _) ?k1 ?k2 ?k3 ?k4 ?k6 ?k9 ?k7 ?k8 ?k5 ?kK ?kp ?kd ?ku ?kI ?kT ?kD ?_; (case k1 => k_asm); (case k2 => k_asm); (case k3 => k_asm); (case k4 => k_asm); (case k5 => k_asm); (case k7 => assumption); (case k6 => tb_rel); (case k9 => tb_start); (case k8 => assumption); (case kK => first | exact rfl | assumption); (case kp => (constructor <;> omega)); (case kd => ktr_room); (case ku => ktr_units); (case kI => exact And.left (by assumption)); (case kT => exact And.right (by assumption)); (case kD => assumption)); (intro e9 cc9 G9 h9 g9 d9 tk9 R9 F9 U9 hc9 hg9); (try simp only [List.cons_append, List.nil_append] at R9); (try dsimp only); (try k_fold)) | (k_here; (with_reducible show wpAny _ _ (call (Value.ref 86) [Value.int _ _, Value.str _ _]) _ _ _); k_dflt (refine' Cut.use (c_hc _ _ _ _ _ _ _ _) ?k1 ?k2 ?k3 ?k4 ?k6 ?k9 ?k7 ?k8 ?k5 ?kK ?kp ?kd ?ku ?_; (case k1 => k_asm); (case k2 => k_asm); (case k3 => k_asm); (case k4 => k_asm); (case k5 => k_asm); (case k7 => assumption); (case k6 => tb_rel); (case k9 => tb_start); (case k8 => assumption); (case kK => first | exact rfl | assumption); (case kp => (refine ⟨?_, ?_, ?_, ?_⟩ <;> omega)); (case kd => ktr_room); (case ku => ktr_units)); (intro v9 tl9 cc9 h9 g9 d9 tk9 r9 l9 hc9 F9 N9 G9); (obtain ⟨e9, t9, e8⟩ := r9); subst e9; subst e8; (simp only [List.cons_append, List.nil_append] at N9); clear l9; (try dsimp only); (try k_fold); (try k_sweep)) | (k_here; (with_reducible show wpAny _ _ (call (Value.ref 51) [Value.int _ _]) _ _ _); k_dflt (refine' Cut.use (c_to_haab _ _ _ _ _ _) ?k1 ?k2 ?k3 ?k4 ?k6 ?k9 ?k7 ?k8 ?k5 ?kK ?kp ?kd ?ku ?_; (case k1 => k_asm); (case k2 => k_asm); (case k3 => k_asm); (case k4 => k_asm); (case k5 => k_asm); (case k7 => assumption); (case k6 => tb_rel); (case k9 => tb_start); (case k8 => assumption); (case kK => first | exact rfl | assumption); (case kp => (first | trivial | assumption | omega | l_fact)); (case kd => ktr_room); (case ku => ktr_units)); (intro v9 tl9 cc9 h9 g9 d9 tk9 r9 l9 hc9 F9 N9 G9); (obtain ⟨D9, t90, t91, c9, e9, e8⟩ := r9); subst e9; subst e8; (simp only [List.cons_append, List.nil_append] at N9); (replace l9 := fun q hq => l9 q hq _ (List.Mem.head _)); (try dsimp only at l9); (try k_lt l9); (try dsimp only); (try k_fold); (try k_sweep))) | ((with_reducible show wpAny _ _ (leaving _ (Value.ref _)) _ _ _); first | (k_here; (rename RaisedSN _ _ _ _ _ _ _ => rX); k_dflt (refine' leave_past ?k1 ?kf ?k2 ?k3 ?k4 ?_; (case kf => exact rfl); (case k3 => exact rX); (case k2 => assumption); (case k1 => assumption); (case k4 => assumption); intro h' R' U'; (try dsimp only at R' U' ⊢))) | (k_here; first | ((rename Heap.NewExc _ _ _ _ => rX); k_dflt (refine' leave_made ?k1 ?kf ?kk ?k0 ?k2 ?k3 ?_; (case kf => exact rfl); (case kk => exact rfl); (case k0 => exact rX); (case k2 => assumption); (case k1 => assumption); (case k3 => k_asm); intro h' R' U'; (try dsimp only at R' U' ⊢))) | ((rename Heap.MadeExc _ _ _ _ _ => rX); k_dflt (refine' leave_made ?k1 ?kf ?kk ?k0 ?k2 ?k3 ?_; (case kf => exact rfl); (case kk => exact rfl); (case k0 => exact rX.newExc); (case k2 => assumption); (case k1 => assumption); (case k3 => k_asm); intro h' R' U'; (try dsimp only at R' U' ⊢))))) | ((with_reducible show wpAny _ _ (eval (Expr.Call (Expr.Name _ _) _ _ _) _) _ _ _); (k_here; refine Call_ ?_)) | walk1 | dsimp only | (leave1; try dsimp only))
  · rename (_ == _) = true => hq; exact absurd (by simpa using hq) (haabS_nob b3 b4)
  all_goals exact hret _ _ _ _ _ _ _ (raised_sub (by assumption) (fun q hq => by first | exact hq | exact .tail _ hq | exact .tail _ (.tail _ hq) | exact .tail _ (.tail _ (.tail _ hq)) | exact .tail _ (.tail _ (.tail _ (.tail _ hq))) | exact .tail _ (.tail _ (.tail _ (.tail _ (.tail _ hq)))) | exact .tail _ (.tail _ (.tail _ (.tail _ (.tail _ (.tail _ hq))))))) (by assumption) (by assumption) (by assumption) (by assumption)
end Mine
end
section
namespace Mine
set_option maxRecDepth 100000 in
set_option maxHeartbeats 8000000 in
theorem e_nth_hday (w : World) (mean : ExcName → Option Value) (mg mb : Str → Option Value) (e jd : Int) (v1 : Value) (nm : Str) (D2 : Addr) (t3 t4 u : Tok) (c2 : Nat) :
    CutE w mean mg mb 6 114 [v1, .ref D2, .int jd u] (fun pre => 584283 ≤ jd ∧ (e < 0 ∨ 19 < e) ∧ (D2, tupO [.int e t3, .str nm t4] c2) ∈ pre) "IndexError" := by
  unfold CutE
  k_fill
  intro dp un gd cn cs a ccd cl outer A₀ base h₀ L m pre cc s Q E hB hF hK hN hO hC hG hT hk hp hd1 hu1 hI0 hT0 hD hret
  have hBT := And.intro hI0 hT0
  clear hI0 hT0
  refine wpAny_call ?_
  k_dflt (refine' code_defC ?k1 ?k2 ?k3 ?k4 ?k5 ?kA ?kF ?kK ?k6 ?k7 ?k8 ?k9 ?kB ?kD ?_ ?c2 ?c3 ?c4; (case kA => exact rfl); (case kF => exact rfl); (case kK => assumption); (case k1 => k_asm); (case k2 => k_asm); (case k3 => k_asm); (case k4 => k_asm); (case k5 => k_asm); (case k6 => k_is); (case k7 => k_is); (case k8 => ktr_room); (case k9 => exact BindsTo.of_eq rfl); (case kB => exact rfl); (case kD => decide +kernel); (case c2 => exact rfl); (case c3 => exact rfl); (case c4 => exact rfl); k_whole; intro g' L' h' tk' cells' FG' F' N' Y' B' X' T' l1; (try k_lt l1); k_cells Y'; (try simp only [List.cons_append, List.nil_append] at N'); (try dsimp only); (try k_lift B'); (try k_fold))
  have hBL : BelowL pre cc L' := l1
  obtain ⟨hp1, he, hmem2⟩ := hp
  have hD1 := kd_push (env := envX cn cs L a ccd cl) hD (by assumption) rfl
  obtain ⟨b1, b2, b3, b4, b5, b6, b7, b8⟩ := hm_b (jd - 584283)
  w_top off
  repeat' (first | (k_unfold; (try dsimp only)) | (k_end; wrow_close) | ((with_reducible show wpAny _ _ (call (Value.ref _) _) _ _ _); first | (k_here; (with_reducible show wpAny _ _ (call (Value.ref 86) [Value.int _ _, Value.str _ _]) _ _ _); k_dflt (refine' CutE.use (e_hc_day _ _ _ _ _ _ _) ?k1 ?k2 ?k3 ?k4 ?k6 ?k9 ?k7 ?k8 ?k5 ?kK ?kp ?kd ?ku ?kI ?kT ?kD ?_; (case k1 => k_asm); (case k2 => k_asm); (case k3 => k_asm); (case k4 => k_asm); (case k5 => k_asm); (case k7 => assumption); (case k6 => tb_rel); (case k9 => tb_start); (case k8 => assumption); (case kK => first | exact rfl | assumption); (case kp => omega); (case kd => ktr_room); (case ku => ktr_units); (case kI => exact And.left (by assumption)); (case kT => exact And.right (by assumption)); (case kD => assumption)); (intro e9 cc9 G9 h9 g9 d9 tk9 R9 F9 U9 hc9 hg9); (try simp only [List.cons_append, List.nil_append] at R9); (try dsimp only); (try k_fold)) | (k_here; (with_reducible show wpAny _ _ (call (Value.ref 86) [Value.int _ _, Value.str _ _]) _ _ _); k_dflt (refine' Cut.use (c_hc _ _ _ _ _ _ _ _) ?k1 ?k2 ?k3 ?k4 ?k6 ?k9 ?k7 ?k8 ?k5 ?kK ?kp ?kd ?ku ?_; (case k1 => k_asm); (case k2 => k_asm); (case k3 => k_asm); (case k4 => k_asm); (case k5 => k_asm); (case k7 => assumption); (case k6 => tb_rel); (case k9 => tb_start); (case k8 => assumption); (case kK => first | exact rfl | assumption); (case kp => (refine ⟨?_, ?_, ?_, ?_⟩ <;> omega)); (case kd => ktr_room); (case ku => ktr_units)); (intro v9 tl9 cc9 h9 g9 d9 tk9 r9 l9 hc9 F9 N9 G9); (obtain ⟨e9, t9, e8⟩ := r9); subst e9; subst e8; (simp only [List.cons_append, List.nil_append] at N9); clear l9; (try dsimp only); (try k_fold); (try k_sweep)) | (k_here; (with_reducible show wpAny _ _ (call (Value.ref 51) [Value.int _ _]) _ _ _); k_dflt (refine' Cut.use (c_to_haab _ _ _ _ _ _) ?k1 ?k2 ?k3 ?k4 ?k6 ?k9 ?k7 ?k8 ?k5 ?kK ?kp ?kd ?ku ?_; (case k1 => k_asm); (case k2 => k_asm); (case k3 => k_asm); (case k4 => k_asm); (case k5 => k_asm); (case k7 => assumption); (case k6 => tb_rel); (case k9 => tb_start); (case k8 => assumption); (case kK => first | exact rfl | assumption); (case kp => (first | trivial | assumption | omega | l_fact)); (case kd => ktr_room); (case ku => ktr_units)); (intro v9 tl9 cc9 h9 g9 d9 tk9 r9 l9 hc9 F9 N9 G9); (obtain ⟨D9, t90, t91, c9, e9, e8⟩ := r9); subst e9; subst e8; (simp only [List.cons_append, List.nil_append] at N9); (replace l9 := fun q hq => l9 q hq _ (List.Mem.head _)); (try dsimp only at l9); (try k_lt l9); (try dsimp only); (try k_fold); (try k_sweep))) | ((with_reducible show wpAny _ _ (leaving _ (Value.ref _)) _ _ _); first | (k_here; (rename RaisedSN _ _ _ _ _ _ _ => rX); k_dflt (refine' leave_past ?k1 ?kf ?k2 ?k3 ?k4 ?_; (case kf => exact rfl); (case k3 => exact rX); (case k2 => assumption); (case k1 => assumption); (case k4 => assumption); intro h' R' U'; (try dsimp only at R' U' ⊢))) | (k_here; first | ((rename Heap.NewExc _ _ _ _ => rX); k_dflt (refine' leave_made ?k1 ?kf ?kk ?k0 ?k2 ?k3 ?_; (case kf => exact rfl); (case kk => exact rfl); (case k0 => exact rX); (case k2 => assumption); (case k1 => assumption); (case k3 => k_asm); intro h' R' U'; (try dsimp only at R' U' ⊢))) | ((rename Heap.MadeExc _ _ _ _ _ => rX); k_dflt (refine' leave_made ?k1 ?kf ?kk ?k0 ?k2 ?k3 ?_; (case kf => exact rfl); (case kk => exact rfl); (case k0 => exact rX.newExc); (case k2 => assumption); (case k1 => assumption); (case k3 => k_asm); intro h' R' U'; (try dsimp only at R' U' ⊢))))) | ((with_reducible show wpAny _ _ (eval (Expr.Call (Expr.Name _ _) _ _ _) _) _ _ _); (k_here; refine Call_ ?_)) | walk1 | dsimp only | (leave1; try dsimp only))
  all_goals exact hret _ _ _ _ _ _ _ (raised_sub (by assumption) (fun q hq => by first | exact hq | exact .tail _ hq | exact .tail _ (.tail _ hq) | exact .tail _ (.tail _ (.tail _ hq)) | exact .tail _ (.tail _ (.tail _ (.tail _ hq))) | exact .tail _ (.tail _ (.tail _ (.tail _ (.tail _ hq)))) | exact .tail _ (.tail _ (.tail _ (.tail _ (.tail _ (.tail _ hq))))))) (by assumption) (by assumption) (by assumption) (by assumption)
end Mine
end
section
namespace Mine
set_option maxRecDepth 100000 in
set_option maxHeartbeats 8000000 in
theorem e_nth_hnob (w : World) (mean : ExcName → Option Value) (mg mb : Str → Option Value) (e jd : Int) (v1 : Value) (D2 : Addr) (t3 t4 u : Tok) (c2 : Nat) :
    CutE w mean mg mb 6 114 [v1, .ref D2, .int jd u] (fun pre => 584283 ≤ jd ∧ 0 ≤ e ∧ e ≤ 19 ∧ (D2, tupO [.int e t3, .str "Nobody" t4] c2) ∈ pre) "ValueError" := by
  unfold CutE
  k_fill
  intro dp un gd cn cs a ccd cl outer A₀ base h₀ L m pre cc s Q E hB hF hK hN hO hC hG hT hk hp hd1 hu1 hI0 hT0 hD hret
  have hBT := And.intro hI0 hT0
  clear hI0 hT0
  refine wpAny_call ?_
  k_dflt (refine' code_defC ?k1 ?k2 ?k3 ?k4 ?k5 ?kA ?kF ?kK ?k6 ?k7 ?k8 ?k9 ?kB ?kD ?_ ?c2 ?c3 ?c4; (case kA => exact rfl); (case kF => exact rfl); (case kK => assumption); (case k1 => k_asm); (case k2 => k_asm); (case k3 => k_asm); (case k4 => k_asm); (case k5 => k_asm); (case k6 => k_is); (case k7 => k_is); (case k8 => ktr_room); (case k9 => exact BindsTo.of_eq rfl); (case kB => exact rfl); (case kD => decide +kernel); (case c2 => exact rfl); (case c3 => exact rfl); (case c4 => exact rfl); k_whole; intro g' L' h' tk' cells' FG' F' N' Y' B' X' T' l1; (try k_lt l1); k_cells Y'; (try simp only [List.cons_append, List.nil_append] at N'); (try dsimp only); (try k_lift B'); (try k_fold))
  have hBL : BelowL pre cc L' := l1
  obtain ⟨hp1, he0, he1, hmem2⟩ := hp
  have hD1 := kd_push (env := envX cn cs L a ccd cl) hD (by assumption) rfl
  obtain ⟨b1, b2, b3, b4, b5, b6, b7, b8⟩ := hm_b (jd - 584283)
  w_top off
  repeat' (first | (k_unfold; (try dsimp only)) | (k_end; wrow_close) | ((with_reducible show wpAny _ _ (call (Value.ref _) _) _ _ _); first | (k_here; (with_reducible show wpAny _ _ (call (Value.ref 86) [Value.int _ _, Value.str (Str.ofString "Nobody") _]) _ _ _); k_dflt (refine' CutE.use (e_hc_nob _ _ _ _ _ _ _) ?k1 ?k2 ?k3 ?k4 ?k6 ?k9 ?k7 ?k8 ?k5 ?kK ?kp ?kd ?ku ?kI ?kT ?kD ?_; (case k1 => k_asm); (case k2 => k_asm); (case k3 => k_asm); (case k4 => k_asm); (case k5 => k_asm); (case k7 => assumption); (case k6 => tb_rel); (case k9 => tb_start); (case k8 => assumption); (case kK => first | exact rfl | assumption); (case kp => (constructor <;> omega)); (case kd => ktr_room); (case ku => ktr_units); (case kI => exact And.left (by assumption)); (case kT => exact And.right (by assumption)); (case kD => assumption)); (intro e9 cc9 G9 h9 g9 d9 tk9 R9 F9 U9 hc9 hg9); (try simp only [List.cons_append, List.nil_append] at R9); (try dsimp only); (try k_fold)) | (k_here; (with_reducible show wpAny _ _ (call (Value.ref 86) [Value.int _ _, Value.str _ _]) _ _ _); k_dflt (refine' Cut.use (c_hc _ _ _ _ _ _ _ _) ?k1 ?k2 ?k3 ?k4 ?k6 ?k9 ?k7 ?k8 ?k5 ?kK ?kp ?kd ?ku ?_; (case k1 => k_asm); (case k2 => k_asm); (case k3 => k_asm); (case k4 => k_asm); (case k5 => k_asm); (case k7 => assumption); (case k6 => tb_rel); (case k9 => tb_start); (case k8 => assumption); (case kK => first | exact rfl | assumption); (case kp => (refine ⟨?_, ?_, ?_, ?_⟩ <;> omega)); (case kd => ktr_room); (case ku => ktr_units)); (intro v9 tl9 cc9 h9 g9 d9 tk9 r9 l9 hc9 F9 N9 G9); (obtain ⟨e9, t9, e8⟩ := r9); subst e9; subst e8; (simp only [List.cons_append, List.nil_append] at N9); clear l9; (try dsimp only); (try k_fold); (try k_sweep)) | (k_here; (with_reducible show wpAny _ _ (call (Value.ref 51) [Value.int _ _]) _ _ _); k_dflt (refine' Cut.use (c_to_haab _ _ _ _ _ _) ?k1 ?k2 ?k3 ?k4 ?k6 ?k9 ?k7 ?k8 ?k5 ?kK ?kp ?kd ?ku ?_; (case k1 => k_asm); (case k2 => k_asm); (case k3 => k_asm); (case k4 => k_asm); (case k5 => k_asm); (case k7 => assumption); (case k6 => tb_rel); (case k9 => tb_start); (case k8 => assumption); (case kK => first | exact rfl | assumption); (case kp => (first | trivial | assumption | omega | l_fact)); (case kd => ktr_room); (case ku => ktr_units)); (intro v9 tl9 cc9 h9 g9 d9 tk9 r9 l9 hc9 F9 N9 G9); (obtain ⟨D9, t90, t91, c9, e9, e8⟩ := r9); subst e9; subst e8; (simp only [List.cons_append, List.nil_append] at N9); (replace l9 := fun q hq => l9 q hq _ (List.Mem.head _)); (try dsimp only at l9); (try k_lt l9); (try dsimp only); (try k_fold); (try k_sweep))) | ((with_reducible show wpAny _ _ (leaving _ (Value.ref _)) _ _ _); first | (k_here; (rename RaisedSN _ _ _ _ _ _ _ => rX); k_dflt (refine' leave_past ?k1 ?kf ?k2 ?k3 ?k4 ?_; (case kf => exact rfl); (case k3 => exact rX); (case k2 => assumption); (case k1 => assumption); (case k4 => assumption); intro h' R' U'; (try dsimp only at R' U' ⊢))) | (k_here; first | ((rename Heap.NewExc _ _ _ _ => rX); k_dflt (refine' leave_made ?k1 ?kf ?kk ?k0 ?k2 ?k3 ?_; (case kf => exact rfl); (case kk => exact rfl); (case k0 => exact rX); (case k2 => assumption); (case k1 => assumption); (case k3 => k_asm); intro h' R' U'; (try dsimp only at R' U' ⊢))) | ((rename Heap.MadeExc _ _ _ _ _ => rX); k_dflt (refine' leave_made ?k1 ?kf ?kk ?k0 ?k2 ?k3 ?_; (case kf => exact rfl); (case kk => exact rfl); (case k0 => exact rX.newExc); (case k2 => assumption); (case k1 => assumption); (case k3 => k_asm); intro h' R' U'; (try dsimp only at R' U' ⊢))))) | ((with_reducible show wpAny _ _ (eval (Expr.Call (Expr.Name _ _) _ _ _) _) _ _ _); (k_here; refine Call_ ?_)) | walk1 | dsimp only | (leave1; try dsimp only))
  all_goals exact hret _ _ _ _ _ _ _ (raised_sub (by assumption) (fun q hq => by first | exact hq | exact .tail _ hq | exact .tail _ (.tail _ hq) | exact .tail _ (.tail _ (.tail _ hq)) | exact .tail _ (.tail _ (.tail _ (.tail _ hq))) | exact .tail _ (.tail _ (.tail _ (.tail _ (.tail _ hq)))) | exact .tail _ (.tail _ (.tail _ (.tail _ (.tail _ (.tail _ hq))))))) (by assumption) (by assumption) (by assumption) (by assumption)
end Mine
end
section
namespace Mine
set_option maxRecDepth 100000 in
set_option maxHeartbeats 8000000 in
theorem e_nth_tday (w : World) (mean : ExcName → Option Value) (mg mb : Str → Option Value) (e j d jd : Int) (nm : Str) (D1 D2 : Addr) (t1 t2 t3 t4 u : Tok) (c1 c2 : Nat) :
    CutE w mean mg mb 6 114 [.ref D1, .ref D2, .int jd u] (fun pre => 584283 ≤ jd ∧ 0 ≤ e ∧ e ≤ 19 ∧ 0 ≤ j ∧ j < 19 ∧ (D2, tupO [.int e t3, .str (haabS j) t4] c2) ∈ pre ∧ (d < 1 ∨ 13 < d) ∧ (D1, tupO [.int d t1, .str nm t2] c1) ∈ pre) "IndexError" := by
  unfold CutE
  k_fill
  intro dp un gd cn cs a ccd cl outer A₀ base h₀ L m pre cc s Q E hB hF hK hN hO hC hG hT hk hp hd1 hu1 hI0 hT0 hD hret
  have hBT := And.intro hI0 hT0
  clear hI0 hT0
  refine wpAny_call ?_
  k_dflt (refine' code_defC ?k1 ?k2 ?k3 ?k4 ?k5 ?kA ?kF ?kK ?k6 ?k7 ?k8 ?k9 ?kB ?kD ?_ ?c2 ?c3 ?c4; (case kA => exact rfl); (case kF => exact rfl); (case kK => assumption); (case k1 => k_asm); (case k2 => k_asm); (case k3 => k_asm); (case k4 => k_asm); (case k5 => k_asm); (case k6 => k_is); (case k7 => k_is); (case k8 => ktr_room); (case k9 => exact BindsTo.of_eq rfl); (case kB => exact rfl); (case kD => decide +kernel); (case c2 => exact rfl); (case c3 => exact rfl); (case c4 => exact rfl); k_whole; intro g' L' h' tk' cells' FG' F' N' Y' B' X' T' l1; (try k_lt l1); k_cells Y'; (try simp only [List.cons_append, List.nil_append] at N'); (try dsimp only); (try k_lift B'); (try k_fold))
  have hBL : BelowL pre cc L' := l1
  obtain ⟨hp1, he0, he1, hj0, hj1, hmem2, hd0, hmem1⟩ := hp
  have hD1 := kd_push (env := envX cn cs L a ccd cl) hD (by assumption) rfl
  obtain ⟨b1, b2, b3, b4, b5, b6, b7, b8⟩ := hm_b (jd - 584283)
  w_top off
  repeat' (first | (k_unfold; (try dsimp only)) | (k_end; wrow_close) | ((with_reducible show wpAny _ _ (call (Value.ref _) _) _ _ _); first | (k_here; (with_reducible show wpAny _ _ (call (Value.ref 93) [Value.int _ _, Value.str _ _]) _ _ _); k_dflt (refine' CutE.use (e_tc_day _ _ _ _ _ _ _) ?k1 ?k2 ?k3 ?k4 ?k6 ?k9 ?k7 ?k8 ?k5 ?kK ?kp ?kd ?ku ?kI ?kT ?kD ?_; (case k1 => k_asm); (case k2 => k_asm); (case k3 => k_asm); (case k4 => k_asm); (case k5 => k_asm); (case k7 => assumption); (case k6 => tb_rel); (case k9 => tb_start); (case k8 => assumption); (case kK => first | exact rfl | assumption); (case kp => omega); (case kd => ktr_room); (case ku => ktr_units); (case kI => exact And.left (by assumption)); (case kT => exact And.right (by assumption)); (case kD => assumption)); (intro e9 cc9 G9 h9 g9 d9 tk9 R9 F9 U9 hc9 hg9); (try simp only [List.cons_append, List.nil_append] at R9); (try dsimp only); (try k_fold)) | (k_here; (with_reducible show wpAny _ _ (call (Value.ref 93) [Value.int _ _, Value.str _ _]) _ _ _); k_dflt (refine' Cut.use (c_tc _ _ _ _ _ _ _ _) ?k1 ?k2 ?k3 ?k4 ?k6 ?k9 ?k7 ?k8 ?k5 ?kK ?kp ?kd ?ku ?_; (case k1 => k_asm); (case k2 => k_asm); (case k3 => k_asm); (case k4 => k_asm); (case k5 => k_asm); (case k7 => assumption); (case k6 => tb_rel); (case k9 => tb_start); (case k8 => assumption); (case kK => first | exact rfl | assumption); (case kp => (refine ⟨?_, ?_, ?_, ?_⟩ <;> omega)); (case kd => ktr_room); (case ku => ktr_units)); (intro v9 tl9 cc9 h9 g9 d9 tk9 r9 l9 hc9 F9 N9 G9); (obtain ⟨e9, t9, e8⟩ := r9); subst e9; subst e8; (simp only [List.cons_append, List.nil_append] at N9); clear l9; (try dsimp only); (try k_fold); (try k_sweep)) | (k_here; (with_reducible show wpAny _ _ (call (Value.ref 58) [Value.int _ _]) _ _ _); k_dflt (refine' Cut.use (c_to_tzolkin _ _ _ _ _ _) ?k1 ?k2 ?k3 ?k4 ?k6 ?k9 ?k7 ?k8 ?k5 ?kK ?kp ?kd ?ku ?_; (case k1 => k_asm); (case k2 => k_asm); (case k3 => k_asm); (case k4 => k_asm); (case k5 => k_asm); (case k7 => assumption); (case k6 => tb_rel); (case k9 => tb_start); (case k8 => assumption); (case kK => first | exact rfl | assumption); (case kp => (first | trivial | assumption | omega | l_fact)); (case kd => ktr_room); (case ku => ktr_units)); (intro v9 tl9 cc9 h9 g9 d9 tk9 r9 l9 hc9 F9 N9 G9); (obtain ⟨D9, t90, t91, c9, e9, e8⟩ := r9); subst e9; subst e8; (simp only [List.cons_append, List.nil_append] at N9); (replace l9 := fun q hq => l9 q hq _ (List.Mem.head _)); (try dsimp only at l9); (try k_lt l9); (try dsimp only); (try k_fold); (try k_sweep)) | (k_here; (with_reducible show wpAny _ _ (call (Value.ref 86) [Value.int _ _, Value.str _ _]) _ _ _); k_dflt (refine' Cut.use (c_hc _ _ _ _ _ _ _ _) ?k1 ?k2 ?k3 ?k4 ?k6 ?k9 ?k7 ?k8 ?k5 ?kK ?kp ?kd ?ku ?_; (case k1 => k_asm); (case k2 => k_asm); (case k3 => k_asm); (case k4 => k_asm); (case k5 => k_asm); (case k7 => assumption); (case k6 => tb_rel); (case k9 => tb_start); (case k8 => assumption); (case kK => first | exact rfl | assumption); (case kp => (refine ⟨?_, ?_, ?_, ?_⟩ <;> omega)); (case kd => ktr_room); (case ku => ktr_units)); (intro v9 tl9 cc9 h9 g9 d9 tk9 r9 l9 hc9 F9 N9 G9); (obtain ⟨e9, t9, e8⟩ := r9); subst e9; subst e8; (simp only [List.cons_append, List.nil_append] at N9); clear l9; (try dsimp only); (try k_fold); (try k_sweep)) | (k_here; (with_reducible show wpAny _ _ (call (Value.ref 51) [Value.int _ _]) _ _ _); k_dflt (refine' Cut.use (c_to_haab _ _ _ _ _ _) ?k1 ?k2 ?k3 ?k4 ?k6 ?k9 ?k7 ?k8 ?k5 ?kK ?kp ?kd ?ku ?_; (case k1 => k_asm); (case k2 => k_asm); (case k3 => k_asm); (case k4 => k_asm); (case k5 => k_asm); (case k7 => assumption); (case k6 => tb_rel); (case k9 => tb_start); (case k8 => assumption); (case kK => first | exact rfl | assumption); (case kp => (first | trivial | assumption | omega | l_fact)); (case kd => ktr_room); (case ku => ktr_units)); (intro v9 tl9 cc9 h9 g9 d9 tk9 r9 l9 hc9 F9 N9 G9); (obtain ⟨D9, t90, t91, c9, e9, e8⟩ := r9); subst e9; subst e8; (simp only [List.cons_append, List.nil_append] at N9); (replace l9 := fun q hq => l9 q hq _ (List.Mem.head _)); (try dsimp only at l9); (try k_lt l9); (try dsimp only); (try k_fold); (try k_sweep))) | ((with_reducible show wpAny _ _ (call (Value.type _) _) _ _ _); (k_here; (with_reducible show wpAny _ _ (call (Value.type "set") [Value.ref _]) _ _ _); k_dflt (refine' set_gen_K ?F ?N ?X ?hK ?hL ?hb ?_; (case F => k_asm); (case N => k_asm); (case X => assumption); (case hK => assumption); (case hL => assumption); (case hb => decide)); (intro D9 o9 h9 gs9 tk9 F9 N9 l9 so9 hG9); (have G9 := hG9 (by assumption)); clear hG9; (try k_lt l9); (try dsimp only); (try k_fold); (try k_sweep))) | ((with_reducible show wpAny _ _ (eval (Expr.GeneratorExp _ _ _ _) _) _ _ _); (k_here; k_dflt (refine' gen_K code109 in109 (n := 52) ?gF ?gX ?gN ?gS ?gpo ?gC ?gT ?ghh ?ghco ?ghclos ?ghcell ?gh0 ?ghx ?ghy ?ghkind ?ghroom ?ghdx ?ghdy ?ghny ?ghs ?ghsmall ?ghn ?ghit ?ghm ?ghv ?ghPs ?_; (case gF => k_asm); (case gX => k_asm); (case gN => k_asm); (case gC => assumption); (case gS => tb_rel); (case gpo => tb_start); (case gT => k_asm); (case ghh => first | rfl | assumption); (case ghco => rfl); (case ghclos => with_unfolding_all rfl); (case ghcell => decide); (case gh0 => rfl); (case ghx => rfl); (case ghy => rfl); (case ghkind => rfl); (case ghroom => ktr_room); (case ghdx => decide); (case ghdy => decide); (case ghny => decide); (case ghs => intro _; with_unfolding_all rfl); (case ghit => (refine iter_range (by decide) (fun Q' hq => nameX_B (K := theK.heap_1 _) (by k_asm) (by k_asm) (topRead_of (by assumption)) (by k_is) (by boot_fast) (by decide) hq) (fun _ => Or.inl (PyProof.noPylong_of_log2 (by decide +kernel))))); (case ghsmall => decide); (case ghn => first | rfl | decide); (case ghm => k_mem); (case ghv => k_asm); (case ghPs => decide)); (intro g9 h9 gs9 tk9 cc9 hc9 F9 N9 hK9 hL9 X9 hG9); (have G9 := hG9 (by assumption)); clear hG9; (try simp only [List.cons_append, List.nil_append] at N9 hK9); (try dsimp only); (try k_fold); (try k_sweep))) | ((with_reducible show wpAny _ _ (exec (Stmt.Try _ _ _ _ _) _) _ _ _); (k_here; (with_reducible show wpAny _ _ (exec (PySem.Stmt.Try _ (_ :: _) _ [] _) (envOfC _ _ _ _ _)) _ _ _); refine wpAny_Try_except ?_)) | ((with_reducible show wpAny _ _ (leaving _ (Value.ref _)) _ _ _); first | (k_here; (rename RaisedSN _ _ _ _ _ _ _ => rX); k_dflt (refine' leave_past ?k1 ?kf ?k2 ?k3 ?k4 ?_; (case kf => exact rfl); (case k3 => exact rX); (case k2 => assumption); (case k1 => assumption); (case k4 => assumption); intro h' R' U'; (try dsimp only at R' U' ⊢))) | (k_here; first | ((rename Heap.NewExc _ _ _ _ => rX); k_dflt (refine' leave_made ?k1 ?kf ?kk ?k0 ?k2 ?k3 ?_; (case kf => exact rfl); (case kk => exact rfl); (case k0 => exact rX); (case k2 => assumption); (case k1 => assumption); (case k3 => k_asm); intro h' R' U'; (try dsimp only at R' U' ⊢))) | ((rename Heap.MadeExc _ _ _ _ _ => rX); k_dflt (refine' leave_made ?k1 ?kf ?kk ?k0 ?k2 ?k3 ?_; (case kf => exact rfl); (case kk => exact rfl); (case k0 => exact rX.newExc); (case k2 => assumption); (case k1 => assumption); (case k3 => k_asm); intro h' R' U'; (try dsimp only at R' U' ⊢))))) | ((with_reducible show wpAny _ _ (eval (Expr.Call (Expr.Name _ _) _ _ _) _) _ _ _); (k_here; refine Call_ ?_)) | walk1 | dsimp only | (leave1; try dsimp only))
  all_goals exact hret _ _ _ _ _ _ _ (raised_sub (by assumption) (fun q hq => by first | exact hq | exact .tail _ hq | exact .tail _ (.tail _ hq) | exact .tail _ (.tail _ (.tail _ hq)) | exact .tail _ (.tail _ (.tail _ (.tail _ hq))) | exact .tail _ (.tail _ (.tail _ (.tail _ (.tail _ hq)))) | exact .tail _ (.tail _ (.tail _ (.tail _ (.tail _ (.tail _ hq))))))) (by assumption) (by assumption) (by assumption) (by assumption)
end Mine
end
section
namespace Mine
set_option maxRecDepth 100000 in
set_option maxHeartbeats 8000000 in
theorem e_nth_tnob (w : World) (mean : ExcName → Option Value) (mg mb : Str → Option Value) (e j d jd : Int) (D1 D2 : Addr) (t1 t2 t3 t4 u : Tok) (c1 c2 : Nat) :
    CutE w mean mg mb 6 114 [.ref D1, .ref D2, .int jd u] (fun pre => 584283 ≤ jd ∧ 0 ≤ e ∧ e ≤ 19 ∧ 0 ≤ j ∧ j < 19 ∧ (D2, tupO [.int e t3, .str (haabS j) t4] c2) ∈ pre ∧ 1 ≤ d ∧ d ≤ 13 ∧ (D1, tupO [.int d t1, .str "Nobody" t2] c1) ∈ pre) "ValueError" := by
  unfold CutE
  k_fill
  intro dp un gd cn cs a ccd cl outer A₀ base h₀ L m pre cc s Q E hB hF hK hN hO hC hG hT hk hp hd1 hu1 hI0 hT0 hD hret
  have hBT := And.intro hI0 hT0
  clear hI0 hT0
  refine wpAny_call ?_
  k_dflt (refine' code_defC ?k1 ?k2 ?k3 ?k4 ?k5 ?kA ?kF ?kK ?k6 ?k7 ?k8 ?k9 ?kB ?kD ?_ ?c2 ?c3 ?c4; (case kA => exact rfl); (case kF => exact rfl); (case kK => assumption); (case k1 => k_asm); (case k2 => k_asm); (case k3 => k_asm); (case k4 => k_asm); (case k5 => k_asm); (case k6 => k_is); (case k7 => k_is); (case k8 => ktr_room); (case k9 => exact BindsTo.of_eq rfl); (case kB => exact rfl); (case kD => decide +kernel); (case c2 => exact rfl); (case c3 => exact rfl); (case c4 => exact rfl); k_whole; intro g' L' h' tk' cells' FG' F' N' Y' B' X' T' l1; (try k_lt l1); k_cells Y'; (try simp only [List.cons_append, List.nil_append] at N'); (try dsimp only); (try k_lift B'); (try k_fold))
  have hBL : BelowL pre cc L' := l1
  obtain ⟨hp1, he0, he1, hj0, hj1, hmem2, hd0, hd1, hmem1⟩ := hp
  have hD1 := kd_push (env := envX cn cs L a ccd cl) hD (by assumption) rfl
  obtain ⟨b1, b2, b3, b4, b5, b6, b7, b8⟩ := hm_b (jd - 584283)
  w_top off
  repeat' (first | (k_unfold; (try dsimp only)) | (k_end; wrow_close) | ((with_reducible show wpAny _ _ (call (Value.ref _) _) _ _ _); first | (k_here; (with_reducible show wpAny _ _ (call (Value.ref 93) [Value.int _ _, Value.str (Str.ofString "Nobody") _]) _ _ _); k_dflt (refine' CutE.use (e_tc_nob _ _ _ _ _ _ _) ?k1 ?k2 ?k3 ?k4 ?k6 ?k9 ?k7 ?k8 ?k5 ?kK ?kp ?kd ?ku ?kI ?kT ?kD ?_; (case k1 => k_asm); (case k2 => k_asm); (case k3 => k_asm); (case k4 => k_asm); (case k5 => k_asm); (case k7 => assumption); (case k6 => tb_rel); (case k9 => tb_start); (case k8 => assumption); (case kK => first | exact rfl | assumption); (case kp => (constructor <;> omega)); (case kd => ktr_room); (case ku => ktr_units); (case kI => exact And.left (by assumption)); (case kT => exact And.right (by assumption)); (case kD => assumption)); (intro e9 cc9 G9 h9 g9 d9 tk9 R9 F9 U9 hc9 hg9); (try simp only [List.cons_append, List.nil_append] at R9); (try dsimp only); (try k_fold)) | (k_here; (with_reducible show wpAny _ _ (call (Value.ref 93) [Value.int _ _, Value.str _ _]) _ _ _); k_dflt (refine' Cut.use (c_tc _ _ _ _ _ _ _ _) ?k1 ?k2 ?k3 ?k4 ?k6 ?k9 ?k7 ?k8 ?k5 ?kK ?kp ?kd ?ku ?_; (case k1 => k_asm); (case k2 => k_asm); (case k3 => k_asm); (case k4 => k_asm); (case k5 => k_asm); (case k7 => assumption); (case k6 => tb_rel); (case k9 => tb_start); (case k8 => assumption); (case kK => first | exact rfl | assumption); (case kp => (refine ⟨?_, ?_, ?_, ?_⟩ <;> omega)); (case kd => ktr_room); (case ku => ktr_units)); (intro v9 tl9 cc9 h9 g9 d9 tk9 r9 l9 hc9 F9 N9 G9); (obtain ⟨e9, t9, e8⟩ := r9); subst e9; subst e8; (simp only [List.cons_append, List.nil_append] at N9); clear l9; (try dsimp only); (try k_fold); (try k_sweep)) | (k_here; (with_reducible show wpAny _ _ (call (Value.ref 58) [Value.int _ _]) _ _ _); k_dflt (refine' Cut.use (c_to_tzolkin _ _ _ _ _ _) ?k1 ?k2 ?k3 ?k4 ?k6 ?k9 ?k7 ?k8 ?k5 ?kK ?kp ?kd ?ku ?_; (case k1 => k_asm); (case k2 => k_asm); (case k3 => k_asm); (case k4 => k_asm); (case k5 => k_asm); (case k7 => assumption); (case k6 => tb_rel); (case k9 => tb_start); (case k8 => assumption); (case kK => first | exact rfl | assumption); (case kp => (first | trivial | assumption | omega | l_fact)); (case kd => ktr_room); (case ku => ktr_units)); (intro v9 tl9 cc9 h9 g9 d9 tk9 r9 l9 hc9 F9 N9 G9); (obtain ⟨D9, t90, t91, c9, e9, e8⟩ := r9); subst e9; subst e8; (simp only [List.cons_append, List.nil_append] at N9); (replace l9 := fun q hq => l9 q hq _ (List.Mem.head _)); (try dsimp only at l9); (try k_lt l9); (try dsimp only); (try k_fold); (try k_sweep)) | (k_here; (with_reducible show wpAny _ _ (call (Value.ref 86) [Value.int _ _, Value.str _ _]) _ _ _); k_dflt (refine' Cut.use (c_hc _ _ _ _ _ _ _ _) ?k1 ?k2 ?k3 ?k4 ?k6 ?k9 ?k7 ?k8 ?k5 ?kK ?kp ?kd ?ku ?_; (case k1 => k_asm); (case k2 => k_asm); (case k3 => k_asm); (case k4 => k_asm); (case k5 => k_asm); (case k7 => assumption); (case k6 => tb_rel); (case k9 => tb_start); (case k8 => assumption); (case kK => first | exact rfl | assumption); (case kp => (refine ⟨?_, ?_, ?_, ?_⟩ <;> omega)); (case kd => ktr_room); (case ku => ktr_units)); (intro v9 tl9 cc9 h9 g9 d9 tk9 r9 l9 hc9 F9 N9 G9); (obtain ⟨e9, t9, e8⟩ := r9); subst e9; subst e8; (simp only [List.cons_append, List.nil_append] at N9); clear l9; (try dsimp only); (try k_fold); (try k_sweep)) | (k_here; (with_reducible show wpAny _ _ (call (Value.ref 51) [Value.int _ _]) _ _ _); k_dflt (refine' Cut.use (c_to_haab _ _ _ _ _ _) ?k1 ?k2 ?k3 ?k4 ?k6 ?k9 ?k7 ?k8 ?k5 ?kK ?kp ?kd ?ku ?_; (case k1 => k_asm); (case k2 => k_asm); (case k3 => k_asm); (case k4 => k_asm); (case k5 => k_asm); (case k7 => assumption); (case k6 => tb_rel); (case k9 => tb_start); (case k8 => assumption); (case kK => first | exact rfl | assumption); (case kp => (first | trivial | assumption | omega | l_fact)); (case kd => ktr_room); (case ku => ktr_units)); (intro v9 tl9 cc9 h9 g9 d9 tk9 r9 l9 hc9 F9 N9 G9); (obtain ⟨D9, t90, t91, c9, e9, e8⟩ := r9); subst e9; subst e8; (simp only [List.cons_append, List.nil_append] at N9); (replace l9 := fun q hq => l9 q hq _ (List.Mem.head _)); (try dsimp only at l9); (try k_lt l9); (try dsimp only); (try k_fold); (try k_sweep))) | ((with_reducible show wpAny _ _ (call (Value.type _) _) _ _ _); (k_here; (with_reducible show wpAny _ _ (call (Value.type "set") [Value.ref _]) _ _ _); k_dflt (refine' set_gen_K ?F ?N ?X ?hK ?hL ?hb ?_; (case F => k_asm); (case N => k_asm); (case X => assumption); (case hK => assumption); (case hL => assumption); (case hb => decide)); (intro D9 o9 h9 gs9 tk9 F9 N9 l9 so9 hG9); (have G9 := hG9 (by assumption)); clear hG9; (try k_lt l9); (try dsimp only); (try k_fold); (try k_sweep))) | ((with_reducible show wpAny _ _ (eval (Expr.GeneratorExp _ _ _ _) _) _ _ _); (k_here; k_dflt (refine' gen_K code109 in109 (n := 52) ?gF ?gX ?gN ?gS ?gpo ?gC ?gT ?ghh ?ghco ?ghclos ?ghcell ?gh0 ?ghx ?ghy ?ghkind ?ghroom ?ghdx ?ghdy ?ghny ?ghs ?ghsmall ?ghn ?ghit ?ghm ?ghv ?ghPs ?_; (case gF => k_asm); (case gX => k_asm); (case gN => k_asm); (case gC => assumption); (case gS => tb_rel); (case gpo => tb_start); (case gT => k_asm); (case ghh => first | rfl | assumption); (case ghco => rfl); (case ghclos => with_unfolding_all rfl); (case ghcell => decide); (case gh0 => rfl); (case ghx => rfl); (case ghy => rfl); (case ghkind => rfl); (case ghroom => ktr_room); (case ghdx => decide); (case ghdy => decide); (case ghny => decide); (case ghs => intro _; with_unfolding_all rfl); (case ghit => (refine iter_range (by decide) (fun Q' hq => nameX_B (K := theK.heap_1 _) (by k_asm) (by k_asm) (topRead_of (by assumption)) (by k_is) (by boot_fast) (by decide) hq) (fun _ => Or.inl (PyProof.noPylong_of_log2 (by decide +kernel))))); (case ghsmall => decide); (case ghn => first | rfl | decide); (case ghm => k_mem); (case ghv => k_asm); (case ghPs => decide)); (intro g9 h9 gs9 tk9 cc9 hc9 F9 N9 hK9 hL9 X9 hG9); (have G9 := hG9 (by assumption)); clear hG9; (try simp only [List.cons_append, List.nil_append] at N9 hK9); (try dsimp only); (try k_fold); (try k_sweep))) | ((with_reducible show wpAny _ _ (exec (Stmt.Try _ _ _ _ _) _) _ _ _); (k_here; (with_reducible show wpAny _ _ (exec (PySem.Stmt.Try _ (_ :: _) _ [] _) (envOfC _ _ _ _ _)) _ _ _); refine wpAny_Try_except ?_)) | ((with_reducible show wpAny _ _ (leaving _ (Value.ref _)) _ _ _); first | (k_here; (rename RaisedSN _ _ _ _ _ _ _ => rX); k_dflt (refine' leave_past ?k1 ?kf ?k2 ?k3 ?k4 ?_; (case kf => exact rfl); (case k3 => exact rX); (case k2 => assumption); (case k1 => assumption); (case k4 => assumption); intro h' R' U'; (try dsimp only at R' U' ⊢))) | (k_here; first | ((rename Heap.NewExc _ _ _ _ => rX); k_dflt (refine' leave_made ?k1 ?kf ?kk ?k0 ?k2 ?k3 ?_; (case kf => exact rfl); (case kk => exact rfl); (case k0 => exact rX); (case k2 => assumption); (case k1 => assumption); (case k3 => k_asm); intro h' R' U'; (try dsimp only at R' U' ⊢))) | ((rename Heap.MadeExc _ _ _ _ _ => rX); k_dflt (refine' leave_made ?k1 ?kf ?kk ?k0 ?k2 ?k3 ?_; (case kf => exact rfl); (case kk => exact rfl); (case k0 => exact rX.newExc); (case k2 => assumption); (case k1 => assumption); (case k3 => k_asm); intro h' R' U'; (try dsimp only at R' U' ⊢))))) | ((with_reducible show wpAny _ _ (eval (Expr.Call (Expr.Name _ _) _ _ _) _) _ _ _); (k_here; refine Call_ ?_)) | walk1 | dsimp only | (leave1; try dsimp only))
  all_goals exact hret _ _ _ _ _ _ _ (raised_sub (by assumption) (fun q hq => by first | exact hq | exact .tail _ hq | exact .tail _ (.tail _ hq) | exact .tail _ (.tail _ (.tail _ hq)) | exact .tail _ (.tail _ (.tail _ (.tail _ hq))) | exact .tail _ (.tail _ (.tail _ (.tail _ (.tail _ hq)))) | exact .tail _ (.tail _ (.tail _ (.tail _ (.tail _ (.tail _ hq))))))) (by assumption) (by assumption) (by assumption) (by assumption)
end Mine
end
section
namespace Mine
set_option maxRecDepth 100000 in
set_option maxHeartbeats 8000000 in
theorem e_nth_none (w : World) (mean : ExcName → Option Value) (mg mb : Str → Option Value) (d i e j jd : Int) (D1 D2 : Addr) (t1 t2 t3 t4 u : Tok) (c1 c2 : Nat) :
    CutE w mean mg mb 6 114 [.ref D1, .ref D2, .int jd u] (fun pre => 584283 ≤ jd ∧ 1 ≤ d ∧ d ≤ 13 ∧ 0 ≤ i ∧ i < 20 ∧ 0 ≤ e ∧ e ≤ 19 ∧ 0 ≤ j ∧ j < 19 ∧ (D1, tupO [.int d t1, .str (tzS i) t2] c1) ∈ pre ∧ (D2, tupO [.int e t3, .str (haabS j) t4] c2) ∈ pre ∧ (tdF (jd - 584283) d i - hdF (jd - 584283) e j) % 5 ≠ 0) "IndexError" := by
  unfold CutE
  k_fill
  intro dp un gd cn cs a ccd cl outer A₀ base h₀ L m pre cc s Q E hB hF hK hN hO hC hG hT hk hp hd1 hu1 hI0 hT0 hD hret
  have hBT := And.intro hI0 hT0
  clear hI0 hT0
  refine wpAny_call ?_
  k_dflt (refine' code_defC ?k1 ?k2 ?k3 ?k4 ?k5 ?kA ?kF ?kK ?k6 ?k7 ?k8 ?k9 ?kB ?kD ?_ ?c2 ?c3 ?c4; (case kA => exact rfl); (case kF => exact rfl); (case kK => assumption); (case k1 => k_asm); (case k2 => k_asm); (case k3 => k_asm); (case k4 => k_asm); (case k5 => k_asm); (case k6 => k_is); (case k7 => k_is); (case k8 => ktr_room); (case k9 => exact BindsTo.of_eq rfl); (case kB => exact rfl); (case kD => decide +kernel); (case c2 => exact rfl); (case c3 => exact rfl); (case c4 => exact rfl); k_whole; intro g' L' h' tk' cells' FG' F' N' Y' B' X' T' l1; (try k_lt l1); k_cells Y'; (try simp only [List.cons_append, List.nil_append] at N'); (try dsimp only); (try k_lift B'); (try k_fold))
  have hBL : BelowL pre cc L' := l1
  obtain ⟨hp1, hd0, hd1, hi0, hi1, he0, he1, hj0, hj1, hmem1, hmem2, h5⟩ := hp
  have hD1 := kd_push (env := envX cn cs L a ccd cl) hD (by assumption) rfl
  obtain ⟨b1, b2, b3, b4, b5, b6, b7, b8⟩ := hm_b (jd - 584283)
  w_top off
  repeat' (first | (k_unfold; (try dsimp only)) | (k_end; wrow_close) | ((with_reducible show wpAny _ _ (exec (Stmt.Raise (some _) none _) _) _ _ _); (k_here; first | refine Raise_new rfl ?_ | refine raise_in rfl ?_)) | ((with_reducible show wpAny _ _ (call (Value.type _) _) _ _ _); first | (k_here; refine call_exc1 excClass_IndexError ?_; intro h' e' X') | (k_here; refine call_exc1 excClass_ValueError ?_; intro h' e' X') | (k_here; (with_reducible show wpAny _ _ (call (Value.type "set") [Value.ref _]) _ _ _); k_dflt (refine' set_gen_K ?F ?N ?X ?hK ?hL ?hb ?_; (case F => k_asm); (case N => k_asm); (case X => assumption); (case hK => assumption); (case hL => assumption); (case hb => decide)); (intro D9 o9 h9 gs9 tk9 F9 N9 l9 so9 hG9); (have G9 := hG9 (by assumption)); clear hG9; (try k_lt l9); (try dsimp only); (try k_fold); (try k_sweep))) | ((with_reducible show wpAny _ _ (noteFrame (Value.ref _) _) _ _ _); (k_here; (rename Heap.NewExc _ _ _ _ => rX); (refine' hit_plain ?k1 ?k2 rX ?k4 rfl ?k5 ?k6 ?k7 PyProof.Rows.Boot.«KeyError» ?k8 kr_isExc_KeyError kr_notTuple_KeyError ?k9 rfl ?kA ?_); (case k5 => exact (And.left (by assumption))); (case k6 => exact (And.right (by assumption))); (case k1 => assumption); (case k2 => k_asm); (case k4 => k_asm); (case k7 => k_is); (case k8 => decide); (case k9 => (rw [isSubtype_type]; kernel_rfl)); (case kA => decide); clear rX; intro h' g' oe' vs' T' F' N' c' d' z' B' X' P'; (try dsimp only); (try simp only [List.cons_append, List.nil_append] at N'); (try k_lift B'); (try k_fold))) | ((with_reducible show wpAny _ _ (call (Value.builtin _) _) _ _ _); first | (k_here; k_dflt (refine' inter_K (none) ?F ?N ?h1 ?h2 ?hne ?s1 ?s2 ?hb1 ?hb2 ?hc ?_; (case F => k_asm); (case N => k_asm); (case h1 => k_mem); (case h2 => k_mem); (case s1 => assumption); (case s2 => assumption); (case hne => (refine neN ?_; (first | omega | decide))); (case hb1 => exact met_len _ _ (by decide)); (case hb2 => exact met_len _ _ (by decide)); (case hc => exact cm_none _ _ (by assumption))); (intro D9 o9 h9 F9 N9 l9 so9); (try dsimp only); (try k_fold); (try k_sweep)) | (k_here; k_dflt (refine' popn_K ?hh ?N ?so ?_; (case hh => exact rfl); (case N => k_asm); (case so => assumption)); (intro h9 tk9 e9 X9); (try dsimp only))) | ((with_reducible show wpAny _ _ (getMethod (Value.ref _) _ _) _ _ _); first | (k_here; (with_reducible show wpAny _ _ (getMethod (Value.ref _) (PySem.Str.ofString "pop") _) _ _ _); k_dflt (refine' setm_K PySem.F.slot_set_pop PySem.F.type_set_pop ?N ?m ?s ?_; (case N => k_asm); (case m => k_mem); (case s => assumption))) | (k_here; (with_reducible show wpAny _ _ (getMethod (Value.ref _) (PySem.Str.ofString "intersection") _) _ _ _); k_dflt (refine' setm_K PySem.F.slot_set_intersection PySem.F.type_set_intersection ?N ?m ?s ?_; (case N => k_asm); (case m => k_mem); (case s => assumption)))) | ((with_reducible show wpAny _ _ (eval (Expr.GeneratorExp _ _ _ _) _) _ _ _); first | (k_here; k_dflt (refine' gen_K code109 in109 (n := 73) ?gF ?gX ?gN ?gS ?gpo ?gC ?gT ?ghh ?ghco ?ghclos ?ghcell ?gh0 ?ghx ?ghy ?ghkind ?ghroom ?ghdx ?ghdy ?ghny ?ghs ?ghsmall ?ghn ?ghit ?ghm ?ghv ?ghPs ?_; (case gF => k_asm); (case gX => k_asm); (case gN => k_asm); (case gC => assumption); (case gS => tb_rel); (case gpo => tb_start); (case gT => k_asm); (case ghh => first | rfl | assumption); (case ghco => rfl); (case ghclos => with_unfolding_all rfl); (case ghcell => decide); (case gh0 => rfl); (case ghx => rfl); (case ghy => rfl); (case ghkind => rfl); (case ghroom => ktr_room); (case ghdx => decide); (case ghdy => decide); (case ghny => decide); (case ghs => intro _; with_unfolding_all rfl); (case ghit => (refine iter_range (by decide) (fun Q' hq => nameX_B (K := theK.heap_1 _) (by k_asm) (by k_asm) (topRead_of (by assumption)) (by k_is) (by boot_fast) (by decide) hq) (fun _ => Or.inl (PyProof.noPylong_of_log2 (by decide +kernel))))); (case ghsmall => decide); (case ghn => first | rfl | decide); (case ghm => k_mem); (case ghv => k_asm); (case ghPs => decide)); (intro g9 h9 gs9 tk9 cc9 hc9 F9 N9 hK9 hL9 X9 hG9); (have G9 := hG9 (by assumption)); clear hG9; (try simp only [List.cons_append, List.nil_append] at N9 hK9); (try dsimp only); (try k_fold); (try k_sweep)) | (k_here; k_dflt (refine' gen_K code109 in109 (n := 52) ?gF ?gX ?gN ?gS ?gpo ?gC ?gT ?ghh ?ghco ?ghclos ?ghcell ?gh0 ?ghx ?ghy ?ghkind ?ghroom ?ghdx ?ghdy ?ghny ?ghs ?ghsmall ?ghn ?ghit ?ghm ?ghv ?ghPs ?_; (case gF => k_asm); (case gX => k_asm); (case gN => k_asm); (case gC => assumption); (case gS => tb_rel); (case gpo => tb_start); (case gT => k_asm); (case ghh => first | rfl | assumption); (case ghco => rfl); (case ghclos => with_unfolding_all rfl); (case ghcell => decide); (case gh0 => rfl); (case ghx => rfl); (case ghy => rfl); (case ghkind => rfl); (case ghroom => ktr_room); (case ghdx => decide); (case ghdy => decide); (case ghny => decide); (case ghs => intro _; with_unfolding_all rfl); (case ghit => (refine iter_range (by decide) (fun Q' hq => nameX_B (K := theK.heap_1 _) (by k_asm) (by k_asm) (topRead_of (by assumption)) (by k_is) (by boot_fast) (by decide) hq) (fun _ => Or.inl (PyProof.noPylong_of_log2 (by decide +kernel))))); (case ghsmall => decide); (case ghn => first | rfl | decide); (case ghm => k_mem); (case ghv => k_asm); (case ghPs => decide)); (intro g9 h9 gs9 tk9 cc9 hc9 F9 N9 hK9 hL9 X9 hG9); (have G9 := hG9 (by assumption)); clear hG9; (try simp only [List.cons_append, List.nil_append] at N9 hK9); (try dsimp only); (try k_fold); (try k_sweep))) | ((with_reducible show wpAny _ _ (exec (Stmt.Try _ _ _ _ _) _) _ _ _); (k_here; (with_reducible show wpAny _ _ (exec (PySem.Stmt.Try _ (_ :: _) _ [] _) (envOfC _ _ _ _ _)) _ _ _); refine wpAny_Try_except ?_)) | ((with_reducible show wpAny _ _ (call (Value.ref _) _) _ _ _); first | (k_here; (with_reducible show wpAny _ _ (call (Value.ref 93) [Value.int _ _, Value.str _ _]) _ _ _); k_dflt (refine' Cut.use (c_tc _ _ _ _ _ _ _ _) ?k1 ?k2 ?k3 ?k4 ?k6 ?k9 ?k7 ?k8 ?k5 ?kK ?kp ?kd ?ku ?_; (case k1 => k_asm); (case k2 => k_asm); (case k3 => k_asm); (case k4 => k_asm); (case k5 => k_asm); (case k7 => assumption); (case k6 => tb_rel); (case k9 => tb_start); (case k8 => assumption); (case kK => first | exact rfl | assumption); (case kp => (refine ⟨?_, ?_, ?_, ?_⟩ <;> omega)); (case kd => ktr_room); (case ku => ktr_units)); (intro v9 tl9 cc9 h9 g9 d9 tk9 r9 l9 hc9 F9 N9 G9); (obtain ⟨e9, t9, e8⟩ := r9); subst e9; subst e8; (simp only [List.cons_append, List.nil_append] at N9); clear l9; (try dsimp only); (try k_fold); (try k_sweep)) | (k_here; (with_reducible show wpAny _ _ (call (Value.ref 86) [Value.int _ _, Value.str _ _]) _ _ _); k_dflt (refine' Cut.use (c_hc _ _ _ _ _ _ _ _) ?k1 ?k2 ?k3 ?k4 ?k6 ?k9 ?k7 ?k8 ?k5 ?kK ?kp ?kd ?ku ?_; (case k1 => k_asm); (case k2 => k_asm); (case k3 => k_asm); (case k4 => k_asm); (case k5 => k_asm); (case k7 => assumption); (case k6 => tb_rel); (case k9 => tb_start); (case k8 => assumption); (case kK => first | exact rfl | assumption); (case kp => (refine ⟨?_, ?_, ?_, ?_⟩ <;> omega)); (case kd => ktr_room); (case ku => ktr_units)); (intro v9 tl9 cc9 h9 g9 d9 tk9 r9 l9 hc9 F9 N9 G9); (obtain ⟨e9, t9, e8⟩ := r9); subst e9; subst e8; (simp only [List.cons_append, List.nil_append] at N9); clear l9; (try dsimp only); (try k_fold); (try k_sweep)) | (k_here; (with_reducible show wpAny _ _ (call (Value.ref 58) [Value.int _ _]) _ _ _); k_dflt (refine' Cut.use (c_to_tzolkin _ _ _ _ _ _) ?k1 ?k2 ?k3 ?k4 ?k6 ?k9 ?k7 ?k8 ?k5 ?kK ?kp ?kd ?ku ?_; (case k1 => k_asm); (case k2 => k_asm); (case k3 => k_asm); (case k4 => k_asm); (case k5 => k_asm); (case k7 => assumption); (case k6 => tb_rel); (case k9 => tb_start); (case k8 => assumption); (case kK => first | exact rfl | assumption); (case kp => (first | trivial | assumption | omega | l_fact)); (case kd => ktr_room); (case ku => ktr_units)); (intro v9 tl9 cc9 h9 g9 d9 tk9 r9 l9 hc9 F9 N9 G9); (obtain ⟨D9, t90, t91, c9, e9, e8⟩ := r9); subst e9; subst e8; (simp only [List.cons_append, List.nil_append] at N9); (replace l9 := fun q hq => l9 q hq _ (List.Mem.head _)); (try dsimp only at l9); (try k_lt l9); (try dsimp only); (try k_fold); (try k_sweep)) | (k_here; (with_reducible show wpAny _ _ (call (Value.ref 51) [Value.int _ _]) _ _ _); k_dflt (refine' Cut.use (c_to_haab _ _ _ _ _ _) ?k1 ?k2 ?k3 ?k4 ?k6 ?k9 ?k7 ?k8 ?k5 ?kK ?kp ?kd ?ku ?_; (case k1 => k_asm); (case k2 => k_asm); (case k3 => k_asm); (case k4 => k_asm); (case k5 => k_asm); (case k7 => assumption); (case k6 => tb_rel); (case k9 => tb_start); (case k8 => assumption); (case kK => first | exact rfl | assumption); (case kp => (first | trivial | assumption | omega | l_fact)); (case kd => ktr_room); (case ku => ktr_units)); (intro v9 tl9 cc9 h9 g9 d9 tk9 r9 l9 hc9 F9 N9 G9); (obtain ⟨D9, t90, t91, c9, e9, e8⟩ := r9); subst e9; subst e8; (simp only [List.cons_append, List.nil_append] at N9); (replace l9 := fun q hq => l9 q hq _ (List.Mem.head _)); (try dsimp only at l9); (try k_lt l9); (try dsimp only); (try k_fold); (try k_sweep))) | ((with_reducible show wpAny _ _ (leaving _ (Value.ref _)) _ _ _); first | (k_here; (rename RaisedSN _ _ _ _ _ _ _ => rX); k_dflt (refine' leave_past ?k1 ?kf ?k2 ?k3 ?k4 ?_; (case kf => exact rfl); (case k3 => exact rX); (case k2 => assumption); (case k1 => assumption); (case k4 => assumption); intro h' R' U'; (try dsimp only at R' U' ⊢))) | (k_here; first | ((rename Heap.NewExc _ _ _ _ => rX); k_dflt (refine' leave_made ?k1 ?kf ?kk ?k0 ?k2 ?k3 ?_; (case kf => exact rfl); (case kk => exact rfl); (case k0 => exact rX); (case k2 => assumption); (case k1 => assumption); (case k3 => k_asm); intro h' R' U'; (try dsimp only at R' U' ⊢))) | ((rename Heap.MadeExc _ _ _ _ _ => rX); k_dflt (refine' leave_made ?k1 ?kf ?kk ?k0 ?k2 ?k3 ?_; (case kf => exact rfl); (case kk => exact rfl); (case k0 => exact rX.newExc); (case k2 => assumption); (case k1 => assumption); (case k3 => k_asm); intro h' R' U'; (try dsimp only at R' U' ⊢))))) | ((with_reducible show wpAny _ _ (eval (Expr.Call (Expr.Name _ _) _ _ _) _) _ _ _); (k_here; refine Call_ ?_)) | walk1 | dsimp only | (leave1; try dsimp only))
  all_goals
    refine from_ok (by assumption) (by k_asm) (by assumption) excClass_IndexError excClass_KeyError (by assumption) (by assumption) (by assumption) (fun c1 q => nomatch q) (fun h2 M2 => ?_)
    exact threw_plain (by assumption) (by assumption) M2 (by k_asm) rfl (fun h3 R3 U3 => hret _ _ _ _ _ _ _ (raised_sub (raised_back (by assumption) R3) (fun q hq => by repeat (first | exact hq | refine List.Mem.tail _ ?_))) (by assumption) (upto_back (by assumption) U3) (by assumption) (by assumption))

end Mine
end
section
set_option maxRecDepth 100000
namespace Mine
section
variable {prog : Program} {w : World} {A₀ A : Around} {s : Shared} {base h₀ : Heap} {L a : Addr} {m : Str → Option Value} {env : Env} {news : List (Addr × Obj)} {K : Frag} {p : Program} {loose : List Str} {mean : ExcName → Option Value} {mg mb : Str → Option Value}
    {R : Result → Shared → Prop} {name qual : Str} {params : Arguments} {body : List Stmt} {scope : Scope} {dV kV doc pm cdv ct oc : Value} {an od : Option Addr} {osl : Array (Option Value)} {f : Addr} {args : Args} {binds : List (Str × Value)}
/-- a def that catches is entered from the lowest frame, a frame of any kind -/
theorem ask_enter (B : Below A₀ base [] h₀) (F : Fr h₀ L s.heap m) (X₀ : K.In h₀) (N : News h₀ L s.heap news) (T : Top p loose mean mg mb h₀) (hA : A.frames = some [env]) (hf : env.frame = some L) (hck : env.scope.kind = .function)
    (ho : K.lookup f = some ⟨oc, od, .func (fnOf name qual params body scope dV kV doc pm an cdv ct), osl⟩) (hcd : codeIn K cdv qual = true) (hroom : A.depth < recursionLimit)
    (hbind : BindsTo s (fnOf name qual params body scope dV kV doc pm an cdv ct) args binds) (hloc : ∀ y ∈ binds, scope.names.lookup y.1 = some .local)
    (h : ∀ g L' h₁, Fr h₀ L g m → Fr g L' h₁ (fun y => binds.reverse.lookup y) → News g L' h₁ news → Below A base [env] g → K.In g → Top p loose mean mg mb g → KtsDicts (frs [env]) g →
      wpAny (model prog w) (A.deeper (envOf qual scope L' f cdv)) (execs body (envOf qual scope L' f cdv))
        (fun fl s' => LeaveS0 (frs [env]) h₀ L m g R (match fl with | .ret v => v | _ => .none) s')
        (fun e s' => wpAny (model prog w) (A.deeper (envOf qual scope L' f cdv)) (leaving (envOf qual scope L' f cdv) e) (fun _ s'' => R (.error e) s'') (fun e' s'' => R (.error e') s'') s')
        { s with heap := h₁, toks := s.toks + binds.length })
    (hco : scope.isCoroutine = false) (hgen : scope.isGenerator = false) (hk : scope.kind = .function)
    (hcell : ∀ x ∈ scope.names, x.2 ≠ .cell) : codeAny (model prog w) A (.call (.ref f) args) R s := by
  obtain ⟨FG, BG, st, _⟩ := groundX (R := fun _ _ => True) B F N hA hf hck
  have X := X₀.keeps F.keep
  have L0 : h₀.get? L = none := kts_self F
  obtain ⟨oL, es, ep, hL, hLd, hLk, hLf⟩ := FG.ns
  refine codeAny_call_def (fd := fnOf name qual params body scope dV kV doc pm an cdv ct) (body := body) (binds := binds) hroom (X _ _ ho) rfl (T.nolimit.keeps F.keep) (codeRec_of X hcd) rfl hbind hcell hloc (fun h₁ hns hk₁ => ?_) hco hgen hk
  refine wpAny_mono (h _ s.heap.objs.size h₁ FG ⟨hns, fun b o e => hk₁ b o (of_hideAll _ e), Nat.le_of_eq (hideAll_size _ _)⟩
    (fun q hq => ⟨hk₁ _ _ (N q hq).1, Nat.ne_of_lt (Heap.lt_size (N q hq).1), hideAll_none _ (List.mem_map_of_mem hq)⟩) BG (X₀.keeps st) (T.keeps st) (kd_push ktsDicts_nil FG hf)) (fun fl s' hl => ?_) fun _ _ y => y
  obtain ⟨g', L', m', news', T', F', N', k⟩ := hl
  have apart : ∀ b o, h₀.get? b = some o → b ∉ frs [env] := fun b o q hm => by
    rcases frs_cons hf hm with z | z
    · rw [z, L0] at q; cases q
    · exact nomatch z
  obtain ⟨sl, hs⟩ := T'.up hL
  refine k ⟨⟨_, es, ep, F'.keep _ _ hs, hLd, hLk, hLf⟩, fun b o q => F'.keep b o (T'.other b o (st b o q) (apart b o q)), F.above⟩ fun q hq => ⟨(N' q hq).1, fun z => ?_, ?_⟩
  · have := (N' q hq).2.2; rw [z, hs] at this; cases this
  · cases z : h₀.get? q.1 with
    | none => rfl
    | some o => have := (N' q hq).2.2; rw [T'.other _ _ (st _ _ z) (apart _ _ z)] at this; cases this
end
abbrev RStr (X : Str) : Value → List (Addr × Obj) → Prop := fun v tl => tl = [] ∧ ∃ t, v = .str X t
/-- a call, from the lowest frame, of a def that catches what it meets -/
abbrev CutA (w : World) (mean : ExcName → Option Value) (mg mb : Str → Option Value) (n : Nat) (f : Addr) (vs : List Value) (cond : List (Addr × Obj) → Prop) (R : Value → List (Addr × Obj) → Prop) : Prop :=
  ∀ (dp un : Nat) (gd : Option (List Code)) (cn : Str) (cs : Scope) (a : Addr) (ccd : Value) (cl : List (Str × Addr)) (A₀ : Around) (base h₀ : Heap) (L : Addr) (m : Str → Option Value) (pre cc : List (Addr × Obj)) (s : Shared) (Q E : Value → Shared → Prop),
    Below A₀ base [] h₀ → Fr h₀ L s.heap m → (theK.heap_1 w.params).In h₀ → News h₀ L s.heap (pre ++ cc) → PreOk pre → CC cc → AllBare s.gens → Top p0 lo0 mean mg mb h₀ → cs.kind = .function → cond pre → dp + n < recursionLimit → un + 10 * n < cLine →
    (theK.heap_1 w.params).In base → Top p0 lo0 mean mg mb base → Ret h₀ L m pre s Q R →
      wpAny (model PySem.Challenge.rw_jb0005_01.row.prog w) (ktrTop dp un gd cn cs L a ccd cl []) (call (.ref f) vs) Q E s
theorem CutA.use {w : World} {mean : ExcName → Option Value} {mg mb : Str → Option Value} {n : Nat} {f : Addr} {vs : List Value} {cond : List (Addr × Obj) → Prop} {R : Value → List (Addr × Obj) → Prop}
    {dp un : Nat} {gd : Option (List Code)} {cn : Str} {cs : Scope} {a : Addr} {ccd : Value} {cl : List (Str × Addr)} {A₀ : Around} {base h₀ : Heap} {L : Addr} {m : Str → Option Value} {news pre cc : List (Addr × Obj)} {s : Shared} {Q E : Value → Shared → Prop}
    (C : CutA w mean mg mb n f vs cond R) (B : Below A₀ base [] h₀) (F : Fr h₀ L s.heap m) (I : (theK.heap_1 w.params).In h₀) (N : News h₀ L s.heap news) (S : Sp news pre cc) (hpo : PreOk pre) (hc : CC cc) (G : AllBare s.gens) (T : Top p0 lo0 mean mg mb h₀) (hk : cs.kind = .function) (hp : cond pre) (hdp : dp + n < recursionLimit) (hu : un + 10 * n < cLine)
    (I0 : (theK.heap_1 w.params).In base) (T0 : Top p0 lo0 mean mg mb base)
    (ret : Ret h₀ L m pre s Q R) : wpAny (model PySem.Challenge.rw_jb0005_01.row.prog w) (ktrTop dp un gd cn cs L a ccd cl []) (call (.ref f) vs) Q E s :=
  C _ _ _ _ _ _ _ _ _ _ _ _ _ _ _ _ _ _ B F I (S ▸ N) hpo hc G T hk hp hdp hu I0 T0 ret
end Mine
end
section
namespace Mine
set_option maxRecDepth 100000 in
set_option maxHeartbeats 8000000 in
theorem a3_low (w : World) (mean : ExcName → Option Value) (mg mb : Str → Option Value) (jd : Int) (vn vh : Value) (t u : Tok) :
    CutA w mean mg mb 8 135 [.int 3 t, vn, vh, .int jd u] (fun _ => jd < 584283) (RStr "ValueError") := by
  unfold CutA
  k_fill
  intro dp un gd cn cs a ccd cl A₀ base h₀ L m pre cc s Q E hB hF hK hN hO hC hG hT hk hp hd1 hu1 hI0 hT0 hret
  have hBT := And.intro hI0 hT0
  clear hI0 hT0
  refine wpAny_call ?_
  k_dflt (refine' ask_enter (env := envX cn cs L a ccd cl) ?k1 ?k2 ?k3 ?k4 ?k5 ?kA ?kf ?kK ?k6 ?k7 ?k8 ?k9 ?kB ?_ ?c2 ?c3 ?c4 ?c5; (case kA => exact rfl); (case kf => exact rfl); (case kK => first | exact rfl | assumption); (case k1 => assumption); (case k2 => assumption); (case k3 => assumption); (case k4 => assumption); (case k5 => assumption); (case k6 => k_is); (case k7 => k_is); (case k8 => ktr_room); (case k9 => exact BindsTo.of_eq rfl); (case c5 => decide); (case kB => exact locs rfl); (case c2 => exact rfl); (case c3 => exact rfl); (case c4 => exact rfl); k_whole; intro g' L' h' FG' F' N' B' X' T' D'; (try dsimp only); (try k_lift B'); (try k_fold))
  w_top off
  repeat' (first | (k_unfold; (try dsimp only)) | (k_end; wrow_close) | ((with_reducible show wpAny _ _ (call (Value.ref _) _) _ _ _); (k_here; (with_reducible show wpAny _ _ (call (Value.ref 44) [Value.int _ _]) _ _ _); k_dflt (refine' CutE.use (e_from_jd _ _ _ _ _ _) ?k1 ?k2 ?k3 ?k4 ?k6 ?k9 ?k7 ?k8 ?k5 ?kK ?kp ?kd ?ku ?kI ?kT ?kD ?_; (case k1 => k_asm); (case k2 => k_asm); (case k3 => k_asm); (case k4 => k_asm); (case k5 => k_asm); (case k7 => assumption); (case k6 => tb_rel); (case k9 => tb_start); (case k8 => assumption); (case kK => first | exact rfl | assumption); (case kp => assumption); (case kd => ktr_room); (case ku => ktr_units); (case kI => exact And.left (by assumption)); (case kT => exact And.right (by assumption)); (case kD => assumption)); (intro e9 cc9 G9 h9 g9 d9 tk9 R9 F9 U9 hc9 hg9); (try simp only [List.cons_append, List.nil_append] at R9); (try dsimp only); (try k_fold))) | ((with_reducible show wpAny _ _ (handleBy (Value.ref _) _ _) _ _ _); (k_here; (rename RaisedSN _ _ _ _ _ _ _ => rsX); first | (k_dflt (refine' pass_SN rsX ?F ?K ?U ?XB ?TB ?D ?T ?_; (case F => assumption); (case K => assumption); (case U => assumption); (case XB => exact And.left (by assumption)); (case TB => exact And.right (by assumption)); (case D => assumption); (case T => kts_test); k_whole); clear rsX; intro h' R' U'; (try dsimp only at R' U' ⊢)) | (k_dflt (refine' hit_SN0 rsX ?F ?K ?U ?XB ?TB ?D ?T0 ?T ?_; (case F => assumption); (case K => assumption); (case U => assumption); (case XB => exact And.left (by assumption)); (case TB => exact And.right (by assumption)); (case D => assumption); (case T0 => exact KtsTurn.refl); (case T => kts_test); k_whole); clear rsX; intro h' g' T' F' N' K' X' P' D'; (try k_lift K')))) | ((with_reducible show wpAny _ _ (noteFrame (Value.ref _) _) _ _ _); (k_here; (rename RaisedSN _ _ _ _ _ _ _ => rsX); k_dflt (refine' kts_lookSN rsX ?F ?K ?U ?D ?_; (case F => assumption); (case K => assumption); (case U => assumption); (case D => assumption); k_whole); clear rsX; intro h' R' U'; (try dsimp only at R' U' ⊢))) | ((with_reducible show wpAny _ _ (eval (Expr.Call (Expr.Name _ _) _ _ _) _) _ _ _); (k_here; refine Call_ ?_)) | walk1 | dsimp only | (leave1; try dsimp only))
  all_goals exact hret.of0 ⟨rfl, _, rfl⟩ (by assumption) (by k_asm) (by ktr_rel) (by assumption)
end Mine
end
section
namespace Mine
set_option maxRecDepth 100000 in
set_option maxHeartbeats 8000000 in
theorem a0_low (w : World) (mean : ExcName → Option Value) (mg mb : Str → Option Value) (v1 v2 : Value) (jd : Int) (t u : Tok) :
    CutA w mean mg mb 8 135 [.int 0 t, v1, v2, .int jd u] (fun _ => jd < 584283) (RStr "IndexError") := by
  unfold CutA
  k_fill
  intro dp un gd cn cs a ccd cl A₀ base h₀ L m pre cc s Q E hB hF hK hN hO hC hG hT hk hp hd1 hu1 hI0 hT0 hret
  have hBT := And.intro hI0 hT0
  clear hI0 hT0
  refine wpAny_call ?_
  k_dflt (refine' ask_enter (env := envX cn cs L a ccd cl) ?k1 ?k2 ?k3 ?k4 ?k5 ?kA ?kf ?kK ?k6 ?k7 ?k8 ?k9 ?kB ?_ ?c2 ?c3 ?c4 ?c5; (case kA => exact rfl); (case kf => exact rfl); (case kK => first | exact rfl | assumption); (case k1 => assumption); (case k2 => assumption); (case k3 => assumption); (case k4 => assumption); (case k5 => assumption); (case k6 => k_is); (case k7 => k_is); (case k8 => ktr_room); (case k9 => exact BindsTo.of_eq rfl); (case c5 => decide); (case kB => exact locs rfl); (case c2 => exact rfl); (case c3 => exact rfl); (case c4 => exact rfl); k_whole; intro g' L' h' FG' F' N' B' X' T' D'; (try dsimp only); (try k_lift B'); (try k_fold))
  w_top off
  repeat' (first | (k_unfold; (try dsimp only)) | (k_end; wrow_close) | ((with_reducible show wpAny _ _ (call (Value.ref _) _) _ _ _); (k_here; (with_reducible show wpAny _ _ (call (Value.ref 107) [_, Value.int _ _]) _ _ _); k_dflt (refine' CutE.use (e_nt_low _ _ _ _ _ _ _) ?k1 ?k2 ?k3 ?k4 ?k6 ?k9 ?k7 ?k8 ?k5 ?kK ?kp ?kd ?ku ?kI ?kT ?kD ?_; (case k1 => k_asm); (case k2 => k_asm); (case k3 => k_asm); (case k4 => k_asm); (case k5 => k_asm); (case k7 => assumption); (case k6 => tb_rel); (case k9 => tb_start); (case k8 => assumption); (case kK => first | exact rfl | assumption); (case kp => assumption); (case kd => ktr_room); (case ku => ktr_units); (case kI => exact And.left (by assumption)); (case kT => exact And.right (by assumption)); (case kD => assumption)); (intro e9 cc9 G9 h9 g9 d9 tk9 R9 F9 U9 hc9 hg9); (try simp only [List.cons_append, List.nil_append] at R9); (try dsimp only); (try k_fold))) | ((with_reducible show wpAny _ _ (handleBy (Value.ref _) _ _) _ _ _); (k_here; (rename RaisedSN _ _ _ _ _ _ _ => rsX); first | (k_dflt (refine' pass_SN rsX ?F ?K ?U ?XB ?TB ?D ?T ?_; (case F => assumption); (case K => assumption); (case U => assumption); (case XB => exact And.left (by assumption)); (case TB => exact And.right (by assumption)); (case D => assumption); (case T => kts_test); k_whole); clear rsX; intro h' R' U'; (try dsimp only at R' U' ⊢)) | (k_dflt (refine' hit_SN0 rsX ?F ?K ?U ?XB ?TB ?D ?T0 ?T ?_; (case F => assumption); (case K => assumption); (case U => assumption); (case XB => exact And.left (by assumption)); (case TB => exact And.right (by assumption)); (case D => assumption); (case T0 => exact KtsTurn.refl); (case T => kts_test); k_whole); clear rsX; intro h' g' T' F' N' K' X' P' D'; (try k_lift K')))) | ((with_reducible show wpAny _ _ (noteFrame (Value.ref _) _) _ _ _); (k_here; (rename RaisedSN _ _ _ _ _ _ _ => rsX); k_dflt (refine' kts_lookSN rsX ?F ?K ?U ?D ?_; (case F => assumption); (case K => assumption); (case U => assumption); (case D => assumption); k_whole); clear rsX; intro h' R' U'; (try dsimp only at R' U' ⊢))) | ((with_reducible show wpAny _ _ (eval (Expr.Call (Expr.Name _ _) _ _ _) _) _ _ _); (k_here; refine Call_ ?_)) | walk1 | dsimp only | (leave1; try dsimp only))
  all_goals exact hret.of0 ⟨rfl, _, rfl⟩ (by assumption) (by k_asm) (by ktr_rel) (by assumption)
end Mine
end
section
namespace Mine
set_option maxRecDepth 100000 in
set_option maxHeartbeats 8000000 in
theorem a0_day (w : World) (mean : ExcName → Option Value) (mg mb : Str → Option Value) (d : Int) (nm : Str) (v2 : Value) (D1 : Addr) (t1 t2 : Tok) (c1 : Nat) (jd : Int) (t u : Tok) :
    CutA w mean mg mb 8 135 [.int 0 t, .ref D1, v2, .int jd u] (fun pre => 584283 ≤ jd ∧ (d < 1 ∨ 13 < d) ∧ (D1, tupO [.int d t1, .str nm t2] c1) ∈ pre) (RStr "IndexError") := by
  unfold CutA
  k_fill
  intro dp un gd cn cs a ccd cl A₀ base h₀ L m pre cc s Q E hB hF hK hN hO hC hG hT hk hp hd1 hu1 hI0 hT0 hret
  have hBT := And.intro hI0 hT0
  clear hI0 hT0
  refine wpAny_call ?_
  k_dflt (refine' ask_enter (env := envX cn cs L a ccd cl) ?k1 ?k2 ?k3 ?k4 ?k5 ?kA ?kf ?kK ?k6 ?k7 ?k8 ?k9 ?kB ?_ ?c2 ?c3 ?c4 ?c5; (case kA => exact rfl); (case kf => exact rfl); (case kK => first | exact rfl | assumption); (case k1 => assumption); (case k2 => assumption); (case k3 => assumption); (case k4 => assumption); (case k5 => assumption); (case k6 => k_is); (case k7 => k_is); (case k8 => ktr_room); (case k9 => exact BindsTo.of_eq rfl); (case c5 => decide); (case kB => exact locs rfl); (case c2 => exact rfl); (case c3 => exact rfl); (case c4 => exact rfl); k_whole; intro g' L' h' FG' F' N' B' X' T' D'; (try dsimp only); (try k_lift B'); (try k_fold))
  obtain ⟨q0, q1, q2⟩ := hp
  w_top off
  repeat' (first | (k_unfold; (try dsimp only)) | (k_end; wrow_close) | ((with_reducible show wpAny _ _ (call (Value.ref _) _) _ _ _); (k_here; (with_reducible show wpAny _ _ (call (Value.ref 107) [_, Value.int _ _]) _ _ _); k_dflt (refine' CutE.use (e_nt_day _ _ _ _ _ _ _ _ _ _ _ _) ?k1 ?k2 ?k3 ?k4 ?k6 ?k9 ?k7 ?k8 ?k5 ?kK ?kp ?kd ?ku ?kI ?kT ?kD ?_; (case k1 => k_asm); (case k2 => k_asm); (case k3 => k_asm); (case k4 => k_asm); (case k5 => k_asm); (case k7 => assumption); (case k6 => tb_rel); (case k9 => tb_start); (case k8 => assumption); (case kK => first | exact rfl | assumption); (case kp => exact ⟨(by first | assumption | omega), (by first | assumption | omega), (by first | assumption | omega)⟩); (case kd => ktr_room); (case ku => ktr_units); (case kI => exact And.left (by assumption)); (case kT => exact And.right (by assumption)); (case kD => assumption)); (intro e9 cc9 G9 h9 g9 d9 tk9 R9 F9 U9 hc9 hg9); (try simp only [List.cons_append, List.nil_append] at R9); (try dsimp only); (try k_fold))) | ((with_reducible show wpAny _ _ (handleBy (Value.ref _) _ _) _ _ _); (k_here; (rename RaisedSN _ _ _ _ _ _ _ => rsX); first | (k_dflt (refine' pass_SN rsX ?F ?K ?U ?XB ?TB ?D ?T ?_; (case F => assumption); (case K => assumption); (case U => assumption); (case XB => exact And.left (by assumption)); (case TB => exact And.right (by assumption)); (case D => assumption); (case T => kts_test); k_whole); clear rsX; intro h' R' U'; (try dsimp only at R' U' ⊢)) | (k_dflt (refine' hit_SN0 rsX ?F ?K ?U ?XB ?TB ?D ?T0 ?T ?_; (case F => assumption); (case K => assumption); (case U => assumption); (case XB => exact And.left (by assumption)); (case TB => exact And.right (by assumption)); (case D => assumption); (case T0 => exact KtsTurn.refl); (case T => kts_test); k_whole); clear rsX; intro h' g' T' F' N' K' X' P' D'; (try k_lift K')))) | ((with_reducible show wpAny _ _ (noteFrame (Value.ref _) _) _ _ _); (k_here; (rename RaisedSN _ _ _ _ _ _ _ => rsX); k_dflt (refine' kts_lookSN rsX ?F ?K ?U ?D ?_; (case F => assumption); (case K => assumption); (case U => assumption); (case D => assumption); k_whole); clear rsX; intro h' R' U'; (try dsimp only at R' U' ⊢))) | ((with_reducible show wpAny _ _ (eval (Expr.Call (Expr.Name _ _) _ _ _) _) _ _ _); (k_here; refine Call_ ?_)) | walk1 | dsimp only | (leave1; try dsimp only))
  all_goals exact hret.of0 ⟨rfl, _, rfl⟩ (by assumption) (by k_asm) (by ktr_rel) (by assumption)
end Mine
end
section
namespace Mine
set_option maxRecDepth 100000 in
set_option maxHeartbeats 8000000 in
theorem a0_nob (w : World) (mean : ExcName → Option Value) (mg mb : Str → Option Value) (d : Int) (v2 : Value) (D1 : Addr) (t1 t2 : Tok) (c1 : Nat) (jd : Int) (t u : Tok) :
    CutA w mean mg mb 8 135 [.int 0 t, .ref D1, v2, .int jd u] (fun pre => 584283 ≤ jd ∧ 1 ≤ d ∧ d ≤ 13 ∧ (D1, tupO [.int d t1, .str "Nobody" t2] c1) ∈ pre) (RStr "ValueError") := by
  unfold CutA
  k_fill
  intro dp un gd cn cs a ccd cl A₀ base h₀ L m pre cc s Q E hB hF hK hN hO hC hG hT hk hp hd1 hu1 hI0 hT0 hret
  have hBT := And.intro hI0 hT0
  clear hI0 hT0
  refine wpAny_call ?_
  k_dflt (refine' ask_enter (env := envX cn cs L a ccd cl) ?k1 ?k2 ?k3 ?k4 ?k5 ?kA ?kf ?kK ?k6 ?k7 ?k8 ?k9 ?kB ?_ ?c2 ?c3 ?c4 ?c5; (case kA => exact rfl); (case kf => exact rfl); (case kK => first | exact rfl | assumption); (case k1 => assumption); (case k2 => assumption); (case k3 => assumption); (case k4 => assumption); (case k5 => assumption); (case k6 => k_is); (case k7 => k_is); (case k8 => ktr_room); (case k9 => exact BindsTo.of_eq rfl); (case c5 => decide); (case kB => exact locs rfl); (case c2 => exact rfl); (case c3 => exact rfl); (case c4 => exact rfl); k_whole; intro g' L' h' FG' F' N' B' X' T' D'; (try dsimp only); (try k_lift B'); (try k_fold))
  obtain ⟨q0, q1, q2, q3⟩ := hp
  w_top off
  repeat' (first | (k_unfold; (try dsimp only)) | (k_end; wrow_close) | ((with_reducible show wpAny _ _ (call (Value.ref _) _) _ _ _); (k_here; (with_reducible show wpAny _ _ (call (Value.ref 107) [_, Value.int _ _]) _ _ _); k_dflt (refine' CutE.use (e_nt_nob _ _ _ _ _ _ _ _ _ _ _) ?k1 ?k2 ?k3 ?k4 ?k6 ?k9 ?k7 ?k8 ?k5 ?kK ?kp ?kd ?ku ?kI ?kT ?kD ?_; (case k1 => k_asm); (case k2 => k_asm); (case k3 => k_asm); (case k4 => k_asm); (case k5 => k_asm); (case k7 => assumption); (case k6 => tb_rel); (case k9 => tb_start); (case k8 => assumption); (case kK => first | exact rfl | assumption); (case kp => exact ⟨(by first | assumption | omega), (by first | assumption | omega), (by first | assumption | omega), (by first | assumption | omega)⟩); (case kd => ktr_room); (case ku => ktr_units); (case kI => exact And.left (by assumption)); (case kT => exact And.right (by assumption)); (case kD => assumption)); (intro e9 cc9 G9 h9 g9 d9 tk9 R9 F9 U9 hc9 hg9); (try simp only [List.cons_append, List.nil_append] at R9); (try dsimp only); (try k_fold))) | ((with_reducible show wpAny _ _ (handleBy (Value.ref _) _ _) _ _ _); (k_here; (rename RaisedSN _ _ _ _ _ _ _ => rsX); first | (k_dflt (refine' pass_SN rsX ?F ?K ?U ?XB ?TB ?D ?T ?_; (case F => assumption); (case K => assumption); (case U => assumption); (case XB => exact And.left (by assumption)); (case TB => exact And.right (by assumption)); (case D => assumption); (case T => kts_test); k_whole); clear rsX; intro h' R' U'; (try dsimp only at R' U' ⊢)) | (k_dflt (refine' hit_SN0 rsX ?F ?K ?U ?XB ?TB ?D ?T0 ?T ?_; (case F => assumption); (case K => assumption); (case U => assumption); (case XB => exact And.left (by assumption)); (case TB => exact And.right (by assumption)); (case D => assumption); (case T0 => exact KtsTurn.refl); (case T => kts_test); k_whole); clear rsX; intro h' g' T' F' N' K' X' P' D'; (try k_lift K')))) | ((with_reducible show wpAny _ _ (noteFrame (Value.ref _) _) _ _ _); (k_here; (rename RaisedSN _ _ _ _ _ _ _ => rsX); k_dflt (refine' kts_lookSN rsX ?F ?K ?U ?D ?_; (case F => assumption); (case K => assumption); (case U => assumption); (case D => assumption); k_whole); clear rsX; intro h' R' U'; (try dsimp only at R' U' ⊢))) | ((with_reducible show wpAny _ _ (eval (Expr.Call (Expr.Name _ _) _ _ _) _) _ _ _); (k_here; refine Call_ ?_)) | walk1 | dsimp only | (leave1; try dsimp only))
  all_goals exact hret.of0 ⟨rfl, _, rfl⟩ (by assumption) (by k_asm) (by ktr_rel) (by assumption)
end Mine
end
section
namespace Mine
set_option maxRecDepth 100000 in
set_option maxHeartbeats 8000000 in
theorem a0_ok (w : World) (mean : ExcName → Option Value) (mg mb : Str → Option Value) (d i : Int) (v2 : Value) (D1 : Addr) (t1 t2 : Tok) (c1 : Nat) (jd : Int) (t u : Tok) :
    CutA w mean mg mb 8 135 [.int 0 t, .ref D1, v2, .int jd u] (fun pre => 584283 ≤ jd ∧ 1 ≤ d ∧ d ≤ 13 ∧ 0 ≤ i ∧ i < 20 ∧ (D1, tupO [.int d t1, .str (tzS i) t2] c1) ∈ pre) (RInt (jd + (tcF d i - tcF (tDay (jd - 584283)) (tNam (jd - 584283))) % 260)) := by
  unfold CutA
  k_fill
  intro dp un gd cn cs a ccd cl A₀ base h₀ L m pre cc s Q E hB hF hK hN hO hC hG hT hk hp hd1 hu1 hI0 hT0 hret
  have hBT := And.intro hI0 hT0
  clear hI0 hT0
  refine wpAny_call ?_
  k_dflt (refine' ask_enter (env := envX cn cs L a ccd cl) ?k1 ?k2 ?k3 ?k4 ?k5 ?kA ?kf ?kK ?k6 ?k7 ?k8 ?k9 ?kB ?_ ?c2 ?c3 ?c4 ?c5; (case kA => exact rfl); (case kf => exact rfl); (case kK => first | exact rfl | assumption); (case k1 => assumption); (case k2 => assumption); (case k3 => assumption); (case k4 => assumption); (case k5 => assumption); (case k6 => k_is); (case k7 => k_is); (case k8 => ktr_room); (case k9 => exact BindsTo.of_eq rfl); (case c5 => decide); (case kB => exact locs rfl); (case c2 => exact rfl); (case c3 => exact rfl); (case c4 => exact rfl); k_whole; intro g' L' h' FG' F' N' B' X' T' D'; (try dsimp only); (try k_lift B'); (try k_fold))
  obtain ⟨q0, q1, q2, q3, q4, q5⟩ := hp
  w_top off
  repeat' (first | (k_unfold; (try dsimp only)) | (k_end; wrow_close) | ((with_reducible show wpAny _ _ (call (Value.ref _) _) _ _ _); (k_here; (with_reducible show wpAny _ _ (call (Value.ref 107) [_, Value.int _ _]) _ _ _); k_dflt (refine' Cut.use (c_next_tz _ _ _ _ _ _ _ _ _ _ _ _) ?k1 ?k2 ?k3 ?k4 ?k6 ?k9 ?k7 ?k8 ?k5 ?kK ?kp ?kd ?ku ?_; (case k1 => k_asm); (case k2 => k_asm); (case k3 => k_asm); (case k4 => k_asm); (case k5 => k_asm); (case k7 => assumption); (case k6 => tb_rel); (case k9 => tb_start); (case k8 => assumption); (case kK => first | exact rfl | assumption); (case kp => exact ⟨(by first | assumption | omega), (by first | assumption | omega), (by first | assumption | omega), (by first | assumption | omega), (by first | assumption | omega), (by first | assumption | omega)⟩); (case kd => ktr_room); (case ku => ktr_units)); (intro v9 tl9 cc9 h9 g9 d9 tk9 r9 l9 hc9 F9 N9 G9); (obtain ⟨e9, t9, e8⟩ := r9); subst e9; subst e8; (simp only [List.cons_append, List.nil_append] at N9); clear l9; (try dsimp only); (try k_fold); (try k_sweep))) | ((with_reducible show wpAny _ _ (handleBy (Value.ref _) _ _) _ _ _); (k_here; (rename RaisedSN _ _ _ _ _ _ _ => rsX); first | (k_dflt (refine' pass_SN rsX ?F ?K ?U ?XB ?TB ?D ?T ?_; (case F => assumption); (case K => assumption); (case U => assumption); (case XB => exact And.left (by assumption)); (case TB => exact And.right (by assumption)); (case D => assumption); (case T => kts_test); k_whole); clear rsX; intro h' R' U'; (try dsimp only at R' U' ⊢)) | (k_dflt (refine' hit_SN0 rsX ?F ?K ?U ?XB ?TB ?D ?T0 ?T ?_; (case F => assumption); (case K => assumption); (case U => assumption); (case XB => exact And.left (by assumption)); (case TB => exact And.right (by assumption)); (case D => assumption); (case T0 => exact KtsTurn.refl); (case T => kts_test); k_whole); clear rsX; intro h' g' T' F' N' K' X' P' D'; (try k_lift K')))) | ((with_reducible show wpAny _ _ (noteFrame (Value.ref _) _) _ _ _); (k_here; (rename RaisedSN _ _ _ _ _ _ _ => rsX); k_dflt (refine' kts_lookSN rsX ?F ?K ?U ?D ?_; (case F => assumption); (case K => assumption); (case U => assumption); (case D => assumption); k_whole); clear rsX; intro h' R' U'; (try dsimp only at R' U' ⊢))) | ((with_reducible show wpAny _ _ (eval (Expr.Call (Expr.Name _ _) _ _ _) _) _ _ _); (k_here; refine Call_ ?_)) | walk1 | dsimp only | (leave1; try dsimp only))
  all_goals exact hret.of0 ⟨rfl, _, rfl⟩ (by assumption) (by k_asm) (by ktr_rel) (by assumption)
end Mine
end
section
namespace Mine
set_option maxRecDepth 100000 in
set_option maxHeartbeats 8000000 in
theorem a1_low (w : World) (mean : ExcName → Option Value) (mg mb : Str → Option Value) (e : Int) (nm : Str) (v1 : Value) (D2 : Addr) (t3 t4 : Tok) (c2 : Nat) (jd : Int) (t u : Tok) :
    CutA w mean mg mb 8 135 [.int 1 t, v1, .ref D2, .int jd u] (fun pre => jd < 584283 ∧ (D2, tupO [.int e t3, .str nm t4] c2) ∈ pre) (RStr "IndexError") := by
  unfold CutA
  k_fill
  intro dp un gd cn cs a ccd cl A₀ base h₀ L m pre cc s Q E hB hF hK hN hO hC hG hT hk hp hd1 hu1 hI0 hT0 hret
  have hBT := And.intro hI0 hT0
  clear hI0 hT0
  refine wpAny_call ?_
  k_dflt (refine' ask_enter (env := envX cn cs L a ccd cl) ?k1 ?k2 ?k3 ?k4 ?k5 ?kA ?kf ?kK ?k6 ?k7 ?k8 ?k9 ?kB ?_ ?c2 ?c3 ?c4 ?c5; (case kA => exact rfl); (case kf => exact rfl); (case kK => first | exact rfl | assumption); (case k1 => assumption); (case k2 => assumption); (case k3 => assumption); (case k4 => assumption); (case k5 => assumption); (case k6 => k_is); (case k7 => k_is); (case k8 => ktr_room); (case k9 => exact BindsTo.of_eq rfl); (case c5 => decide); (case kB => exact locs rfl); (case c2 => exact rfl); (case c3 => exact rfl); (case c4 => exact rfl); k_whole; intro g' L' h' FG' F' N' B' X' T' D'; (try dsimp only); (try k_lift B'); (try k_fold))
  obtain ⟨q0, q1⟩ := hp
  w_top off
  repeat' (first | (k_unfold; (try dsimp only)) | (k_end; wrow_close) | ((with_reducible show wpAny _ _ (call (Value.ref _) _) _ _ _); (k_here; (with_reducible show wpAny _ _ (call (Value.ref 100) [_, Value.int _ _]) _ _ _); k_dflt (refine' CutE.use (e_nh_low _ _ _ _ _ _ _) ?k1 ?k2 ?k3 ?k4 ?k6 ?k9 ?k7 ?k8 ?k5 ?kK ?kp ?kd ?ku ?kI ?kT ?kD ?_; (case k1 => k_asm); (case k2 => k_asm); (case k3 => k_asm); (case k4 => k_asm); (case k5 => k_asm); (case k7 => assumption); (case k6 => tb_rel); (case k9 => tb_start); (case k8 => assumption); (case kK => first | exact rfl | assumption); (case kp => assumption); (case kd => ktr_room); (case ku => ktr_units); (case kI => exact And.left (by assumption)); (case kT => exact And.right (by assumption)); (case kD => assumption)); (intro e9 cc9 G9 h9 g9 d9 tk9 R9 F9 U9 hc9 hg9); (try simp only [List.cons_append, List.nil_append] at R9); (try dsimp only); (try k_fold))) | ((with_reducible show wpAny _ _ (handleBy (Value.ref _) _ _) _ _ _); (k_here; (rename RaisedSN _ _ _ _ _ _ _ => rsX); first | (k_dflt (refine' pass_SN rsX ?F ?K ?U ?XB ?TB ?D ?T ?_; (case F => assumption); (case K => assumption); (case U => assumption); (case XB => exact And.left (by assumption)); (case TB => exact And.right (by assumption)); (case D => assumption); (case T => kts_test); k_whole); clear rsX; intro h' R' U'; (try dsimp only at R' U' ⊢)) | (k_dflt (refine' hit_SN0 rsX ?F ?K ?U ?XB ?TB ?D ?T0 ?T ?_; (case F => assumption); (case K => assumption); (case U => assumption); (case XB => exact And.left (by assumption)); (case TB => exact And.right (by assumption)); (case D => assumption); (case T0 => exact KtsTurn.refl); (case T => kts_test); k_whole); clear rsX; intro h' g' T' F' N' K' X' P' D'; (try k_lift K')))) | ((with_reducible show wpAny _ _ (noteFrame (Value.ref _) _) _ _ _); (k_here; (rename RaisedSN _ _ _ _ _ _ _ => rsX); k_dflt (refine' kts_lookSN rsX ?F ?K ?U ?D ?_; (case F => assumption); (case K => assumption); (case U => assumption); (case D => assumption); k_whole); clear rsX; intro h' R' U'; (try dsimp only at R' U' ⊢))) | ((with_reducible show wpAny _ _ (eval (Expr.Call (Expr.Name _ _) _ _ _) _) _ _ _); (k_here; refine Call_ ?_)) | walk1 | dsimp only | (leave1; try dsimp only))
  all_goals exact hret.of0 ⟨rfl, _, rfl⟩ (by assumption) (by k_asm) (by ktr_rel) (by assumption)
end Mine
end
section
namespace Mine
set_option maxRecDepth 100000 in
set_option maxHeartbeats 8000000 in
theorem a1_nob (w : World) (mean : ExcName → Option Value) (mg mb : Str → Option Value) (e : Int) (v1 : Value) (D2 : Addr) (t3 t4 : Tok) (c2 : Nat) (jd : Int) (t u : Tok) :
    CutA w mean mg mb 8 135 [.int 1 t, v1, .ref D2, .int jd u] (fun pre => 584283 ≤ jd ∧ (D2, tupO [.int e t3, .str "Nobody" t4] c2) ∈ pre) (RStr "ValueError") := by
  unfold CutA
  k_fill
  intro dp un gd cn cs a ccd cl A₀ base h₀ L m pre cc s Q E hB hF hK hN hO hC hG hT hk hp hd1 hu1 hI0 hT0 hret
  have hBT := And.intro hI0 hT0
  clear hI0 hT0
  refine wpAny_call ?_
  k_dflt (refine' ask_enter (env := envX cn cs L a ccd cl) ?k1 ?k2 ?k3 ?k4 ?k5 ?kA ?kf ?kK ?k6 ?k7 ?k8 ?k9 ?kB ?_ ?c2 ?c3 ?c4 ?c5; (case kA => exact rfl); (case kf => exact rfl); (case kK => first | exact rfl | assumption); (case k1 => assumption); (case k2 => assumption); (case k3 => assumption); (case k4 => assumption); (case k5 => assumption); (case k6 => k_is); (case k7 => k_is); (case k8 => ktr_room); (case k9 => exact BindsTo.of_eq rfl); (case c5 => decide); (case kB => exact locs rfl); (case c2 => exact rfl); (case c3 => exact rfl); (case c4 => exact rfl); k_whole; intro g' L' h' FG' F' N' B' X' T' D'; (try dsimp only); (try k_lift B'); (try k_fold))
  obtain ⟨q0, q1⟩ := hp
  w_top off
  repeat' (first | (k_unfold; (try dsimp only)) | (k_end; wrow_close) | ((with_reducible show wpAny _ _ (call (Value.ref _) _) _ _ _); (k_here; (with_reducible show wpAny _ _ (call (Value.ref 100) [_, Value.int _ _]) _ _ _); k_dflt (refine' CutE.use (e_nh_nob _ _ _ _ _ _ _) ?k1 ?k2 ?k3 ?k4 ?k6 ?k9 ?k7 ?k8 ?k5 ?kK ?kp ?kd ?ku ?kI ?kT ?kD ?_; (case k1 => k_asm); (case k2 => k_asm); (case k3 => k_asm); (case k4 => k_asm); (case k5 => k_asm); (case k7 => assumption); (case k6 => tb_rel); (case k9 => tb_start); (case k8 => assumption); (case kK => first | exact rfl | assumption); (case kp => assumption); (case kd => ktr_room); (case ku => ktr_units); (case kI => exact And.left (by assumption)); (case kT => exact And.right (by assumption)); (case kD => assumption)); (intro e9 cc9 G9 h9 g9 d9 tk9 R9 F9 U9 hc9 hg9); (try simp only [List.cons_append, List.nil_append] at R9); (try dsimp only); (try k_fold))) | ((with_reducible show wpAny _ _ (handleBy (Value.ref _) _ _) _ _ _); (k_here; (rename RaisedSN _ _ _ _ _ _ _ => rsX); first | (k_dflt (refine' pass_SN rsX ?F ?K ?U ?XB ?TB ?D ?T ?_; (case F => assumption); (case K => assumption); (case U => assumption); (case XB => exact And.left (by assumption)); (case TB => exact And.right (by assumption)); (case D => assumption); (case T => kts_test); k_whole); clear rsX; intro h' R' U'; (try dsimp only at R' U' ⊢)) | (k_dflt (refine' hit_SN0 rsX ?F ?K ?U ?XB ?TB ?D ?T0 ?T ?_; (case F => assumption); (case K => assumption); (case U => assumption); (case XB => exact And.left (by assumption)); (case TB => exact And.right (by assumption)); (case D => assumption); (case T0 => exact KtsTurn.refl); (case T => kts_test); k_whole); clear rsX; intro h' g' T' F' N' K' X' P' D'; (try k_lift K')))) | ((with_reducible show wpAny _ _ (noteFrame (Value.ref _) _) _ _ _); (k_here; (rename RaisedSN _ _ _ _ _ _ _ => rsX); k_dflt (refine' kts_lookSN rsX ?F ?K ?U ?D ?_; (case F => assumption); (case K => assumption); (case U => assumption); (case D => assumption); k_whole); clear rsX; intro h' R' U'; (try dsimp only at R' U' ⊢))) | ((with_reducible show wpAny _ _ (eval (Expr.Call (Expr.Name _ _) _ _ _) _) _ _ _); (k_here; refine Call_ ?_)) | walk1 | dsimp only | (leave1; try dsimp only))
  all_goals exact hret.of0 ⟨rfl, _, rfl⟩ (by assumption) (by k_asm) (by ktr_rel) (by assumption)
end Mine
end
section
namespace Mine
set_option maxRecDepth 100000 in
set_option maxHeartbeats 8000000 in
theorem a1_ok (w : World) (mean : ExcName → Option Value) (mg mb : Str → Option Value) (e j : Int) (v1 : Value) (D2 : Addr) (t3 t4 : Tok) (c2 : Nat) (jd : Int) (t u : Tok) :
    CutA w mean mg mb 8 135 [.int 1 t, v1, .ref D2, .int jd u] (fun pre => 584283 ≤ jd ∧ 0 ≤ j ∧ j < 19 ∧ (D2, tupO [.int e t3, .str (haabS j) t4] c2) ∈ pre) (RInt (jd + (if hMon (jd - 584283) = j then 1 - hDay (jd - 584283) else (20 * j + 1 - (20 * hMon (jd - 584283) + hDay (jd - 584283))) % 365))) := by
  unfold CutA
  k_fill
  intro dp un gd cn cs a ccd cl A₀ base h₀ L m pre cc s Q E hB hF hK hN hO hC hG hT hk hp hd1 hu1 hI0 hT0 hret
  have hBT := And.intro hI0 hT0
  clear hI0 hT0
  refine wpAny_call ?_
  k_dflt (refine' ask_enter (env := envX cn cs L a ccd cl) ?k1 ?k2 ?k3 ?k4 ?k5 ?kA ?kf ?kK ?k6 ?k7 ?k8 ?k9 ?kB ?_ ?c2 ?c3 ?c4 ?c5; (case kA => exact rfl); (case kf => exact rfl); (case kK => first | exact rfl | assumption); (case k1 => assumption); (case k2 => assumption); (case k3 => assumption); (case k4 => assumption); (case k5 => assumption); (case k6 => k_is); (case k7 => k_is); (case k8 => ktr_room); (case k9 => exact BindsTo.of_eq rfl); (case c5 => decide); (case kB => exact locs rfl); (case c2 => exact rfl); (case c3 => exact rfl); (case c4 => exact rfl); k_whole; intro g' L' h' FG' F' N' B' X' T' D'; (try dsimp only); (try k_lift B'); (try k_fold))
  obtain ⟨q0, q1, q2, q3⟩ := hp
  w_top off
  repeat' (first | (k_unfold; (try dsimp only)) | (k_end; wrow_close) | ((with_reducible show wpAny _ _ (call (Value.ref _) _) _ _ _); (k_here; (with_reducible show wpAny _ _ (call (Value.ref 100) [_, Value.int _ _]) _ _ _); k_dflt (refine' Cut.use (c_next_haab _ _ _ _ _ _ _ _) ?k1 ?k2 ?k3 ?k4 ?k6 ?k9 ?k7 ?k8 ?k5 ?kK ?kp ?kd ?ku ?_; (case k1 => k_asm); (case k2 => k_asm); (case k3 => k_asm); (case k4 => k_asm); (case k5 => k_asm); (case k7 => assumption); (case k6 => tb_rel); (case k9 => tb_start); (case k8 => assumption); (case kK => first | exact rfl | assumption); (case kp => exact ⟨(by first | assumption | omega), (by first | assumption | omega), (by first | assumption | omega)⟩); (case kd => ktr_room); (case ku => ktr_units)); (intro v9 tl9 cc9 h9 g9 d9 tk9 r9 l9 hc9 F9 N9 G9); (obtain ⟨e9, t9, e8⟩ := r9); subst e9; subst e8; (simp only [List.cons_append, List.nil_append] at N9); clear l9; (try dsimp only); (try k_fold); (try k_sweep))) | ((with_reducible show wpAny _ _ (handleBy (Value.ref _) _ _) _ _ _); (k_here; (rename RaisedSN _ _ _ _ _ _ _ => rsX); first | (k_dflt (refine' pass_SN rsX ?F ?K ?U ?XB ?TB ?D ?T ?_; (case F => assumption); (case K => assumption); (case U => assumption); (case XB => exact And.left (by assumption)); (case TB => exact And.right (by assumption)); (case D => assumption); (case T => kts_test); k_whole); clear rsX; intro h' R' U'; (try dsimp only at R' U' ⊢)) | (k_dflt (refine' hit_SN0 rsX ?F ?K ?U ?XB ?TB ?D ?T0 ?T ?_; (case F => assumption); (case K => assumption); (case U => assumption); (case XB => exact And.left (by assumption)); (case TB => exact And.right (by assumption)); (case D => assumption); (case T0 => exact KtsTurn.refl); (case T => kts_test); k_whole); clear rsX; intro h' g' T' F' N' K' X' P' D'; (try k_lift K')))) | ((with_reducible show wpAny _ _ (noteFrame (Value.ref _) _) _ _ _); (k_here; (rename RaisedSN _ _ _ _ _ _ _ => rsX); k_dflt (refine' kts_lookSN rsX ?F ?K ?U ?D ?_; (case F => assumption); (case K => assumption); (case U => assumption); (case D => assumption); k_whole); clear rsX; intro h' R' U'; (try dsimp only at R' U' ⊢))) | ((with_reducible show wpAny _ _ (eval (Expr.Call (Expr.Name _ _) _ _ _) _) _ _ _); (k_here; refine Call_ ?_)) | walk1 | dsimp only | (leave1; try dsimp only))
  all_goals exact hret.of0 ⟨rfl, _, rfl⟩ (by assumption) (by k_asm) (by ktr_rel) (by assumption)
end Mine
end
section
namespace Mine
set_option maxRecDepth 100000 in
set_option maxHeartbeats 8000000 in
theorem a2_hday (w : World) (mean : ExcName → Option Value) (mg mb : Str → Option Value) (e : Int) (nm : Str) (v1 : Value) (D2 : Addr) (t3 t4 : Tok) (c2 : Nat) (jd : Int) (t u : Tok) :
    CutA w mean mg mb 8 135 [.int 2 t, v1, .ref D2, .int jd u] (fun pre => 584283 ≤ jd ∧ (e < 0 ∨ 19 < e) ∧ (D2, tupO [.int e t3, .str nm t4] c2) ∈ pre) (RStr "IndexError") := by
  unfold CutA
  k_fill
  intro dp un gd cn cs a ccd cl A₀ base h₀ L m pre cc s Q E hB hF hK hN hO hC hG hT hk hp hd1 hu1 hI0 hT0 hret
  have hBT := And.intro hI0 hT0
  clear hI0 hT0
  refine wpAny_call ?_
  k_dflt (refine' ask_enter (env := envX cn cs L a ccd cl) ?k1 ?k2 ?k3 ?k4 ?k5 ?kA ?kf ?kK ?k6 ?k7 ?k8 ?k9 ?kB ?_ ?c2 ?c3 ?c4 ?c5; (case kA => exact rfl); (case kf => exact rfl); (case kK => first | exact rfl | assumption); (case k1 => assumption); (case k2 => assumption); (case k3 => assumption); (case k4 => assumption); (case k5 => assumption); (case k6 => k_is); (case k7 => k_is); (case k8 => ktr_room); (case k9 => exact BindsTo.of_eq rfl); (case c5 => decide); (case kB => exact locs rfl); (case c2 => exact rfl); (case c3 => exact rfl); (case c4 => exact rfl); k_whole; intro g' L' h' FG' F' N' B' X' T' D'; (try dsimp only); (try k_lift B'); (try k_fold))
  obtain ⟨q0, q1, q2⟩ := hp
  w_top off
  repeat' (first | (k_unfold; (try dsimp only)) | (k_end; wrow_close) | ((with_reducible show wpAny _ _ (call (Value.ref _) _) _ _ _); (k_here; (with_reducible show wpAny _ _ (call (Value.ref 114) [_, _, Value.int _ _]) _ _ _); k_dflt (refine' CutE.use (e_nth_hday _ _ _ _ _ _ _ _ _ _ _ _ _) ?k1 ?k2 ?k3 ?k4 ?k6 ?k9 ?k7 ?k8 ?k5 ?kK ?kp ?kd ?ku ?kI ?kT ?kD ?_; (case k1 => k_asm); (case k2 => k_asm); (case k3 => k_asm); (case k4 => k_asm); (case k5 => k_asm); (case k7 => assumption); (case k6 => tb_rel); (case k9 => tb_start); (case k8 => assumption); (case kK => first | exact rfl | assumption); (case kp => exact ⟨(by first | assumption | omega), (by first | assumption | omega), (by first | assumption | omega)⟩); (case kd => ktr_room); (case ku => ktr_units); (case kI => exact And.left (by assumption)); (case kT => exact And.right (by assumption)); (case kD => assumption)); (intro e9 cc9 G9 h9 g9 d9 tk9 R9 F9 U9 hc9 hg9); (try simp only [List.cons_append, List.nil_append] at R9); (try dsimp only); (try k_fold))) | ((with_reducible show wpAny _ _ (handleBy (Value.ref _) _ _) _ _ _); (k_here; (rename RaisedSN _ _ _ _ _ _ _ => rsX); first | (k_dflt (refine' pass_SN rsX ?F ?K ?U ?XB ?TB ?D ?T ?_; (case F => assumption); (case K => assumption); (case U => assumption); (case XB => exact And.left (by assumption)); (case TB => exact And.right (by assumption)); (case D => assumption); (case T => kts_test); k_whole); clear rsX; intro h' R' U'; (try dsimp only at R' U' ⊢)) | (k_dflt (refine' hit_SN0 rsX ?F ?K ?U ?XB ?TB ?D ?T0 ?T ?_; (case F => assumption); (case K => assumption); (case U => assumption); (case XB => exact And.left (by assumption)); (case TB => exact And.right (by assumption)); (case D => assumption); (case T0 => exact KtsTurn.refl); (case T => kts_test); k_whole); clear rsX; intro h' g' T' F' N' K' X' P' D'; (try k_lift K')))) | ((with_reducible show wpAny _ _ (noteFrame (Value.ref _) _) _ _ _); (k_here; (rename RaisedSN _ _ _ _ _ _ _ => rsX); k_dflt (refine' kts_lookSN rsX ?F ?K ?U ?D ?_; (case F => assumption); (case K => assumption); (case U => assumption); (case D => assumption); k_whole); clear rsX; intro h' R' U'; (try dsimp only at R' U' ⊢))) | ((with_reducible show wpAny _ _ (eval (Expr.Call (Expr.Name _ _) _ _ _) _) _ _ _); (k_here; refine Call_ ?_)) | walk1 | dsimp only | (leave1; try dsimp only))
  all_goals exact hret.of0 ⟨rfl, _, rfl⟩ (by assumption) (by k_asm) (by ktr_rel) (by assumption)
end Mine
end
section
namespace Mine
set_option maxRecDepth 100000 in
set_option maxHeartbeats 8000000 in
theorem a2_hnob (w : World) (mean : ExcName → Option Value) (mg mb : Str → Option Value) (e : Int) (v1 : Value) (D2 : Addr) (t3 t4 : Tok) (c2 : Nat) (jd : Int) (t u : Tok) :
    CutA w mean mg mb 8 135 [.int 2 t, v1, .ref D2, .int jd u] (fun pre => 584283 ≤ jd ∧ 0 ≤ e ∧ e ≤ 19 ∧ (D2, tupO [.int e t3, .str "Nobody" t4] c2) ∈ pre) (RStr "ValueError") := by
  unfold CutA
  k_fill
  intro dp un gd cn cs a ccd cl A₀ base h₀ L m pre cc s Q E hB hF hK hN hO hC hG hT hk hp hd1 hu1 hI0 hT0 hret
  have hBT := And.intro hI0 hT0
  clear hI0 hT0
  refine wpAny_call ?_
  k_dflt (refine' ask_enter (env := envX cn cs L a ccd cl) ?k1 ?k2 ?k3 ?k4 ?k5 ?kA ?kf ?kK ?k6 ?k7 ?k8 ?k9 ?kB ?_ ?c2 ?c3 ?c4 ?c5; (case kA => exact rfl); (case kf => exact rfl); (case kK => first | exact rfl | assumption); (case k1 => assumption); (case k2 => assumption); (case k3 => assumption); (case k4 => assumption); (case k5 => assumption); (case k6 => k_is); (case k7 => k_is); (case k8 => ktr_room); (case k9 => exact BindsTo.of_eq rfl); (case c5 => decide); (case kB => exact locs rfl); (case c2 => exact rfl); (case c3 => exact rfl); (case c4 => exact rfl); k_whole; intro g' L' h' FG' F' N' B' X' T' D'; (try dsimp only); (try k_lift B'); (try k_fold))
  obtain ⟨q0, q1, q2, q3⟩ := hp
  w_top off
  repeat' (first | (k_unfold; (try dsimp only)) | (k_end; wrow_close) | ((with_reducible show wpAny _ _ (call (Value.ref _) _) _ _ _); (k_here; (with_reducible show wpAny _ _ (call (Value.ref 114) [_, _, Value.int _ _]) _ _ _); k_dflt (refine' CutE.use (e_nth_hnob _ _ _ _ _ _ _ _ _ _ _ _) ?k1 ?k2 ?k3 ?k4 ?k6 ?k9 ?k7 ?k8 ?k5 ?kK ?kp ?kd ?ku ?kI ?kT ?kD ?_; (case k1 => k_asm); (case k2 => k_asm); (case k3 => k_asm); (case k4 => k_asm); (case k5 => k_asm); (case k7 => assumption); (case k6 => tb_rel); (case k9 => tb_start); (case k8 => assumption); (case kK => first | exact rfl | assumption); (case kp => exact ⟨(by first | assumption | omega), (by first | assumption | omega), (by first | assumption | omega), (by first | assumption | omega)⟩); (case kd => ktr_room); (case ku => ktr_units); (case kI => exact And.left (by assumption)); (case kT => exact And.right (by assumption)); (case kD => assumption)); (intro e9 cc9 G9 h9 g9 d9 tk9 R9 F9 U9 hc9 hg9); (try simp only [List.cons_append, List.nil_append] at R9); (try dsimp only); (try k_fold))) | ((with_reducible show wpAny _ _ (handleBy (Value.ref _) _ _) _ _ _); (k_here; (rename RaisedSN _ _ _ _ _ _ _ => rsX); first | (k_dflt (refine' pass_SN rsX ?F ?K ?U ?XB ?TB ?D ?T ?_; (case F => assumption); (case K => assumption); (case U => assumption); (case XB => exact And.left (by assumption)); (case TB => exact And.right (by assumption)); (case D => assumption); (case T => kts_test); k_whole); clear rsX; intro h' R' U'; (try dsimp only at R' U' ⊢)) | (k_dflt (refine' hit_SN0 rsX ?F ?K ?U ?XB ?TB ?D ?T0 ?T ?_; (case F => assumption); (case K => assumption); (case U => assumption); (case XB => exact And.left (by assumption)); (case TB => exact And.right (by assumption)); (case D => assumption); (case T0 => exact KtsTurn.refl); (case T => kts_test); k_whole); clear rsX; intro h' g' T' F' N' K' X' P' D'; (try k_lift K')))) | ((with_reducible show wpAny _ _ (noteFrame (Value.ref _) _) _ _ _); (k_here; (rename RaisedSN _ _ _ _ _ _ _ => rsX); k_dflt (refine' kts_lookSN rsX ?F ?K ?U ?D ?_; (case F => assumption); (case K => assumption); (case U => assumption); (case D => assumption); k_whole); clear rsX; intro h' R' U'; (try dsimp only at R' U' ⊢))) | ((with_reducible show wpAny _ _ (eval (Expr.Call (Expr.Name _ _) _ _ _) _) _ _ _); (k_here; refine Call_ ?_)) | walk1 | dsimp only | (leave1; try dsimp only))
  all_goals exact hret.of0 ⟨rfl, _, rfl⟩ (by assumption) (by k_asm) (by ktr_rel) (by assumption)
end Mine
end
section
namespace Mine
set_option maxRecDepth 100000 in
set_option maxHeartbeats 8000000 in
theorem a2_tday (w : World) (mean : ExcName → Option Value) (mg mb : Str → Option Value) (e j d : Int) (nm : Str) (D1 : Addr) (t1 t2 : Tok) (c1 : Nat) (D2 : Addr) (t3 t4 : Tok) (c2 : Nat) (jd : Int) (t u : Tok) :
    CutA w mean mg mb 8 135 [.int 2 t, .ref D1, .ref D2, .int jd u] (fun pre => 584283 ≤ jd ∧ 0 ≤ e ∧ e ≤ 19 ∧ 0 ≤ j ∧ j < 19 ∧ (D2, tupO [.int e t3, .str (haabS j) t4] c2) ∈ pre ∧ (d < 1 ∨ 13 < d) ∧ (D1, tupO [.int d t1, .str nm t2] c1) ∈ pre) (RStr "IndexError") := by
  unfold CutA
  k_fill
  intro dp un gd cn cs a ccd cl A₀ base h₀ L m pre cc s Q E hB hF hK hN hO hC hG hT hk hp hd1 hu1 hI0 hT0 hret
  have hBT := And.intro hI0 hT0
  clear hI0 hT0
  refine wpAny_call ?_
  k_dflt (refine' ask_enter (env := envX cn cs L a ccd cl) ?k1 ?k2 ?k3 ?k4 ?k5 ?kA ?kf ?kK ?k6 ?k7 ?k8 ?k9 ?kB ?_ ?c2 ?c3 ?c4 ?c5; (case kA => exact rfl); (case kf => exact rfl); (case kK => first | exact rfl | assumption); (case k1 => assumption); (case k2 => assumption); (case k3 => assumption); (case k4 => assumption); (case k5 => assumption); (case k6 => k_is); (case k7 => k_is); (case k8 => ktr_room); (case k9 => exact BindsTo.of_eq rfl); (case c5 => decide); (case kB => exact locs rfl); (case c2 => exact rfl); (case c3 => exact rfl); (case c4 => exact rfl); k_whole; intro g' L' h' FG' F' N' B' X' T' D'; (try dsimp only); (try k_lift B'); (try k_fold))
  obtain ⟨q0, q1, q2, q3, q4, q5, q6, q7⟩ := hp
  w_top off
  repeat' (first | (k_unfold; (try dsimp only)) | (k_end; wrow_close) | ((with_reducible show wpAny _ _ (call (Value.ref _) _) _ _ _); (k_here; (with_reducible show wpAny _ _ (call (Value.ref 114) [_, _, Value.int _ _]) _ _ _); k_dflt (refine' CutE.use (e_nth_tday _ _ _ _ _ _ _ _ _ _ _ _ _ _ _ _ _ _) ?k1 ?k2 ?k3 ?k4 ?k6 ?k9 ?k7 ?k8 ?k5 ?kK ?kp ?kd ?ku ?kI ?kT ?kD ?_; (case k1 => k_asm); (case k2 => k_asm); (case k3 => k_asm); (case k4 => k_asm); (case k5 => k_asm); (case k7 => assumption); (case k6 => tb_rel); (case k9 => tb_start); (case k8 => assumption); (case kK => first | exact rfl | assumption); (case kp => (refine' ⟨?p0, ?p1, ?p2, ?p3, ?p4, ?p5, ?p6, ?p7⟩; (case p5 => assumption); (case p7 => assumption); (case p0 => first | assumption | omega); (case p1 => first | assumption | omega); (case p2 => first | assumption | omega); (case p3 => first | assumption | omega); (case p4 => first | assumption | omega); (case p6 => first | assumption | omega))); (case kd => ktr_room); (case ku => ktr_units); (case kI => exact And.left (by assumption)); (case kT => exact And.right (by assumption)); (case kD => assumption)); (intro e9 cc9 G9 h9 g9 d9 tk9 R9 F9 U9 hc9 hg9); (try simp only [List.cons_append, List.nil_append] at R9); (try dsimp only); (try k_fold))) | ((with_reducible show wpAny _ _ (handleBy (Value.ref _) _ _) _ _ _); (k_here; (rename RaisedSN _ _ _ _ _ _ _ => rsX); first | (k_dflt (refine' pass_SN rsX ?F ?K ?U ?XB ?TB ?D ?T ?_; (case F => assumption); (case K => assumption); (case U => assumption); (case XB => exact And.left (by assumption)); (case TB => exact And.right (by assumption)); (case D => assumption); (case T => kts_test); k_whole); clear rsX; intro h' R' U'; (try dsimp only at R' U' ⊢)) | (k_dflt (refine' hit_SN0 rsX ?F ?K ?U ?XB ?TB ?D ?T0 ?T ?_; (case F => assumption); (case K => assumption); (case U => assumption); (case XB => exact And.left (by assumption)); (case TB => exact And.right (by assumption)); (case D => assumption); (case T0 => exact KtsTurn.refl); (case T => kts_test); k_whole); clear rsX; intro h' g' T' F' N' K' X' P' D'; (try k_lift K')))) | ((with_reducible show wpAny _ _ (noteFrame (Value.ref _) _) _ _ _); (k_here; (rename RaisedSN _ _ _ _ _ _ _ => rsX); k_dflt (refine' kts_lookSN rsX ?F ?K ?U ?D ?_; (case F => assumption); (case K => assumption); (case U => assumption); (case D => assumption); k_whole); clear rsX; intro h' R' U'; (try dsimp only at R' U' ⊢))) | ((with_reducible show wpAny _ _ (eval (Expr.Call (Expr.Name _ _) _ _ _) _) _ _ _); (k_here; refine Call_ ?_)) | walk1 | dsimp only | (leave1; try dsimp only))
  all_goals exact hret.of0 ⟨rfl, _, rfl⟩ (by assumption) (by k_asm) (by ktr_rel) (by assumption)
end Mine
end
section
namespace Mine
set_option maxRecDepth 100000 in
set_option maxHeartbeats 8000000 in
theorem a2_tnob (w : World) (mean : ExcName → Option Value) (mg mb : Str → Option Value) (e j d : Int) (D1 : Addr) (t1 t2 : Tok) (c1 : Nat) (D2 : Addr) (t3 t4 : Tok) (c2 : Nat) (jd : Int) (t u : Tok) :
    CutA w mean mg mb 8 135 [.int 2 t, .ref D1, .ref D2, .int jd u] (fun pre => 584283 ≤ jd ∧ 0 ≤ e ∧ e ≤ 19 ∧ 0 ≤ j ∧ j < 19 ∧ (D2, tupO [.int e t3, .str (haabS j) t4] c2) ∈ pre ∧ 1 ≤ d ∧ d ≤ 13 ∧ (D1, tupO [.int d t1, .str "Nobody" t2] c1) ∈ pre) (RStr "ValueError") := by
  unfold CutA
  k_fill
  intro dp un gd cn cs a ccd cl A₀ base h₀ L m pre cc s Q E hB hF hK hN hO hC hG hT hk hp hd1 hu1 hI0 hT0 hret
  have hBT := And.intro hI0 hT0
  clear hI0 hT0
  refine wpAny_call ?_
  k_dflt (refine' ask_enter (env := envX cn cs L a ccd cl) ?k1 ?k2 ?k3 ?k4 ?k5 ?kA ?kf ?kK ?k6 ?k7 ?k8 ?k9 ?kB ?_ ?c2 ?c3 ?c4 ?c5; (case kA => exact rfl); (case kf => exact rfl); (case kK => first | exact rfl | assumption); (case k1 => assumption); (case k2 => assumption); (case k3 => assumption); (case k4 => assumption); (case k5 => assumption); (case k6 => k_is); (case k7 => k_is); (case k8 => ktr_room); (case k9 => exact BindsTo.of_eq rfl); (case c5 => decide); (case kB => exact locs rfl); (case c2 => exact rfl); (case c3 => exact rfl); (case c4 => exact rfl); k_whole; intro g' L' h' FG' F' N' B' X' T' D'; (try dsimp only); (try k_lift B'); (try k_fold))
  obtain ⟨q0, q1, q2, q3, q4, q5, q6, q7, q8⟩ := hp
  w_top off
  repeat' (first | (k_unfold; (try dsimp only)) | (k_end; wrow_close) | ((with_reducible show wpAny _ _ (call (Value.ref _) _) _ _ _); (k_here; (with_reducible show wpAny _ _ (call (Value.ref 114) [_, _, Value.int _ _]) _ _ _); k_dflt (refine' CutE.use (e_nth_tnob _ _ _ _ _ _ _ _ _ _ _ _ _ _ _ _ _) ?k1 ?k2 ?k3 ?k4 ?k6 ?k9 ?k7 ?k8 ?k5 ?kK ?kp ?kd ?ku ?kI ?kT ?kD ?_; (case k1 => k_asm); (case k2 => k_asm); (case k3 => k_asm); (case k4 => k_asm); (case k5 => k_asm); (case k7 => assumption); (case k6 => tb_rel); (case k9 => tb_start); (case k8 => assumption); (case kK => first | exact rfl | assumption); (case kp => (refine' ⟨?p0, ?p1, ?p2, ?p3, ?p4, ?p5, ?p6, ?p7, ?p8⟩; (case p5 => assumption); (case p8 => assumption); (case p0 => first | assumption | omega); (case p1 => first | assumption | omega); (case p2 => first | assumption | omega); (case p3 => first | assumption | omega); (case p4 => first | assumption | omega); (case p6 => first | assumption | omega); (case p7 => first | assumption | omega))); (case kd => ktr_room); (case ku => ktr_units); (case kI => exact And.left (by assumption)); (case kT => exact And.right (by assumption)); (case kD => assumption)); (intro e9 cc9 G9 h9 g9 d9 tk9 R9 F9 U9 hc9 hg9); (try simp only [List.cons_append, List.nil_append] at R9); (try dsimp only); (try k_fold))) | ((with_reducible show wpAny _ _ (handleBy (Value.ref _) _ _) _ _ _); (k_here; (rename RaisedSN _ _ _ _ _ _ _ => rsX); first | (k_dflt (refine' pass_SN rsX ?F ?K ?U ?XB ?TB ?D ?T ?_; (case F => assumption); (case K => assumption); (case U => assumption); (case XB => exact And.left (by assumption)); (case TB => exact And.right (by assumption)); (case D => assumption); (case T => kts_test); k_whole); clear rsX; intro h' R' U'; (try dsimp only at R' U' ⊢)) | (k_dflt (refine' hit_SN0 rsX ?F ?K ?U ?XB ?TB ?D ?T0 ?T ?_; (case F => assumption); (case K => assumption); (case U => assumption); (case XB => exact And.left (by assumption)); (case TB => exact And.right (by assumption)); (case D => assumption); (case T0 => exact KtsTurn.refl); (case T => kts_test); k_whole); clear rsX; intro h' g' T' F' N' K' X' P' D'; (try k_lift K')))) | ((with_reducible show wpAny _ _ (noteFrame (Value.ref _) _) _ _ _); (k_here; (rename RaisedSN _ _ _ _ _ _ _ => rsX); k_dflt (refine' kts_lookSN rsX ?F ?K ?U ?D ?_; (case F => assumption); (case K => assumption); (case U => assumption); (case D => assumption); k_whole); clear rsX; intro h' R' U'; (try dsimp only at R' U' ⊢))) | ((with_reducible show wpAny _ _ (eval (Expr.Call (Expr.Name _ _) _ _ _) _) _ _ _); (k_here; refine Call_ ?_)) | walk1 | dsimp only | (leave1; try dsimp only))
  all_goals exact hret.of0 ⟨rfl, _, rfl⟩ (by assumption) (by k_asm) (by ktr_rel) (by assumption)
end Mine
end
section
namespace Mine
set_option maxRecDepth 100000 in
set_option maxHeartbeats 8000000 in
theorem a2_none (w : World) (mean : ExcName → Option Value) (mg mb : Str → Option Value) (d i e j : Int) (D1 : Addr) (t1 t2 : Tok) (c1 : Nat) (D2 : Addr) (t3 t4 : Tok) (c2 : Nat) (jd : Int) (t u : Tok) :
    CutA w mean mg mb 8 135 [.int 2 t, .ref D1, .ref D2, .int jd u] (fun pre => 584283 ≤ jd ∧ 1 ≤ d ∧ d ≤ 13 ∧ 0 ≤ i ∧ i < 20 ∧ 0 ≤ e ∧ e ≤ 19 ∧ 0 ≤ j ∧ j < 19 ∧ (D1, tupO [.int d t1, .str (tzS i) t2] c1) ∈ pre ∧ (D2, tupO [.int e t3, .str (haabS j) t4] c2) ∈ pre ∧ (tdF (jd - 584283) d i - hdF (jd - 584283) e j) % 5 ≠ 0) (RStr "IndexError") := by
  unfold CutA
  k_fill
  intro dp un gd cn cs a ccd cl A₀ base h₀ L m pre cc s Q E hB hF hK hN hO hC hG hT hk hp hd1 hu1 hI0 hT0 hret
  have hBT := And.intro hI0 hT0
  clear hI0 hT0
  refine wpAny_call ?_
  k_dflt (refine' ask_enter (env := envX cn cs L a ccd cl) ?k1 ?k2 ?k3 ?k4 ?k5 ?kA ?kf ?kK ?k6 ?k7 ?k8 ?k9 ?kB ?_ ?c2 ?c3 ?c4 ?c5; (case kA => exact rfl); (case kf => exact rfl); (case kK => first | exact rfl | assumption); (case k1 => assumption); (case k2 => assumption); (case k3 => assumption); (case k4 => assumption); (case k5 => assumption); (case k6 => k_is); (case k7 => k_is); (case k8 => ktr_room); (case k9 => exact BindsTo.of_eq rfl); (case c5 => decide); (case kB => exact locs rfl); (case c2 => exact rfl); (case c3 => exact rfl); (case c4 => exact rfl); k_whole; intro g' L' h' FG' F' N' B' X' T' D'; (try dsimp only); (try k_lift B'); (try k_fold))
  obtain ⟨q0, q1, q2, q3, q4, q5, q6, q7, q8, q9, q10, q11⟩ := hp
  w_top off
  repeat' (first | (k_unfold; (try dsimp only)) | (k_end; wrow_close) | ((with_reducible show wpAny _ _ (call (Value.ref _) _) _ _ _); (k_here; (with_reducible show wpAny _ _ (call (Value.ref 114) [_, _, Value.int _ _]) _ _ _); k_dflt (refine' CutE.use (e_nth_none _ _ _ _ _ _ _ _ _ _ _ _ _ _ _ _ _ _) ?k1 ?k2 ?k3 ?k4 ?k6 ?k9 ?k7 ?k8 ?k5 ?kK ?kp ?kd ?ku ?kI ?kT ?kD ?_; (case k1 => k_asm); (case k2 => k_asm); (case k3 => k_asm); (case k4 => k_asm); (case k5 => k_asm); (case k7 => assumption); (case k6 => tb_rel); (case k9 => tb_start); (case k8 => assumption); (case kK => first | exact rfl | assumption); (case kp => (refine' ⟨?p0, ?p1, ?p2, ?p3, ?p4, ?p5, ?p6, ?p7, ?p8, ?p9, ?p10, ?p11⟩; (case p9 => assumption); (case p10 => assumption); (case p0 => first | assumption | omega); (case p1 => first | assumption | omega); (case p2 => first | assumption | omega); (case p3 => first | assumption | omega); (case p4 => first | assumption | omega); (case p5 => first | assumption | omega); (case p6 => first | assumption | omega); (case p7 => first | assumption | omega); (case p8 => first | assumption | omega); (case p11 => first | assumption | omega))); (case kd => ktr_room); (case ku => ktr_units); (case kI => exact And.left (by assumption)); (case kT => exact And.right (by assumption)); (case kD => assumption)); (intro e9 cc9 G9 h9 g9 d9 tk9 R9 F9 U9 hc9 hg9); (try simp only [List.cons_append, List.nil_append] at R9); (try dsimp only); (try k_fold))) | ((with_reducible show wpAny _ _ (handleBy (Value.ref _) _ _) _ _ _); (k_here; (rename RaisedSN _ _ _ _ _ _ _ => rsX); first | (k_dflt (refine' pass_SN rsX ?F ?K ?U ?XB ?TB ?D ?T ?_; (case F => assumption); (case K => assumption); (case U => assumption); (case XB => exact And.left (by assumption)); (case TB => exact And.right (by assumption)); (case D => assumption); (case T => kts_test); k_whole); clear rsX; intro h' R' U'; (try dsimp only at R' U' ⊢)) | (k_dflt (refine' hit_SN0 rsX ?F ?K ?U ?XB ?TB ?D ?T0 ?T ?_; (case F => assumption); (case K => assumption); (case U => assumption); (case XB => exact And.left (by assumption)); (case TB => exact And.right (by assumption)); (case D => assumption); (case T0 => exact KtsTurn.refl); (case T => kts_test); k_whole); clear rsX; intro h' g' T' F' N' K' X' P' D'; (try k_lift K')))) | ((with_reducible show wpAny _ _ (noteFrame (Value.ref _) _) _ _ _); (k_here; (rename RaisedSN _ _ _ _ _ _ _ => rsX); k_dflt (refine' kts_lookSN rsX ?F ?K ?U ?D ?_; (case F => assumption); (case K => assumption); (case U => assumption); (case D => assumption); k_whole); clear rsX; intro h' R' U'; (try dsimp only at R' U' ⊢))) | ((with_reducible show wpAny _ _ (eval (Expr.Call (Expr.Name _ _) _ _ _) _) _ _ _); (k_here; refine Call_ ?_)) | walk1 | dsimp only | (leave1; try dsimp only))
  all_goals exact hret.of0 ⟨rfl, _, rfl⟩ (by assumption) (by k_asm) (by ktr_rel) (by assumption)
end Mine
end
section
namespace Mine
set_option maxRecDepth 100000 in
set_option maxHeartbeats 8000000 in
theorem a2_ok (w : World) (mean : ExcName → Option Value) (mg mb : Str → Option Value) (d i e j : Int) (D1 : Addr) (t1 t2 : Tok) (c1 : Nat) (D2 : Addr) (t3 t4 : Tok) (c2 : Nat) (jd : Int) (t u : Tok) :
    CutA w mean mg mb 8 135 [.int 2 t, .ref D1, .ref D2, .int jd u] (fun pre => 584283 ≤ jd ∧ 1 ≤ d ∧ d ≤ 13 ∧ 0 ≤ i ∧ i < 20 ∧ 0 ≤ e ∧ e ≤ 19 ∧ 0 ≤ j ∧ j < 19 ∧ (D1, tupO [.int d t1, .str (tzS i) t2] c1) ∈ pre ∧ (D2, tupO [.int e t3, .str (haabS j) t4] c2) ∈ pre ∧ (tdF (jd - 584283) d i - hdF (jd - 584283) e j) % 5 = 0) (RInt (cmF (hdF (jd - 584283) e j) (tdF (jd - 584283) d i) + jd)) := by
  unfold CutA
  k_fill
  intro dp un gd cn cs a ccd cl A₀ base h₀ L m pre cc s Q E hB hF hK hN hO hC hG hT hk hp hd1 hu1 hI0 hT0 hret
  have hBT := And.intro hI0 hT0
  clear hI0 hT0
  refine wpAny_call ?_
  k_dflt (refine' ask_enter (env := envX cn cs L a ccd cl) ?k1 ?k2 ?k3 ?k4 ?k5 ?kA ?kf ?kK ?k6 ?k7 ?k8 ?k9 ?kB ?_ ?c2 ?c3 ?c4 ?c5; (case kA => exact rfl); (case kf => exact rfl); (case kK => first | exact rfl | assumption); (case k1 => assumption); (case k2 => assumption); (case k3 => assumption); (case k4 => assumption); (case k5 => assumption); (case k6 => k_is); (case k7 => k_is); (case k8 => ktr_room); (case k9 => exact BindsTo.of_eq rfl); (case c5 => decide); (case kB => exact locs rfl); (case c2 => exact rfl); (case c3 => exact rfl); (case c4 => exact rfl); k_whole; intro g' L' h' FG' F' N' B' X' T' D'; (try dsimp only); (try k_lift B'); (try k_fold))
  obtain ⟨q0, q1, q2, q3, q4, q5, q6, q7, q8, q9, q10, q11⟩ := hp
  w_top off
  repeat' (first | (k_unfold; (try dsimp only)) | (k_end; wrow_close) | ((with_reducible show wpAny _ _ (call (Value.ref _) _) _ _ _); (k_here; (with_reducible show wpAny _ _ (call (Value.ref 114) [_, _, Value.int _ _]) _ _ _); k_dflt (refine' Cut.use (c_nth _ _ _ _ _ _ _ _ _ _ _ _ _ _ _ _ _ _) ?k1 ?k2 ?k3 ?k4 ?k6 ?k9 ?k7 ?k8 ?k5 ?kK ?kp ?kd ?ku ?_; (case k1 => k_asm); (case k2 => k_asm); (case k3 => k_asm); (case k4 => k_asm); (case k5 => k_asm); (case k7 => assumption); (case k6 => tb_rel); (case k9 => tb_start); (case k8 => assumption); (case kK => first | exact rfl | assumption); (case kp => (refine' ⟨?p0, ?p1, ?p2, ?p3, ?p4, ?p5, ?p6, ?p7, ?p8, ?p9, ?p10, ?p11⟩; (case p9 => assumption); (case p10 => assumption); (case p0 => first | assumption | omega); (case p1 => first | assumption | omega); (case p2 => first | assumption | omega); (case p3 => first | assumption | omega); (case p4 => first | assumption | omega); (case p5 => first | assumption | omega); (case p6 => first | assumption | omega); (case p7 => first | assumption | omega); (case p8 => first | assumption | omega); (case p11 => first | assumption | omega))); (case kd => ktr_room); (case ku => ktr_units)); (intro v9 tl9 cc9 h9 g9 d9 tk9 r9 l9 hc9 F9 N9 G9); (obtain ⟨e9, t9, e8⟩ := r9); subst e9; subst e8; (simp only [List.cons_append, List.nil_append] at N9); clear l9; (try dsimp only); (try k_fold); (try k_sweep))) | ((with_reducible show wpAny _ _ (handleBy (Value.ref _) _ _) _ _ _); (k_here; (rename RaisedSN _ _ _ _ _ _ _ => rsX); first | (k_dflt (refine' pass_SN rsX ?F ?K ?U ?XB ?TB ?D ?T ?_; (case F => assumption); (case K => assumption); (case U => assumption); (case XB => exact And.left (by assumption)); (case TB => exact And.right (by assumption)); (case D => assumption); (case T => kts_test); k_whole); clear rsX; intro h' R' U'; (try dsimp only at R' U' ⊢)) | (k_dflt (refine' hit_SN0 rsX ?F ?K ?U ?XB ?TB ?D ?T0 ?T ?_; (case F => assumption); (case K => assumption); (case U => assumption); (case XB => exact And.left (by assumption)); (case TB => exact And.right (by assumption)); (case D => assumption); (case T0 => exact KtsTurn.refl); (case T => kts_test); k_whole); clear rsX; intro h' g' T' F' N' K' X' P' D'; (try k_lift K')))) | ((with_reducible show wpAny _ _ (noteFrame (Value.ref _) _) _ _ _); (k_here; (rename RaisedSN _ _ _ _ _ _ _ => rsX); k_dflt (refine' kts_lookSN rsX ?F ?K ?U ?D ?_; (case F => assumption); (case K => assumption); (case U => assumption); (case D => assumption); k_whole); clear rsX; intro h' R' U'; (try dsimp only at R' U' ⊢))) | ((with_reducible show wpAny _ _ (eval (Expr.Call (Expr.Name _ _) _ _ _) _) _ _ _); (k_here; refine Call_ ?_)) | walk1 | dsimp only | (leave1; try dsimp only))
  all_goals exact hret.of0 ⟨rfl, _, rfl⟩ (by assumption) (by k_asm) (by ktr_rel) (by assumption)
end Mine
end
section
set_option maxRecDepth 100000
namespace Mine
theorem slot_md_get : Slot "method_descriptor" "__get__" "method_descriptor.__get__" := .of (owner := "method_descriptor") (n := "__get__") (by rw [typeLookup_type, builtinLookup_eq_fast]; kernel_rfl) (by decide +kernel) (by decide +kernel) (by decide +kernel)
    (by first | exact .inl (by decide +kernel) | exact .inr (by decide +kernel)) (by rw [isSubtype_type]; kernel_rfl)
theorem entry_md_get : entryFor table "method_descriptor.__get__" = some Builtin.«method_descriptor.__get__» := entryFor_of_tree (by kernel_rfl)
theorem args_md_get (a b c : Value) : argsOk "method_descriptor.__get__" ⟨[a, b, c], []⟩ := by unfold argsOk; kernel_rfl
theorem lk_md_set : typeLookup (.type "method_descriptor") "__set__" = pure none := by rw [typeLookup_type, builtinLookup_eq_fast]; kernel_rfl
theorem lk_md_del : typeLookup (.type "method_descriptor") "__delete__" = pure none := by rw [typeLookup_type, builtinLookup_eq_fast]; kernel_rfl
theorem lk_str_format : typeLookup (.type "str") "format" = pure (some (.builtin "str.format")) := by rw [typeLookup_type, builtinLookup_eq_fast]; kernel_rfl
def boundF (x : Str) (t : Tok) : Obj := { cls := .type "builtin_function_or_method", data := .fields #[.builtin "str.format", .str x t] }
theorem owner_sf : (kfb_private% "ownerAndName") "str.format" = ("str", "format") := by first | decide +kernel | kernel_rfl
theorem told_sf : Manifest.toldItsClass.contains "str.format" = false := by decide +kernel
section
variable {prog : Program} {w : World} {A : Around} {E : Value → Shared → Prop} {s : Shared} {x : Str} {u : Tok}
theorem run_md_get {P : PySem.Fin → Shared → Prop} (h : P (.done (.ret (.ref s.heap.objs.size))) { s with heap := s.heap.push (boundF x u) }) :
    wpAny (model prog w) A (Builtin.«method_descriptor.__get__» ⟨[.builtin "str.format", .str x u, .type "str"], []⟩) P E s := by
  unfold Builtin.«method_descriptor.__get__»
  refine wpAny_bind (wpAny_of_eq (a := (.builtin "str.format", some (.str x u), some (.type "str"))) (by first | rfl | kernel_rfl) ?_)
  dsimp only
  rw [told_sf]
  simp only [Bool.false_eq_true, if_false]
  refine wpAny_bind (m := (kfb_private% "checkInstance") (.builtin "str.format") (.str x u)) ?_
  refine wpAny_bind (m := (kfb_private% "nameAndClass") (.builtin "str.format")) (wpAny_of_eq (a := ((PySem.Str.ofString "format", Value.type "str") : PySem.Str × Value)) ?_ ?_)
  · show (match (kfb_private% "ownerAndName") "str.format" with | (owner, name) => (pure (PySem.Str.ofString name, Value.type owner) : Sem (PySem.Str × Value))) = _
    rw [owner_sf]
  dsimp only
  refine wpAny_bind (wpAny_isInstance (T := "str") (b := true) rfl (by rw [isSubtype_type]; kernel_rfl) ?_)
  refine wpAny_pure ?_
  unfold newFields
  refine wpAny_bind (wpAny_newObj_type (wpAny_pure ?_))
  exact h
end
section
variable {prog : Program} {w : World} {A : Around} {E : Value → Shared → Prop} {h : Heap} {g : Array GenState} {d : Drawn} {t : Nat} {os : OsState} {x : PySem.Str} {u : Tok}
theorem md_get {R : Result → Shared → Prop} (hq : R (.ok (.ret (.ref h.objs.size))) ⟨h.push (boundF x u), g, d, t, os⟩) :
    codeAny (model prog w) A (.call (.builtin "method_descriptor.__get__") ⟨[.builtin "str.format", .str x u, .type "str"], []⟩) R ⟨h, g, d, t, os⟩ := by
  have hT5 : (⟨h, g, d, t, os⟩ : Shared).TypeIs (.builtin "str.format") "method_descriptor" := F.type_str_format_m
  exact codeAny_call_builtin slot_md_get.plain entry_md_get (slot_md_get.check _ _ _ _ _ _ _ _ hT5 (args_md_get _ _ _) (run_md_get hq))
theorem entry_format {tk : Tok} {Q : PySem.Fin → Shared → Prop} (hq : Q (.done (.ret (.ref h.objs.size))) ⟨h.push (boundF x u), g, d, t, os⟩) :
    wpAny (model prog w) A (Builtin.«object.__getattribute__» ⟨[.str x u, .str "format" tk], []⟩) Q E ⟨h, g, d, t, os⟩ := by
  have hT : (⟨h, g, d, t, os⟩ : Shared).TypeIs (.str x u) "str" := rfl
  have hT5 : (⟨h, g, d, t, os⟩ : Shared).TypeIs (.builtin "str.format") "method_descriptor" := F.type_str_format_m
  have f4 := lk_str_format
  have f5 := F.type_str_format_m
  have f6 := slot_md_get.lookup
  have f7 := lk_md_set
  have f8 := lk_md_del
  repeat (any_goals (first | assumption | wp_step))
  refine md_get ?_
  repeat (any_goals (first | assumption | wp_step))
theorem call_format {tk : Tok} {R : Result → Shared → Prop} (hq : R (.ok (.ret (.ref h.objs.size))) ⟨h.push (boundF x u), g, d, t, os⟩) :
    codeAny (model prog w) A (.call (.builtin "object.__getattribute__") ⟨[.str x u, .str "format" tk], []⟩) R ⟨h, g, d, t, os⟩ :=
  codeAny_call_builtin F.slot_str_getattribute.plain F.entry_object_getattribute (F.slot_str_getattribute.check _ _ _ _ _ _ _ _ (show (⟨h, g, d, t, os⟩ : Shared).TypeIs (.str x u) "str" from rfl) (F.args_object_getattribute_2 _ _) (entry_format hq))
theorem by_format {tk : Tok} {b1 b2 : Bool} {Q : Value → Shared → Prop} (hq : Q (.ref h.objs.size) ⟨h.push (boundF x u), g, d, t, os⟩) : wpAny (model prog w) A (getAttrBy (.str x u) (.str "format" tk) b1 b2) Q E ⟨h, g, d, t, os⟩ := by
  have hT : (⟨h, g, d, t, os⟩ : Shared).TypeIs (.str x u) "str" := rfl
  have f2 := F.slot_str_getattribute.lookup
  have f3 := F.slot_str_getattribute.bind (.str x u)
  repeat (any_goals (first | assumption | wp_step))
  rw [show (b2 && onTheHeap (Value.builtin "object.__getattribute__")) = false by cases b2 <;> rfl]
  simp only [Bool.false_eq_true, if_false]
  repeat (any_goals (first | assumption | wp_step))
  refine call_format ?_
  repeat (any_goals (first | assumption | wp_step))
theorem attr_format {s : Shared} {Q : Value → Shared → Prop} (hq : Q (.ref s.heap.objs.size) { s with heap := s.heap.push (boundF x u), toks := s.toks + 1 }) : wpAny (model prog w) A (getAttr (.str x u) (PySem.Str.ofString "format") true) Q E s := by
  unfold getAttr
  exact wpAny_bind (wpAny_mkText (by_format hq))
end
section
variable {prog : Program} {w : World} {A : Around} {E : Value → Shared → Prop} {s : Shared} {x : PySem.Str} {u : Tok}
/-- the bound method is called -/
theorem call_boundF {b : Addr} {vs : List Value} {T : PySem.Str} {Q : Value → Shared → Prop} (ho : s.heap.get? b = some (boundF x u)) (hck : checkBoundCall "str.format" ⟨.str x u :: vs, []⟩ = pure ())
    (hm : ∀ (A' : Around) (P : PySem.Fin → Shared → Prop) (E' : Value → Shared → Prop), (∀ t' k, P (.done (.ret (.str T t'))) { s with toks := k }) → wpAny (model prog w) A' (Builtin.«str.format» ⟨.str x u :: vs, []⟩) P E' s)
    (h : ∀ t' k, Q (.str T t') { s with toks := k }) : wpAny (model prog w) A (call (.ref b) vs) Q E s := by
  refine wpAny_call (codeAny_of_tree ?_)
  show wpAny _ A.in1 (callAny (.ref b) ⟨vs, []⟩) _ _ s
  simp only [callAny]
  refine wpAny_bind (wpAny_load ho ?_)
  simp only [boundF, show (Value.type "builtin_function_or_method" == Value.type "method" || Value.type "builtin_function_or_method" == Value.type "builtin_function_or_method" || Value.type "builtin_function_or_method" == Value.type "method-wrapper") = true by decide, if_true]
  show wpAny _ _ (if (Value.type "builtin_function_or_method" != Value.type "method") = true then (do checkBoundCall "str.format" ⟨.str x u :: vs, []⟩; again (Code.builtin "str.format" ⟨.str x u :: vs, []⟩)) else again (Code.call (.builtin "str.format") ⟨.str x u :: vs, []⟩)) _ _ _
  rw [if_pos (by decide)]
  refine wpAny_bind (wpAny_of_eq (a := ()) hck ?_)
  refine wpAny_pure ?_
  exact ⟨Code.quiet_builtin _ (by decide +kernel), codeAny_builtin F.entry_str_format_m (hm _ _ _ h)⟩
end
end Mine
end
section
set_option maxRecDepth 100000
namespace Mine
theorem small_log {n : Int} (h0 : 0 ≤ n) (h1 : n < 20) : n.natAbs.log2 < 1920 := by
  have : n.natAbs < 2 ^ 5 := by omega
  by_cases hz : n.natAbs = 0
  · rw [hz]; decide
  · have := (Nat.log2_lt hz).mpr this
    omega
theorem small_text : ∀ k : Fin 20, (PySem.Str.ofString (toString ((k.val : Nat) : Int))).length ≤ 100 := by decide
theorem small_len {n : Int} (h0 : 0 ≤ n) (h1 : n < 20) : (PySem.Str.ofString (toString n)).length ≤ 100 := by
  have := small_text ⟨n.toNat, by omega⟩
  rwa [show ((n.toNat : Nat) : Int) = n by omega] at this
abbrev sp : Str := PySem.Str.ofString " "
abbrev dig (n : Int) : Str := PySem.Str.ofString (toString n)
set_option maxHeartbeats 8000000 in
theorem run_f4 {prog : Program} {w : World} {A : Around} {s : Shared} {Q : PySem.Fin → Shared → Prop} {E : Value → Shared → Prop} (n m : Int) (x y : Str) (t t1 t2 t3 t4 : Tok) (hn0 : 0 ≤ n) (hn1 : n < 20) (hm0 : 0 ≤ m) (hm1 : m < 20) (hx : x.length ≤ 100) (hy : y.length ≤ 100)
    (h : ∀ t' k, Q (.done (.ret (.str (((((((dig n) ++ sp) ++ x) ++ sp) ++ dig m) ++ sp) ++ y) t'))) { s with toks := k }) :
    wpAny (model prog w) A (Builtin.«str.format» ⟨[.str "{0} {1} {2} {3}" t, .int n t1, .str x t2, .int m t3, .str y t4], []⟩) Q E s := by
  unfold Builtin.«str.format»
  refine wpAny_bind (wpAny_of_eq (a := (_, _, _)) rfl ?_)
  refine wpAny_bind ?_
  unfold Builtin.Str.buildString
  refine wpAny_bind ?_
  rw [KPc.range_list]
  refine KFm.start ?_
  intro _ _
  refine KPc.turn ?_
  kpc_if
  kpc_check
  refine wpAny_bind (field_man (by rfl) (by rfl) (by rfl) (by first | exact Or.inl rfl | exact Or.inr rfl) (by rfl) ?_)
  refine wpAny_bind (wpAny_holding (wpAny_of_eq (a := _) rfl ?_))
  kpc_if
  refine wpAny_bind (wpAny_pure ?_)
  refine wpAny_bind (wpAny_holding (KFm.formatOf_int (small_log hn0 hn1) ?_)); intro _ _
  refine wpAny_bind (wpAny_of_eq (a := some _) rfl ?_)
  refine wpAny_pure ?_
  refine KFm.after_field (by kpc_g) (by kpc_text) (by kpc_obj) (small_len hn0 hn1) (by kpc_obj) (by kfm_cat2) (by kfm_rest) ?_
  intro _ _
  refine KPc.turn ?_
  kpc_if
  kpc_check
  refine wpAny_bind (field_man (by rfl) (by rfl) (by rfl) (by first | exact Or.inl rfl | exact Or.inr rfl) (by rfl) ?_)
  refine wpAny_bind (wpAny_holding (wpAny_of_eq (a := _) rfl ?_))
  kpc_if
  refine wpAny_bind (wpAny_pure ?_)
  refine wpAny_bind (wpAny_holding (wpAny_of_eq (KFm.formatOf_str _ _) ?_))
  refine wpAny_bind (wpAny_of_eq (a := some _) rfl ?_)
  refine wpAny_pure ?_
  refine KFm.after_field (by kpc_g) (by kpc_text) (by kpc_obj) hx (by kpc_obj) rfl (by kfm_rest) ?_
  intro _ _
  refine KPc.turn ?_
  kpc_if
  kpc_check
  refine wpAny_bind (field_man (by rfl) (by rfl) (by rfl) (by first | exact Or.inl rfl | exact Or.inr rfl) (by rfl) ?_)
  refine wpAny_bind (wpAny_holding (wpAny_of_eq (a := _) rfl ?_))
  kpc_if
  refine wpAny_bind (wpAny_pure ?_)
  refine wpAny_bind (wpAny_holding (KFm.formatOf_int (small_log hm0 hm1) ?_)); intro _ _
  refine wpAny_bind (wpAny_of_eq (a := some _) rfl ?_)
  refine wpAny_pure ?_
  refine KFm.after_field (by kpc_g) (by kpc_text) (by kpc_obj) (small_len hm0 hm1) (by kpc_obj) rfl (by kfm_rest) ?_
  intro _ _
  refine KPc.turn ?_
  kpc_if
  kpc_check
  refine wpAny_bind (field_man (by rfl) (by rfl) (by rfl) (by first | exact Or.inl rfl | exact Or.inr rfl) (by rfl) ?_)
  refine wpAny_bind (wpAny_holding (wpAny_of_eq (a := _) rfl ?_))
  kpc_if
  refine wpAny_bind (wpAny_pure ?_)
  refine wpAny_bind (wpAny_holding (wpAny_of_eq (KFm.formatOf_str _ _) ?_))
  refine wpAny_bind (wpAny_of_eq (a := some _) rfl ?_)
  refine wpAny_pure ?_
  refine KFm.after_field (by kpc_g) (by kpc_text) (by kpc_obj) hy (by kpc_obj) rfl (by kfm_rest) ?_
  intro _ _
  refine KPc.turn ?_
  kpc_if
  kfm_close
end Mine
end
section
set_option maxRecDepth 100000
namespace Mine
section
variable {M : Model} {A : Around} {E : Value → Shared → Prop} {s : Shared} {env : Env}
/-- a method called with starred arguments: the method is read as a value -/
theorem MethodStar_ {o e : Expr} {name : Str} {apos sp pos : Pos} {Q : Value → Shared → Prop}
    (h : wpAny M A (eval o env) (fun ov s₁ => wpAny M A (getAttr ov name true) (fun f s₂ => wpAny M A (callWith pos f [] (backTo pos (starEach [.Starred e sp] env)) []) Q E s₂) E s₁) E s)
    (ho : attributeBase o name env (eval o env) = eval o env) (he : starEach [.Starred e sp] env = [(true, eval e env)] := by rfl) :
    wpAny M A (eval (.Call (.Attribute o name apos) [.Starred e sp] [] pos) env) Q E s := by
  rw [arm_eval_Call, ho]
  refine wpAny_bind (wpAny_mono h (fun ov s₁ h₁ => wpAny_bind (wpAny_standAt ?_)) fun _ _ x => x)
  unfold methodCall
  have hf : methodCallForm ([Expr.Starred e sp].length + ([] : List Keyword).length) (backTo pos (starEach [.Starred e sp] env)) (backToKw pos (keywordEach [] env)) = false := by rw [he]; rfl
  rw [hf]
  unfold calleeOf methodCallPos
  simp only [Bool.false_eq_true, if_false, Bool.not_false, Bool.true_or, if_true]
  refine wpAny_bind (wpAny_holding (wpAny_bind (wpAny_mono h₁ (fun f s₂ h₂ => wpAny_pure ?_) fun _ _ x => x)))
  exact wpAny_bind (wpAny_pure h₂)
theorem keeper_boundF {b : Addr} {x : Str} {u : Tok} {h : Heap} (ho : h.get? b = some (boundF x u)) : Looks M h (keeperOf (.ref b)) .machine := fun A Q E s k q => by
  unfold keeperOf
  refine wpAny_bind (wpAny_load (k _ _ ho) ?_)
  simp only [boundF, show (Value.type "builtin_function_or_method" != Value.type "method") = true by decide, show (Value.type "builtin_function_or_method" == Value.type "builtin_function_or_method" || Value.type "builtin_function_or_method" == Value.type "method-wrapper") = true by decide, if_true]
  exact wpAny_pure q
theorem callWith_bound {b : Addr} {x : Str} {u : Tok} {e : Expr} {sp pos : Pos} {Q : Value → Shared → Prop}
    (h : wpAny M A (eval e env) (fun v s₁ => StarOf M A E v (fun vs s₂ => s₂.heap.get? b = some (boundF x u) ∧ wpAny M A (call (.ref b) vs) Q E s₂) s₁) E s)
    (he : starEach [.Starred e sp] env = [(true, eval e env)] := by rfl) : wpAny M A (callWith pos (.ref b) [] (backTo pos (starEach [.Starred e sp] env)) []) Q E s := by
  rw [he]
  exact ks_call (P := fun h => h.get? b = some (boundF x u)) rfl (fun h hp => ⟨.machine, .inr (.inl rfl), keeper_boundF hp⟩) (ks_lone h)
end
theorem check_f4 (x : Str) (u : Tok) (a b c d : Value) : checkBoundCall "str.format" ⟨[.str x u, a, b, c, d], []⟩ = pure () := by first | kernel_rfl | rfl
section
variable {prog : Program} {w : World} {A : Around} {E : Value → Shared → Prop} {s : Shared} {h₀ : Heap} {L f D : Addr} {m : Str → Option Value} {news : List (Addr × Obj)} {name : Str} {scope : Scope} {cd : Value} {cl : List (Str × Addr)}
theorem fmt4_K {nm : Str} {kd : Nat} {cpos apos np sp pos : Pos} {n k : Int} {x y : Str} {t1 t2 t3 t4 : Tok} {c : Nat} {Q : Value → Shared → Prop} (F : Fr h₀ L s.heap m) (N : News h₀ L s.heap news) (hD : m nm = some (.ref D)) (hmem : (D, tupO [.int n t1, .str x t2, .int k t3, .str y t4] c) ∈ news)
    (hn0 : 0 ≤ n) (hn1 : n < 20) (hk0 : 0 ≤ k) (hk1 : k < 20) (hx : x.length ≤ 100) (hy : y.length ≤ 100)
    (hk : scope.kind = .function) (hx1 : (envX name scope L f cd cl).kindOf nm = some .local) (hx2 : (nm == ("__debug__" : Str)) = false)
    (h : ∀ h' t' tk, Fr h₀ L h' m → News h₀ L h' news → Q (.str (((((((dig n) ++ Mine.sp) ++ x) ++ Mine.sp) ++ dig k) ++ Mine.sp) ++ y) t') { s with heap := h', toks := tk }) :
    wpAny (model prog w) A (eval (.Call (.Attribute (.Constant (.str "{0} {1} {2} {3}") kd cpos) "format" apos) [.Starred (.Name nm np) sp] [] pos) (envX name scope L f cd cl)) Q E s := by
  refine MethodStar_ (Calls.Constant_str (attr_format ?_)) rfl
  have F1 := F.push (boundF "{0} {1} {2} {3}" s.toks)
  have N1 := News.push F N (boundF "{0} {1} {2} {3}" s.toks)
  refine callWith_bound (x := "{0} {1} {2} {3}") (u := s.toks) (nameX_L F1 hD ?_ hk hx1 hx2)
  refine star_seq (T := "tuple") F1 N1 (.tail _ hmem) rfl rfl (.inr rfl) rfl (by show 4 ≤ 2 ^ 24; decide) fun h' F2 N2 => ?_
  refine ⟨(N2 _ (.head _)).1, ?_⟩
  exact call_boundF (N2 _ (.head _)).1 (check_f4 _ _ _ _ _ _) (fun A' P E' hq => run_f4 n k x y _ _ _ _ _ hn0 hn1 hk0 hk1 hx hy hq) fun t' tk => h h' t' tk F2 (ns1 N2)
end
end Mine
end
section
namespace Mine
theorem haab_len : ∀ a : Fin 19, (haabL.getD a.val Str.empty).length ≤ 100 := by decide
theorem tz_len : ∀ a : Fin 20, (tzL.getD a.val Str.empty).length ≤ 100 := by decide
theorem haabS_len {j : Int} (h0 : 0 ≤ j) (h1 : j < 19) : (haabS j).length ≤ 100 := haab_len ⟨j.toNat, by omega⟩
theorem tzS_len {j : Int} (h0 : 0 ≤ j) (h1 : j < 20) : (tzS j).length ≤ 100 := tz_len ⟨j.toNat, by omega⟩
abbrev text4 (p : Int) : Str := ((((((dig (tDay p)) ++ sp) ++ tzS (tNam p)) ++ sp) ++ dig (hDay p)) ++ sp) ++ haabS (hMon p)
set_option maxRecDepth 100000 in
set_option maxHeartbeats 8000000 in
theorem c_lcht (w : World) (mean : ExcName → Option Value) (mg mb : Str → Option Value) (a1 a2 a3 a4 a5 : Int) (t1 t2 t3 t4 t5 : Tok) :
    Cut w mean mg mb 6 79 [.int a1 t1, .int a2 t2, .int a3 t3, .int a4 t4, .int a5 t5] (fun _ => 584283 ≤ 584283 + a1 * 144000 + a2 * 7200 + a3 * 360 + a4 * 20 + a5) (fun v tl => tl = [] ∧ ∃ t, v = .str (text4 (584283 + a1 * 144000 + a2 * 7200 + a3 * 360 + a4 * 20 + a5 - 584283)) t) := by
  unfold Cut
  k_fill
  intro dp un gd cn cs a ccd cl outer A₀ base h₀ L m pre cc s Q E hB hF hK hN hO hC hG hT hk hp hd1 hu1 hret
  refine wpAny_call ?_
  k_dflt cell_enter
  obtain ⟨b1, b2, b3, b4, b5, b6, b7, b8⟩ := hm_b (584283 + a1 * 144000 + a2 * 7200 + a3 * 360 + a4 * 20 + a5 - 584283)
  w_top off
  repeat' (first | (k_unfold; (try dsimp only)) | (k_end; wrow_close) | ((with_reducible show wpAny _ _ (eval (Expr.Call (Expr.Attribute _ _ _) _ _ _) _) _ _ _); (k_here; k_dflt (refine' fmt4_K ?k1 ?k2 ?k3 ?k4 ?b1 ?b2 ?b3 ?b4 ?b5 ?b6 ?k5 ?k6 ?k7 ?_; (case k1 => k_asm); (case k2 => k_asm); (case k3 => exact if_pos rfl); (case k4 => k_mem); (case b1 => omega); (case b2 => omega); (case b3 => omega); (case b4 => omega); (case b5 => (refine tzS_len ?_ ?_ <;> assumption)); (case b6 => (refine haabS_len ?_ ?_ <;> assumption)); (case k5 => exact rfl); (case k6 => exact rfl); (case k7 => decide)); (intro h' t' tk' F' N'); (try dsimp only))) | ((with_reducible show wpAny _ _ (call (Value.ref _) _) _ _ _); first | (k_here; (with_reducible show wpAny _ _ (call (Value.ref 58) [Value.int _ _]) _ _ _); k_dflt (refine' Cut.use (c_to_tzolkin _ _ _ _ _ _) ?k1 ?k2 ?k3 ?k4 ?k6 ?k9 ?k7 ?k8 ?k5 ?kK ?kp ?kd ?ku ?_; (case k1 => k_asm); (case k2 => k_asm); (case k3 => k_asm); (case k4 => k_asm); (case k5 => k_asm); (case k7 => assumption); (case k6 => tb_rel); (case k9 => tb_start); (case k8 => assumption); (case kK => first | exact rfl | assumption); (case kp => (first | trivial | assumption | omega | l_fact)); (case kd => ktr_room); (case ku => ktr_units)); (intro v9 tl9 cc9 h9 g9 d9 tk9 r9 l9 hc9 F9 N9 G9); (obtain ⟨D9, t90, t91, c9, e9, e8⟩ := r9); subst e9; subst e8; (simp only [List.cons_append, List.nil_append] at N9); (replace l9 := fun q hq => l9 q hq _ (List.Mem.head _)); (try dsimp only at l9); (try k_lt l9); (try dsimp only); (try k_fold); (try k_sweep)) | (k_here; (with_reducible show wpAny _ _ (call (Value.ref 51) [Value.int _ _]) _ _ _); k_dflt (refine' Cut.use (c_to_haab _ _ _ _ _ _) ?k1 ?k2 ?k3 ?k4 ?k6 ?k9 ?k7 ?k8 ?k5 ?kK ?kp ?kd ?ku ?_; (case k1 => k_asm); (case k2 => k_asm); (case k3 => k_asm); (case k4 => k_asm); (case k5 => k_asm); (case k7 => assumption); (case k6 => tb_rel); (case k9 => tb_start); (case k8 => assumption); (case kK => first | exact rfl | assumption); (case kp => (first | trivial | assumption | omega | l_fact)); (case kd => ktr_room); (case ku => ktr_units)); (intro v9 tl9 cc9 h9 g9 d9 tk9 r9 l9 hc9 F9 N9 G9); (obtain ⟨D9, t90, t91, c9, e9, e8⟩ := r9); subst e9; subst e8; (simp only [List.cons_append, List.nil_append] at N9); (replace l9 := fun q hq => l9 q hq _ (List.Mem.head _)); (try dsimp only at l9); (try k_lt l9); (try dsimp only); (try k_fold); (try k_sweep)) | (k_here; (with_reducible show wpAny _ _ (call (Value.ref 37) [Value.int _ _, Value.int _ _, Value.int _ _, Value.int _ _, Value.int _ _]) _ _ _); k_dflt (refine' Cut.use (c_to_jd _ _ _ _ _ _ _ _ _ _ _ _ _ _) ?k1 ?k2 ?k3 ?k4 ?k6 ?k9 ?k7 ?k8 ?k5 ?kK ?kp ?kd ?ku ?_; (case k1 => k_asm); (case k2 => k_asm); (case k3 => k_asm); (case k4 => k_asm); (case k5 => k_asm); (case k7 => assumption); (case k6 => tb_rel); (case k9 => tb_start); (case k8 => assumption); (case kK => first | exact rfl | assumption); (case kp => (first | trivial | assumption | omega | l_fact)); (case kd => ktr_room); (case ku => ktr_units)); (intro v9 tl9 cc9 h9 g9 d9 tk9 r9 l9 hc9 F9 N9 G9); (obtain ⟨e9, t9, e8⟩ := r9); subst e9; subst e8; (simp only [List.cons_append, List.nil_append] at N9); clear l9; (try dsimp only); (try k_fold); (try k_sweep))) | ((with_reducible show wpAny _ _ (eval (Expr.Call (Expr.Name _ _) _ _ _) _) _ _ _); (k_here; refine Call_ ?_)) | walk1 | dsimp only | (leave1; try dsimp only))
  all_goals exact hret.of0 ⟨rfl, _, rfl⟩ (by assumption) (by k_asm) (by ktr_rel) (by assumption)
end Mine
end
section
set_option maxRecDepth 100000
namespace Mine
theorem tab_of {lo : List Str} {mean : ExcName → Option Value} {mg mb : Str → Option Value} {h : Heap} {K : Frag} (T : Top view lo mean mg mb h) (X : K.In h) (x : Str) (f c P : Addr) (hx : (recsOf view).any (fun d => d.name == x) = true)
    (e : nsIn K mainGlobals x = some (some (.ref f))) (hf : ∃ o fd, K.lookup f = some o ∧ o.data = .func fd ∧ fd.code = .ref c) (hc : ∃ o vs, K.lookup c = some o ∧ o.data = .fields vs ∧ vs[11]? = some (.ref P)) : h.TableAt c P #[] := by
  obtain ⟨d, hd1, hd2⟩ := List.any_eq_true.mp hx
  have hn : d.name = x := by simpa using hd2
  obtain ⟨a, o, fd, c', P', h1, h2, h3, h4, h5, h6⟩ := T.tab d hd1
  have hm := mg_of X T.g e
  rw [hn, hm] at h1
  injection h1 with h1
  injection h1 with h1
  subst h1
  obtain ⟨o2, fd2, k1, k2, k3⟩ := hf
  have := X _ _ k1
  rw [h2] at this
  injection this with this
  subst this
  rw [h3] at k2
  injection k2 with k2
  subst k2
  rw [h4] at k3
  injection k3 with k3
  subst k3
  obtain ⟨⟨o3, vs3, j1, j2, j3, j4⟩, j5⟩ := h6
  obtain ⟨o4, vs4, i1, i2, i3⟩ := hc
  have := X _ _ i1
  rw [j1] at this
  injection this with this
  subst this
  rw [j3] at i2
  injection i2 with i2
  subst i2
  rw [j4] at i3
  injection i3 with i3
  injection i3 with i3
  subst i3
  exact ⟨⟨o3, vs3, j1, j2, j3, j4⟩, j5⟩
end Mine
namespace Mine
theorem tab88 {w : World} {lo : List Str} {mean : ExcName → Option Value} {mg mb : Str → Option Value} {h : Heap} (T : Top view lo mean mg mb h) (X : (theK.heap_1 w.params).In h) : h.TableAt 92 88 #[] :=
  tab_of T X "_tzolkin_count" 93 92 88 (by decide +kernel) rfl ⟨_, _, rfl, rfl, rfl⟩ ⟨_, _, rfl, rfl, rfl⟩
theorem tab109 {w : World} {lo : List Str} {mean : ExcName → Option Value} {mg mb : Str → Option Value} {h : Heap} (T : Top view lo mean mg mb h) (X : (theK.heap_1 w.params).In h) : h.TableAt 113 109 #[] :=
  tab_of T X "next_tzolkin_haab" 114 113 109 (by decide +kernel) rfl ⟨_, _, rfl, rfl, rfl⟩ ⟨_, _, rfl, rfl, rfl⟩
/-- the ground of the law: without the two tables -/
abbrev gnd (h : Heap) : Heap := hideAll h [88, 109]
theorem gnd_ns {h : Heap} {a : Addr} {m : Str → Option Value} (hn : h.Ns a m) (ha : a ∉ [88, 109]) : (gnd h).Ns a m := by
  obtain ⟨o, es, ep, ho, r⟩ := hn
  exact ⟨o, es, ep, hideAll_get _ ho ha, r⟩
theorem gnd_in {w : World} {h : Heap} (X : (theK.heap_1 w.params).In h) : (theK.heap_1 w.params).In (gnd h) := fun b o q => hideAll_get _ (X b o q) fun hm => by
  rcases List.mem_cons.mp hm with rfl | hm
  · exact absurd (show (theK.heap_1 w.params).lookup 88 = none from rfl) (by rw [q]; exact fun z => nomatch z)
  · rcases List.mem_cons.mp hm with rfl | hm
    · exact absurd (show (theK.heap_1 w.params).lookup 109 = none from rfl) (by rw [q]; exact fun z => nomatch z)
    · exact nomatch hm
theorem gnd_top {mean : ExcName → Option Value} {mg mb : Str → Option Value} {h : Heap} (T : Top view (looseW view ["HAAB", "TZOLKIN"]) mean mg mb h) (t1 : h.get? 88 = some (tabO #[])) (t2 : h.get? 109 = some (tabO #[])) : Top p0 lo0 mean mg mb (gnd h) where
  g := gnd_ns T.g (by decide)
  b := gnd_ns T.b (by decide)
  nolimit := by
    obtain ⟨mc, h1, h2⟩ := T.nolimit
    exact ⟨mc, gnd_ns h1 (by decide), h2⟩
  nodigits := by
    obtain ⟨mc, h1, h2⟩ := T.nodigits
    exact ⟨mc, gnd_ns h1 (by decide), h2⟩
  fn := fun d hd => nomatch (show d ∈ ([] : List DefRec) from hd)
  own := fun o ho => nomatch (show o ∈ ([] : List OwnSpec) from ho)
  const := fun x d h => by rw [show valOf p0 x = none from rfl] at h; cases h
  free := fun x h1 h2 _ _ _ => by
    have key : ∀ l : List Str, l.all (fun y => lo0.contains y) = true → x ∉ l := fun l hl hm => h2 (by simpa using List.all_eq_true.mp hl x hm)
    exact T.free x h1 (key _ (by decide +kernel)) (key _ (by decide +kernel)) (key _ (by decide +kernel)) (key _ (by decide +kernel))
  builtins := T.builtins
  tab := fun d hd => nomatch (show d ∈ ([] : List DefRec) from hd)
  bmain := by
    obtain ⟨bm, ob, h1, h2, h3, h4, h5, h6⟩ := T.bmain
    refine ⟨bm, ob, h1, h2, hideAll_get _ h3 fun hm => ?_, h4, h5, h6⟩
    rcases List.mem_cons.mp hm with rfl | hm
    · rw [t1] at h3; injection h3 with h3; subst h3; exact nomatch h6
    · rcases List.mem_cons.mp hm with rfl | hm
      · rw [t2] at h3; injection h3 with h3; subst h3; exact nomatch h6
      · exact nomatch hm
  seer := fun h => absurd h (by decide)
end Mine
namespace Mine
theorem gnd_fr {h h' : Heap} {L : Addr} {m : Str → Option Value} (F : Fr h L h' m) : Fr (gnd h) L h' m := ⟨F.ns, fun b o q => F.keep b o (of_hideAll _ q), by rw [show (gnd h).objs.size = h.objs.size from hideAll_size _ _]; exact F.above⟩
theorem gnd_news {h h' : Heap} {L : Addr} {m : Str → Option Value} {news : List (Addr × Obj)} (F : Fr h L h' m) (N : News h L h' news) (t1 : h.get? 88 = some (tabO #[])) (t2 : h.get? 109 = some (tabO #[])) : News (gnd h) L h' (news ++ [(88, tabO #[]), (109, tabO #[])]) := fun p hp => by
  have nl : ∀ b o, h.get? b = some o → b ≠ L := fun b o q => Nat.ne_of_lt (Nat.lt_of_lt_of_le (Heap.lt_size q) F.above)
  rcases List.mem_append.mp hp with hp | hp
  · refine ⟨(N p hp).1, (N p hp).2.1, ?_⟩
    cases q : (gnd h).get? p.1 with
    | none => rfl
    | some o => have := of_hideAll _ q; rw [(N p hp).2.2] at this; cases this
  · rcases List.mem_cons.mp hp with rfl | hp
    · exact ⟨F.keep _ _ t1, nl _ _ t1, hideAll_none _ (by decide)⟩
    · rcases List.mem_cons.mp hp with rfl | hp
      · exact ⟨F.keep _ _ t2, nl _ _ t2, hideAll_none _ (by decide)⟩
      · exact nomatch hp
theorem cc0 : CC [(88, tabO #[]), (109, tabO #[])] := ⟨#[], #[], rfl, by first | trivial | simp [TriplesOk], by first | trivial | simp [TriplesOk]⟩
theorem gnd_old {h h' : Heap} {L : Addr} {m : Str → Option Value} {pre cc : List (Addr × Obj)} (F : Fr (gnd h) L h' m) (N : News (gnd h) L h' (pre ++ cc)) (C : CC cc) (t1 : h.TableAt 92 88 #[]) (t2 : h.TableAt 113 109 #[]) : OldK h h' := by
  obtain ⟨ps, qs, rfl, _, _⟩ := C
  have g1 := (N (88, tabO ps) (List.mem_append_right _ (.head _))).1
  have g2 := (N (109, tabO qs) (List.mem_append_right _ (.tail _ (.head _)))).1
  have other : ∀ b o, h.get? b = some o → b ≠ 88 → b ≠ 109 → h'.get? b = some o := fun b o q n1 n2 => F.keep b o (hideAll_get _ q fun hm => by
    rcases List.mem_cons.mp hm with z | hm
    · exact n1 z
    · rcases List.mem_cons.mp hm with z | hm
      · exact n2 z
      · exact nomatch hm)
  refine ⟨fun b o q => ?_, fun b o q => ?_⟩
  · by_cases z1 : b = 88
    · subst z1
      have := q.symm.trans t1.2
      injection this with this
      subst this
      exact .inr (.inl ⟨t1.isCodeTable, rfl, #[], ps, rfl, by rw [g1]; simp⟩)
    · by_cases z2 : b = 109
      · subst z2
        have := q.symm.trans t2.2
        injection this with this
        subst this
        exact .inr (.inl ⟨t2.isCodeTable, rfl, #[], qs, rfl, by rw [g2]; simp⟩)
      · exact .inl (other b o q z1 z2)
  · by_cases z1 : b = 88
    · exact ⟨_, z1 ▸ g1⟩
    · by_cases z2 : b = 109
      · exact ⟨_, z2 ▸ g2⟩
      · exact ⟨o, other b o q z1 z2⟩
end Mine
end
section
set_option maxRecDepth 100000
namespace Mine
noncomputable def fdAt (K : Frag) (f : Addr) : Option FuncData := match K.lookup f with
  | some o => (match o.data with | .func fd => some fd | _ => none)
  | none => none
noncomputable def bodyAt (w : World) : List Stmt := match fdAt (theK.heap_1 w.params) 140 with
  | some fd => (match fd.body with | .stmts b => b | _ => [])
  | none => []
noncomputable def scopeAt (w : World) : Scope := match fdAt (theK.heap_1 w.params) 140 with
  | some fd => fd.scope
  | none => { kind := .module, names := [], isGenerator := false, isCoroutine := false }
/-- the law's statements from the k-th on -/
abbrev Seg (w : World) (k dp un : Nat) (gd : Option (List Code)) (L : Addr) (ccd : Value) (cl : List (Str × Addr)) (Q : Flow → Shared → Prop) (E : Value → Shared → Prop) (s : Shared) : Prop :=
  wpAny (model PySem.Challenge.rw_jb0005_01.row.prog w) (ktrTop dp un gd "law" (scopeAt w) L 140 ccd cl []) (execs ((bodyAt w).drop k) (envX "law" (scopeAt w) L 140 ccd cl)) Q E s
/-- the law is done: it gave True -/
abbrev Done (h₀ : Heap) (L : Addr) (os : OsState) (Q : Flow → Shared → Prop) : Prop :=
  ∀ (h' : Heap) (g' : Array GenState) (d' : Drawn) (tk : Nat) (m' : Str → Option Value) (pre cc : List (Addr × Obj)), Fr h₀ L h' m' → News h₀ L h' (pre ++ cc) → CC cc → AllBare g' → Q (.ret (.bool true)) { heap := h', gens := g', drawn := d', toks := tk, os := os }
end Mine
end
section
namespace Mine
set_option maxRecDepth 100000 in
set_option maxHeartbeats 8000000 in
theorem seg31 (w : World) (mean : ExcName → Option Value) (mg mb : Str → Option Value) (h₀ : Heap) (L c1 c2 : Addr) (ccd : Value) (m : Str → Option Value) (pre cc : List (Addr × Obj)) (s : Shared) (Q : Flow → Shared → Prop) (E : Value → Shared → Prop) (dp un : Nat) (gd : Option (List Code)) 
    (hd1 : dp + 20 < recursionLimit) (hu1 : un + 200 < cLine) (hB : Below callerA h₀ [] h₀) (hF : Fr h₀ L s.heap m) (hK : (theK.heap_1 w.params).In h₀) (hN : News h₀ L s.heap (pre ++ cc)) (hO : PreOk pre) (hC : CC cc) (hG : AllBare s.gens) (hT : Top p0 lo0 mean mg mb h₀) (hQ : Done h₀ L s.os Q)
     : Seg w 31 dp un gd L ccd [("names", c2), ("past", c1)] Q E s := by
  unfold Seg
  revert hK
  k_fill
  intro hK
  conv in (occs := *) (scopeAt w) => all_goals whnf
  refine wpAny_execs_cons ?_
  w_top off
  repeat' (first | (k_unfold; (try dsimp only)) | (k_end; wrow_close) | ((with_reducible show wpAny _ _ (eval (Expr.Call (Expr.Name _ _) _ _ _) _) _ _ _); (k_here; refine Call_ ?_)) | walk1 | dsimp only | (leave1; try dsimp only))
  all_goals exact hQ _ _ _ _ _ _ _ hF hN hC hG
end Mine
end
section
namespace Mine
set_option maxRecDepth 100000 in
set_option maxHeartbeats 8000000 in
theorem seg30 (w : World) (mean : ExcName → Option Value) (mg mb : Str → Option Value) (h₀ : Heap) (L c1 c2 : Addr) (ccd : Value) (m : Str → Option Value) (pre cc : List (Addr × Obj)) (s : Shared) (Q : Flow → Shared → Prop) (E : Value → Shared → Prop) (dp un : Nat) (gd : Option (List Code)) (o2 : Obj) (D1 D2 Dn : Addr) (dd : Int) (mm : Str) (t3 t4 : Tok) (k2 k3 : Nat) (vs : List Value) (ns : List Int)
    (hd1 : dp + 20 < recursionLimit) (hu1 : un + 200 < cLine) (hB : Below callerA h₀ [] h₀) (hF : Fr h₀ L s.heap m) (hK : (theK.heap_1 w.params).In h₀) (hN : News h₀ L s.heap (pre ++ cc)) (hO : PreOk pre) (hC : CC cc) (hG : AllBare s.gens) (hT : Top p0 lo0 mean mg mb h₀) (hQ : Done h₀ L s.os Q)
    (hc2 : (c2, o2) ∈ pre) (ho2 : o2.data = .cell (some (.ref D1))) (h1 : m "numbers" = some (.ref Dn)) (h2 : m "haab" = some (.ref D2)) (hn : (Dn, W.listOf vs.toArray k3) ∈ pre) (hI : IntsAre vs ns) (hlen : (0 : Int) < ns.length) (hD2 : (D2, tupO [.int dd t3, .str mm t4] k2) ∈ pre) : Seg w 30 dp un gd L ccd [("names", c2), ("past", c1)] Q E s := by
  unfold Seg
  revert hK
  k_fill
  intro hK
  conv in (occs := *) (scopeAt w) => all_goals whnf
  refine wpAny_execs_cons ?_
  w_top off
  repeat' (first | (k_unfold; (try dsimp only)) | (k_end; wrow_close) | ((with_reducible show wpAny _ _ (call (Value.ref _) _) _ _ _); first | (k_here; (with_reducible show wpAny _ _ (call (Value.ref 135) [Value.int 1 _, _, _, Value.int _ _]) _ _ _); k_dflt (refine' CutA.use (a1_low _ _ _ _ _ _ _ _ _ _ _ _ _ _) ?k1 ?k2 ?k3 ?k4 ?k6 ?k9 ?k7 ?k8 ?k5 ?kK ?kp ?kd ?ku ?kI ?kT ?_; (case k1 => k_asm); (case k2 => k_asm); (case k3 => k_asm); (case k4 => k_asm); (case k5 => k_asm); (case k7 => assumption); (case k6 => tb_rel); (case k9 => tb_start); (case k8 => assumption); (case kK => exact rfl); (case kp => (refine ⟨by first | assumption | omega, ?_⟩; assumption)); (case kd => ktr_room); (case ku => ktr_units); (case kI => assumption); (case kT => assumption)); (intro v9 tl9 cc9 h9 g9 d9 tk9 r9 l9 hc9 F9 N9 G9); (obtain ⟨e9, t9, e8⟩ := r9); subst e9; subst e8; (simp only [List.cons_append, List.nil_append] at N9); clear l9; (try dsimp only); (try k_fold); (try k_sweep)) | (k_here; (with_reducible show wpAny _ _ (call (Value.ref 135) [Value.int 0 _, _, _, Value.int _ _]) _ _ _); k_dflt (refine' CutA.use (a0_low _ _ _ _ _ _ _ _ _) ?k1 ?k2 ?k3 ?k4 ?k6 ?k9 ?k7 ?k8 ?k5 ?kK ?kp ?kd ?ku ?kI ?kT ?_; (case k1 => k_asm); (case k2 => k_asm); (case k3 => k_asm); (case k4 => k_asm); (case k5 => k_asm); (case k7 => assumption); (case k6 => tb_rel); (case k9 => tb_start); (case k8 => assumption); (case kK => exact rfl); (case kp => (first | assumption | omega)); (case kd => ktr_room); (case ku => ktr_units); (case kI => assumption); (case kT => assumption)); (intro v9 tl9 cc9 h9 g9 d9 tk9 r9 l9 hc9 F9 N9 G9); (obtain ⟨e9, t9, e8⟩ := r9); subst e9; subst e8; (simp only [List.cons_append, List.nil_append] at N9); clear l9; (try dsimp only); (try k_fold); (try k_sweep)) | (k_here; (with_reducible show wpAny _ _ (call (Value.ref 135) [Value.int 3 _, _, _, Value.int _ _]) _ _ _); k_dflt (refine' CutA.use (a3_low _ _ _ _ _ _ _ _ _) ?k1 ?k2 ?k3 ?k4 ?k6 ?k9 ?k7 ?k8 ?k5 ?kK ?kp ?kd ?ku ?kI ?kT ?_; (case k1 => k_asm); (case k2 => k_asm); (case k3 => k_asm); (case k4 => k_asm); (case k5 => k_asm); (case k7 => assumption); (case k6 => tb_rel); (case k9 => tb_start); (case k8 => assumption); (case kK => exact rfl); (case kp => (first | assumption | omega)); (case kd => ktr_room); (case ku => ktr_units); (case kI => assumption); (case kT => assumption)); (intro v9 tl9 cc9 h9 g9 d9 tk9 r9 l9 hc9 F9 N9 G9); (obtain ⟨e9, t9, e8⟩ := r9); subst e9; subst e8; (simp only [List.cons_append, List.nil_append] at N9); clear l9; (try dsimp only); (try k_fold); (try k_sweep))) | ((with_reducible show wpAny _ _ (subscriptTail _ _ _ _) _ _ _); (k_here; (with_reducible show wpAny _ _ (subscriptTail _ _ (Value.ref _) (Value.int _ _)) _ _ _); (with_unfolding_all refine' item_anyK ?k1 ?k2 ?k3 ?k4 ?k5 ?_ ?k6; (case k1 => exact News.isList (by k_asm) (by k_mem)); (case k2 => assumption); (case k3 => decide); (case k4 => first | assumption | omega); (case k5 => decide); (case k6 => with_unfolding_all rfl); k_whole); intro t9; (try dsimp only))) | ((with_reducible show wpAny _ _ (eval (Expr.Name _ _) _) _ _ _); first | (k_here; refine' nameX_C ?N ?c ?m ?d ?_ ?k ?x ?b; (case k => exact rfl); (case x => exact rfl); (case b => decide); (case c => exact rfl); (case N => k_asm); (case m => k_mem); (case d => assumption)) | (k_here; refine' nameX_L ?F ?v ?_ ?k ?x ?d; (case k => exact rfl); (case x => exact rfl); (case d => decide); (case F => k_asm); (case v => (first | assumption | exact if_pos rfl | (refine (if_neg (by decide)).trans ?_; first | assumption | exact if_pos rfl | (refine (if_neg (by decide)).trans ?_; first | assumption | exact if_pos rfl | (refine (if_neg (by decide)).trans ?_; first | assumption | exact if_pos rfl | (refine (if_neg (by decide)).trans ?_; first | assumption | exact if_pos rfl)))))))) | ((with_reducible show wpAny _ _ (eval (Expr.Call (Expr.Name _ _) _ _ _) _) _ _ _); (k_here; refine Call_ ?_)) | walk1 | dsimp only | (leave1; try dsimp only))
  all_goals (first | exact hQ _ _ _ _ _ _ _ (by k_asm) (by k_asm) (by assumption) (by assumption) | trace_state)
end Mine
end
section
namespace Mine
/-- a call of one of the law's two tables: nothing but the heap is turned -/
abbrev CutN (w : World) (mean : ExcName → Option Value) (mg mb : Str → Option Value) (f : Addr) (xs : List Str) : Prop :=
  ∀ (dp un : Nat) (gd : Option (List Code)) (cn : Str) (cs : Scope) (a : Addr) (ccd : Value) (cl : List (Str × Addr)) (outer : List Env) (A₀ : Around) (base h₀ : Heap) (L : Addr) (m : Str → Option Value) (news : List (Addr × Obj)) (s : Shared) (Q E : Value → Shared → Prop),
    Below A₀ base outer h₀ → Fr h₀ L s.heap m → (theK.heap_1 w.params).In h₀ → News h₀ L s.heap news → Top p0 lo0 mean mg mb h₀ → cs.kind = .function → dp + 1 < recursionLimit → un + 10 < cLine →
      (∀ (D : Addr) (vs : List Value) (c : Nat) (h' : Heap) (tk' : Nat), StrsAre vs xs → (∀ q ∈ news, q.1 < D) → Fr h₀ L h' m → News h₀ L h' ((D, W.listOf vs.toArray c) :: news) → Q (.ref D) { s with heap := h', toks := tk' }) →
      wpAny (model PySem.Challenge.rw_jb0005_01.row.prog w) (ktrTop dp un gd cn cs L a ccd cl outer) (call (.ref f) []) Q E s
theorem CutN.use {w : World} {mean : ExcName → Option Value} {mg mb : Str → Option Value} {f : Addr} {xs : List Str}
    {dp un : Nat} {gd : Option (List Code)} {cn : Str} {cs : Scope} {a : Addr} {ccd : Value} {cl : List (Str × Addr)} {outer : List Env} {A₀ : Around} {base h₀ : Heap} {L : Addr} {m : Str → Option Value} {news : List (Addr × Obj)} {s : Shared} {Q E : Value → Shared → Prop}
    (C : CutN w mean mg mb f xs) (B : Below A₀ base outer h₀) (F : Fr h₀ L s.heap m) (X : (theK.heap_1 w.params).In h₀) (N : News h₀ L s.heap news) (T : Top p0 lo0 mean mg mb h₀) (hk : cs.kind = .function) (hd : dp + 1 < recursionLimit) (hu : un + 10 < cLine)
    (ret : ∀ (D : Addr) (vs : List Value) (c : Nat) (h' : Heap) (tk' : Nat), StrsAre vs xs → (∀ q ∈ news, q.1 < D) → Fr h₀ L h' m → News h₀ L h' ((D, W.listOf vs.toArray c) :: news) → Q (.ref D) { s with heap := h', toks := tk' }) :
    wpAny (model PySem.Challenge.rw_jb0005_01.row.prog w) (ktrTop dp un gd cn cs L a ccd cl outer) (call (.ref f) []) Q E s :=
  C _ _ _ _ _ _ _ _ _ _ _ _ _ _ _ _ _ _ B F X N T hk hd hu ret
set_option maxRecDepth 100000 in
set_option maxHeartbeats 8000000 in
theorem n_names (w : World) (mean : ExcName → Option Value) (mg mb : Str → Option Value) : CutN w mean mg mb 121 tzL := by
  unfold CutN
  k_fill
  intro dp un gd cn cs a ccd cl outer A₀ base h₀ L m news s Q E hB hF hK hN hT hk hd1 hu1 hret
  refine wpAny_call ?_
  k_dflt cell_enter
  w_top off
  repeat' (first | (k_unfold; (try dsimp only)) | (k_end; wrow_close) | ((with_reducible show wpAny _ _ (eval (Expr.Call (Expr.Name _ _) _ _ _) _) _ _ _); (k_here; refine Call_ ?_)) | walk1 | dsimp only | (leave1; try dsimp only))
  all_goals (refine' hret _ _ _ _ _ ?st ?l ?F ?N; (case N => k_asm); (case F => k_asm); (case l => first | assumption | exact lt_left (by assumption) | exact allLt_out (by assumption)); (case st => repeat constructor))
set_option maxRecDepth 100000 in
set_option maxHeartbeats 8000000 in
theorem n_moons (w : World) (mean : ExcName → Option Value) (mg mb : Str → Option Value) : CutN w mean mg mb 128 haabL := by
  unfold CutN
  k_fill
  intro dp un gd cn cs a ccd cl outer A₀ base h₀ L m news s Q E hB hF hK hN hT hk hd1 hu1 hret
  refine wpAny_call ?_
  k_dflt cell_enter
  w_top off
  repeat' (first | (k_unfold; (try dsimp only)) | (k_end; wrow_close) | ((with_reducible show wpAny _ _ (eval (Expr.Call (Expr.Name _ _) _ _ _) _) _ _ _); (k_here; refine Call_ ?_)) | walk1 | dsimp only | (leave1; try dsimp only))
  all_goals (refine' hret _ _ _ _ _ ?st ?l ?F ?N; (case N => k_asm); (case F => k_asm); (case l => first | assumption | exact lt_left (by assumption) | exact allLt_out (by assumption)); (case st => repeat constructor))
end Mine
end
section
set_option maxRecDepth 100000
set_option maxHeartbeats 2000000
namespace Mine
open LCg LCt
/-- the ints of a range that pass -/
noncomputable def passF (a c : Int) (p : Nat → Bool) : Nat → Nat → List Int
  | 0, _ => []
  | k + 1, i => if p i = true then (a + (i : Int) * c) :: passF a c p k (i + 1) else passF a c p k (i + 1)
theorem ints_app {vs : List Value} {ns : List Int} {n : Int} {t : Tok} (h : IntsAre vs ns) : IntsAre (vs ++ [.int n t]) (ns ++ [n]) := by
  induction h with
  | nil => exact .cons _ _ .nil
  | cons a b _ ih => exact .cons _ _ ih
section
variable {prog : Program} {w : World} {A : Around} {E : Value → Shared → Prop} {s : Shared} {h₀ : Heap} {L : Addr} {m : Str → Option Value} {env : Env}
theorem fits_rest {ct : Expr} {x : Str} {px : Pos} {scope : Scope} {cl : List (Str × Addr)} {a c : Int} {p : Nat → Bool} {news : List (Addr × Obj)} {Fin : List Value → List (Addr × Obj) → Prop}
    (hko : (relabel scope env).kind = .function) (hx : (relabel scope env).names.lookup x = some .local) (hdb : (x == ("__debug__" : Str)) = false)
    (fin : ∀ ys ns, IntsAre ys ns → ns = passF a c p n 0 → Fin ys news)
    (turn : ∀ i < n, ∀ t I oI C oC D oD m₂ h tk (E' : Value → Shared → Prop), NsObj oC m₂ → m₂ x = some (.int (a + (i : Int) * c) t) → Fr h₀ L h m → News h₀ L h ((I, oI) :: (C, oC) :: (D, oD) :: news) →
      wpAny (model prog w) A (isTrue ct (compEnvC scope cl C env) (eval ct (compEnvC scope cl C env))) (fun ok s' => ok = p i ∧ ∃ h' tk', s' = { s with heap := h', toks := tk' } ∧ Fr h₀ L h' m ∧ News h₀ L h' ((I, oI) :: (C, oC) :: (D, oD) :: news)) E' { s with heap := h, toks := tk }) :
    ∀ k i ys ns, i + k = n → IntsAre ys ns → ns ++ passF a c p k i = passF a c p n 0 →
      CompRestT prog w A h₀ L m env ct (.Name x px) x scope cl s (fun _ => True) (fun i v => ∃ t, v = .int (a + (i : Int) * c) t) Fin k i ys news := by
  intro k
  induction k with
  | zero =>
    intro i ys ns hi hys hns
    exact CompRestT.zero (fin ys ns hys (by simpa [passF] using hns))
  | succ k ih =>
    intro i ys ns hi hys hns
    refine CompRestT.succ fun v I oI C oC D m₂ h tk E' hv hC hx' F N off ne => ?_
    obtain ⟨t, rfl⟩ := hv
    refine wpAny_mono (turn i (by omega) t I oI C oC D _ m₂ h tk E' hC hx' F N) (fun ok s' hs => ?_) fun _ _ e => e
    obtain ⟨rfl, h', tk', rfl, F', N'⟩ := hs
    by_cases hp : p i = true
    · rw [if_pos hp]
      refine LCgL.ld_own (m₂ := m₂) N' (.tail _ (.head _)) hC hx' ?_ hko hx hdb
      refine LCg.CompEnd.intro F' N' news (fun q hq => hq) off trivial ?_
      refine ih (i + 1) _ (ns ++ [a + (i : Int) * c]) (by omega) (ints_app hys) ?_
      rw [← hns]
      simp only [passF, if_pos hp, List.append_assoc, List.singleton_append]
    · rw [if_neg hp]
      refine LCg.CompEnd.intro F' N' news (fun q hq => hq) off trivial ?_
      refine ih (i + 1) _ ns (by omega) hys ?_
      rw [← hns]
      simp only [passF, if_neg hp]
end
end Mine
end
section
set_option maxRecDepth 100000
set_option maxHeartbeats 2000000
namespace Mine
open LCg LCt
section
variable {prog : Program} {w : World} {A : Around} {E : Value → Shared → Prop} {s : Shared} {h₀ : Heap} {L : Addr} {m : Str → Option Value} {env : Env}
theorem rstep_st {I : Addr} {a c : Int} {n : Nat} : ∀ i (h h' : Heap) (o : Obj) (nw : List (Addr × Obj)), IsRangeIter h I (a + (i : Nat) * c) ((n : Int) - (i : Nat)) c → h.get? I = some o → h'.get? I = some o → (∀ b o, h₀.get? b = some o → h'.get? b = some o) → News h₀ L h' nw → True → IsRangeIter h' I (a + (i : Nat) * c) ((n : Int) - (i : Nat)) c :=
  fun i h h' o nw st e e' _ _ _ => by
    have st' : h.get? I = some _ := st
    show h'.get? I = some _
    rw [e', ← e]; exact st'
/-- the numbers of a range, of any step, that pass a test, bound to a name -/
theorem Assign_fits {ct : Expr} {iter : Expr} {x y : Str} {px px' py : Pos} {scope : Scope} {cl : List (Str × Addr)} {pos spos : Pos} {Q : Flow → Shared → Prop} (hLe : env.locals = L)
    (hsw : swapsWith (.ListComp (.Name x px') [⟨.Name x px, iter, [ct], 0⟩] scope pos) (some (.Name y py)) spos.line env = pure true)
    (hclos : closureFor scope env = pure cl) (hcell : ∀ z ∈ scope.names, z.2 ≠ .cell) (hkind : scope.kind = .function)
    (hnames : ∀ z ∈ scope.names, z.2 = .local → scope.names.lookup z.1 = some .local) (hx : scope.names.lookup x = some .local) (hdb : (x == ("__debug__" : Str)) = false)
    (hy : env.kindOf y = some .local) (hp : (env.scope.kind == .class || (env.scope.kind == .module && env.locals != env.globals)) = false)
    (h : wpAny (model prog w) A (eval iter env) (fun xv s₁ => ∃ r a b c t u v n news p, xv = .ref r ∧ A.handled = none ∧ Fr h₀ L s₁.heap m ∧ News h₀ L s₁.heap news ∧ IsRange s₁.heap r a b c t u v ∧ Builtin.Range.small a b c = true ∧ Builtin.Range.rangeSize a b c = ((n : Nat) : Int) ∧ n ≤ sizeLine ∧
      (∀ i < n, ∀ t I oI C oC D oD m₂ h tk (E' : Value → Shared → Prop), NsObj oC m₂ → m₂ x = some (.int (a + (i : Int) * c) t) → Fr h₀ L h m → News h₀ L h ((I, oI) :: (C, oC) :: (D, oD) :: news) →
        wpAny (model prog w) A (isTrue ct (compEnvC scope cl C env) (eval ct (compEnvC scope cl C env))) (fun ok s' => ok = p i ∧ ∃ h' tk', s' = { s₁ with heap := h', toks := tk' } ∧ Fr h₀ L h' m ∧ News h₀ L h' ((I, oI) :: (C, oC) :: (D, oD) :: news)) E' { s₁ with heap := h, toks := tk }) ∧
      (∀ D ys ns h tk, IntsAre ys ns → ns = passF a c p n 0 → Fr h₀ L h (fun z => if z = y then some (.ref D) else m z) → News h₀ L h ((D, lst ys) :: news) → Q .next { s₁ with heap := h, toks := tk })) E s)
    (hs : ∀ x, foldedSetIterable iter env x = pure x := by intro _; rfl) :
    wpAny (model prog w) A (exec (.Assign [.Name y py] (.ListComp (.Name x px') [⟨.Name x px, iter, [ct], 0⟩] scope pos) spos) env) Q E s := by
  subst hLe
  rw [exec_Assign_Name_used _ _ _ _ hsw]
  refine wpAny_bind (wpAny_standAt (wpAny_bind ?_))
  show wpAny _ A (do let _ ← comprehension (.ListComp (.Name x px') [⟨.Name x px, iter, [ct], 0⟩] scope pos) scope env _ (newList []) false (eval iter env) (some (assign (.Name y py) env))) _ _ s
  refine wpAny_bind (wpAny_mono (wpAny_comprehension_free (use := some (assign (.Name y py) env)) (Q := fun _ s' => Q .next s') rfl hs hclos hkind hnames
    (wpAny_mono h (fun xv s₁ h₁ => ?_) fun _ _ e => e)) (fun _ s' hq => wpAny_pure (wpAny_pure hq)) fun _ _ e => e)
  obtain ⟨r, a, b, c, t, u, v, n, news, p, rfl, hh, F, N, hr, hsm, hn, hsz, turn, fin⟩ := h₁
  refine wpAny_pyIter_range hr hsm ?_
  have up : ∀ x o, s₁.heap.get? x = some o → (s₁.heap.push { cls := .type "range_iterator", data := .fields #[rawInt a, rawInt (Builtin.Range.rangeSize a b c), rawInt c] }).get? x = some o := fun x o e => Heap.get?_push_of_some _ e
  let W : Walks prog w A s₁.heap.objs.size [s₁.heap.objs.size] [s₁.heap.objs.size] n (fun i v => ∃ t, v = .int (a + (i : Int) * c) t) (fun i h => IsRangeIter h s₁.heap.objs.size (a + (i : Nat) * c) ((n : Int) - (i : Nat)) c) := Walks.range hh _ a c n
  refine block_T W hsz (fun i h st => ⟨_, st⟩) rstep_st hcell hkind hx (by show IsRangeIter _ _ _ _ _; rw [hn]; simpa using Heap.get?_push_size _ rfl) (fun b hb => ?_)
    (F.keeps up) (N.grown up) (Nat.ne_of_lt F.ns.lt) (next_is_new F) (fun p hp => Nat.ne_of_lt (Heap.lt_size (N p hp).1)) trivial (Fin := FinA h₀ env.locals m { s₁ with heap := s₁.heap.push { cls := .type "range_iterator", data := .fields #[rawInt a, rawInt (Builtin.Range.rangeSize a b c), rawInt c] } } y Q)
    (fits_rest (s := { s₁ with heap := s₁.heap.push { cls := .type "range_iterator", data := .fields #[rawInt a, rawInt (Builtin.Range.rangeSize a b c), rawInt c] } }) (px := px') (n := n) (p := p) (by simp [relabel, hkind]) (lookup_relabel_local hx) hdb (fun ys ns hi he => fun D h tk F' N' _ => fin D ys ns h tk hi he F' N') (fun i hi t I oI C oC D oD m₂ h tk E' hC hx' F' N' => turn i hi t I oI C oC D oD m₂ h tk E' hC hx' F' N') n 0 [] [] (by omega) .nil rfl) ?_
  · rw [List.mem_singleton.mp hb]
    show s₁.heap.objs.size < (s₁.heap.push _).objs.size
    rw [Heap.size_push]; exact Nat.lt_succ_self _
  · intro D C h' tk m' ys news' F' N' o1 hn hC₀ hD₀ hCL hDL hCD offC fin
    show wpAny _ A (assign (.Name y py) env (.ref D)) _ _ _
    refine wpAny_assign_Name (wpAny_storeName_local hy F'.ns (fun h₂ hn₂ hs₂ => ?_) hp)
    have hL₀ : h₀.get? env.locals = none := Heap.get?_none_of_le F'.above
    have F₂ : Fr h₀ env.locals h₂ (fun z => if z = y then some (.ref D) else m z) := ⟨hn₂, fun b o e => hs₂.extBut b o (fun q => by rw [q, hL₀] at e; cases e) (F'.keep b o e), F'.above⟩
    refine ⟨m', hn.sameBut hs₂ hCL, fun h'' hs'' => fin D h'' _ (F₂.change hs'' hCL hC₀) (fun p hp => ?_) o1⟩
    have z : h₂.get? p.1 = some p.2 := hs₂.extBut _ _ (N' p hp).2.1 (N' p hp).1
    refine ⟨hs''.extBut _ _ ?_ z, (N' p hp).2⟩
    rcases List.mem_cons.mp hp with rfl | hp
    · exact Ne.symm hCD
    · exact offC p hp
end
end Mine
end
section
set_option maxRecDepth 100000
set_option maxHeartbeats 2000000
namespace Mine
open LCg
abbrev comp2 (elt t0 i0 t1 i1 : Expr) (scope : Scope) (pos : Pos) : Expr := .ListComp elt [⟨t0, i0, [], 0⟩, ⟨t1, i1, [], 0⟩] scope pos
theorem turn_nest0 (elt t0 i0 t1 i1 : Expr) (scope : Scope) (pos : Pos) (it acc : Value) (env : Env) :
    compTurn (comp2 elt t0 i0 t1 i1 scope pos) 0 it acc env = (standAt i0.pos >>= fun _ => pyNext it >>= fun r => match r with
      | none => pure (.done .next)
      | some v => letOwnedTupleGo t0 it v >>= fun _ => assign t0 env v >>= fun _ => eval i1 env >>= fun x => standAt i1.pos >>= fun _ => foldedSetIterable i1 env x >>= fun x =>
        holding [x] (pyIter x) >>= fun it' => runOwn (.compStart (comp2 elt t0 i0 t1 i1 scope pos) 1 it' acc env) env >>= fun _ =>
          again (.compLoop (comp2 elt t0 i0 t1 i1 scope pos) 0 it acc env)) := by rfl
theorem turn_nest1 (elt t0 i0 t1 i1 : Expr) (scope : Scope) (pos : Pos) (it acc : Value) (env : Env) :
    compTurn (comp2 elt t0 i0 t1 i1 scope pos) 1 it acc env = (standAt i1.pos >>= fun _ => pyNext it >>= fun r => match r with
      | none => pure (.done .next)
      | some v => letOwnedTupleGo t1 it v >>= fun _ => assign t1 env v >>= fun _ =>
        (eval elt env >>= fun x => call (.builtin "list.append") [acc, x] >>= fun _ => pure ()) >>= fun _ =>
          again (.compLoop (comp2 elt t0 i0 t1 i1 scope pos) 1 it acc env)) := by rfl
section
variable {prog : Program} {w : World} {A : Around} {R : Result → Shared → Prop} {s : Shared}
theorem start_nest1 {elt t0 i0 t1 i1 scope pos it acc env}
    (h0 : codeAny (model prog w) A (.compLoop (comp2 elt t0 i0 t1 i1 scope pos) 1 it acc env) R s)
    (h : wpAny (model prog w) A (pyIter it) (fun it' s' => codeAny (model prog w) A (.compLoop (comp2 elt t0 i0 t1 i1 scope pos) 1 it' acc env) R s')
      (notedBy (model prog w) A env fun x s' => R (.error x) s') s) :
    codeAny (model prog w) A (.compStart (comp2 elt t0 i0 t1 i1 scope pos) 1 it acc env) R s := by
  refine codeAny_of_tree ?_
  show wpAny _ _ ((compStart (comp2 elt t0 i0 t1 i1 scope pos) 1 it acc env).onRaise (fun x => do noteFrame x env; standAt theWindowsPlace)) _ _ s
  refine wpAny_notedAt ?_
  unfold compStart
  show wpAny _ _ (ask >>= _) _ _ s
  refine wpAny_bind (wpAny_askSetting (wpAny_ite ?_))
  split
  · first
      | exact wpAny_bind (wpAny_pure (wpAny_pure (And.intro rfl h0)))
      | exact wpAny_pure (And.intro rfl h0)
  · first
      | exact wpAny_bind (wpAny_rule (wpAny_bind (wpAny_standAt (wpAny_bind (wpAny_mono h (fun it' s' h' => wpAny_pure (And.intro rfl h')) fun _ _ x => x)))))
      | (refine wpAny_bind (wpAny_rule ?_); show wpAny _ _ (standAt i1.pos >>= _) _ _ s; exact wpAny_bind (wpAny_standAt (wpAny_bind (wpAny_mono h (fun it' s' h' => wpAny_pure (And.intro rfl h')) fun _ _ x => x))))
theorem loop_nest1 {elt t0 i0 t1 i1 : Expr} {scope : Scope} {pos : Pos} {it acc : Value} {env : Env} (I : Nat → Shared → Prop)
    (turn : ∀ n s, I n s → wpAny (model prog w) A (pyNext it) (fun r s₁ => match r with
      | none => R (.ok .next) s₁
      | some v => wpAny (model prog w) A (assign t1 env v) (fun _ s₂ => wpAny (model prog w) A (eval elt env) (fun x s₃ =>
          wpAny (model prog w) A (call (.builtin "list.append") [acc, x]) (fun _ s₄ => ∃ m, m < n ∧ I m s₄) (notedBy (model prog w) A env fun e s' => R (.error e) s') s₃)
          (notedBy (model prog w) A env fun e s' => R (.error e) s') s₂) (notedBy (model prog w) A env fun e s' => R (.error e) s') s₁) (notedBy (model prog w) A env fun e s' => R (.error e) s') s)
    (n : Nat) (h : I n s) (ht : ∀ v, letOwnedTupleGo t1 it v = pure () := by intro _; rfl) :
    codeAny (model prog w) A (.compLoop (comp2 elt t0 i0 t1 i1 scope pos) 1 it acc env) R s := by
  refine codeAny_loop rfl I (fun n s hI => ?_) n h
  show wpAny _ _ ((compTurn (comp2 elt t0 i0 t1 i1 scope pos) 1 it acc env).onRaise (fun x => do noteFrame x env; theTreesLotGoes x)) _ _ s
  refine wpAny_noted ?_
  rw [turn_nest1]
  refine wpAny_bind (wpAny_standAt (wpAny_bind (wpAny_mono (turn n s hI) (fun r s₁ h₁ => ?_) fun _ _ h' => h')))
  cases r with
  | none => exact wpAny_pure h₁
  | some v =>
    refine wpAny_bind (wpAny_of_eq (ht v) ?_)
    exact wpAny_bind (wpAny_mono h₁ (fun _ s₂ h₂ => wpAny_bind (wpAny_bind (wpAny_mono h₂ (fun x s₃ h₃ => wpAny_bind (wpAny_mono h₃
      (fun _ s₄ h₄ => wpAny_pure (wpAny_pure ⟨rfl, h₄⟩)) fun _ _ h' => h')) fun _ _ h' => h'))) fun _ _ h' => h')
theorem loop_nest0 {elt t0 i0 t1 i1 : Expr} {scope : Scope} {pos : Pos} {it acc : Value} {env : Env} (I : Nat → Shared → Prop)
    (turn : ∀ n s, I n s → wpAny (model prog w) A (pyNext it) (fun r s₁ => match r with
      | none => R (.ok .next) s₁
      | some v => wpAny (model prog w) A (assign t0 env v) (fun _ s₂ => wpAny (model prog w) A (eval i1 env) (fun x s₃ =>
          wpAny (model prog w) A (pyIter x) (fun it' s₄ => codeAny (model prog w) A (.compStart (comp2 elt t0 i0 t1 i1 scope pos) 1 it' acc env) (fun r s₅ => match r with | .ok _ => ∃ m, m < n ∧ I m s₅ | .error _ => False) s₄)
          (notedBy (model prog w) A env fun e s' => R (.error e) s') s₃)
          (notedBy (model prog w) A env fun e s' => R (.error e) s') s₂) (notedBy (model prog w) A env fun e s' => R (.error e) s') s₁) (notedBy (model prog w) A env fun e s' => R (.error e) s') s)
    (n : Nat) (h : I n s) (hs : ∀ x, foldedSetIterable i1 env x = pure x) (ht : ∀ v, letOwnedTupleGo t0 it v = pure () := by intro _; rfl) :
    codeAny (model prog w) A (.compLoop (comp2 elt t0 i0 t1 i1 scope pos) 0 it acc env) R s := by
  refine codeAny_loop rfl I (fun n s hI => ?_) n h
  show wpAny _ A ((compTurn (comp2 elt t0 i0 t1 i1 scope pos) 0 it acc env).onRaise (fun x => do noteFrame x env; theTreesLotGoes x)) _ _ s
  refine wpAny_noted ?_
  rw [turn_nest0]
  refine wpAny_bind (wpAny_standAt (wpAny_bind (wpAny_mono (turn n s hI) (fun r s₁ h₁ => ?_) fun _ _ h' => h')))
  cases r with
  | none => exact wpAny_pure h₁
  | some v =>
    refine wpAny_bind (wpAny_of_eq (ht v) ?_)
    refine wpAny_bind (wpAny_mono h₁ (fun _ s₂ h₂ => wpAny_bind (wpAny_mono h₂ (fun x s₃ h₃ => wpAny_bind (wpAny_standAt (wpAny_bind (wpAny_of_eq (hs x) (wpAny_bind (wpAny_holding
      (wpAny_mono h₃ (fun it' s₄ h₄ => wpAny_bind (wpAny_runOwn (codeAny_mono h₄ fun r s₅ h₅ => ?_))) fun _ _ h' => h'))))))) fun _ _ h' => h')) fun _ _ h' => h')
    cases r with
    | ok f => exact wpAny_pure ⟨rfl, h₅⟩
    | error e => exact h₅.elim
end
end Mine
end
section
set_option maxRecDepth 100000
namespace Mine
section
variable {prog : Program} {w : World} {A : Around} {E : Value → Shared → Prop} {s : Shared} {h₀ : Heap} {L : Addr} {news : List (Addr × Obj)}
theorem dat_shaped {d : PySem.W.Dat} (h : kqdOk 8 d = true) : SeqAt.shaped (kqdP d) = true := by
  have la := kqd_lay 8 d h
  unfold SeqAt.shaped; rw [la.1, Bool.true_and]; exact decide_eq_true (Nat.le_trans la.2 (by decide))
theorem eq_dat {va vb : Value} {d e : PySem.W.Dat} {Q : Value → Shared → Prop} (b : Bool) (hb : b = true ↔ d = e) (N : News h₀ L s.heap news) (ha : DatIn news va d) (hb : DatIn news vb e) (oa : kqdOk 8 d = true) (ob : kqdOk 8 e = true) (hu : A.units + 64 < cLine)
    (h : Q (.bool b) s) : wpAny (model prog w) A (compareOp .Eq va vb) Q E s := by
  obtain ⟨as, ra⟩ := kqd_in N 8 ha oa
  obtain ⟨bs, rb⟩ := kqd_in N 8 hb ob
  have z : PyData.eqv (kqdP d) (kqdP e) = b := Bool.eq_iff_iff.mpr ((kqd_eqv 8 d e 8 oa ob).trans (Iff.symm (by assumption)))
  exact PyProof.Rows.eq_dataH ra rb (dat_shaped oa) (dat_shaped ob) hu (by rw [z]; exact h)
theorem ne_dat {va vb : Value} {d e : PySem.W.Dat} {Q : Value → Shared → Prop} (b : Bool) (hb : b = true ↔ d = e) (N : News h₀ L s.heap news) (ha : DatIn news va d) (hb : DatIn news vb e) (oa : kqdOk 8 d = true) (ob : kqdOk 8 e = true) (hu : A.units + 64 < cLine)
    (h : Q (.bool (!b)) s) : wpAny (model prog w) A (compareOp .NotEq va vb) Q E s := by
  obtain ⟨as, ra⟩ := kqd_in N 8 ha oa
  obtain ⟨bs, rb⟩ := kqd_in N 8 hb ob
  have z : PyData.eqv (kqdP d) (kqdP e) = b := Bool.eq_iff_iff.mpr ((kqd_eqv 8 d e 8 oa ob).trans (Iff.symm (by assumption)))
  exact PyProof.Rows.ne_dataH ra rb (dat_shaped oa) (dat_shaped ob) hu (by rw [z]; exact h)
theorem in_pair {D : Addr} {a : Int} {x : Str} {t u : Tok} {c : Nat} (hm : (D, tupO [.int a t, .str x u] c) ∈ news) : DatIn news (.ref D) (.tuple [.int a, .str x]) :=
  .tuple hm (.cons (.int _ _) (.cons (.str _ _) .nil))
theorem ok_pair {a : Int} {x : Str} (h : PyData.strOk x = true) : kqdOk 8 (.tuple [.int a, .str x]) = true := by
  simp [kqdOk, h]
theorem dec_pair {a b : Int} {x y : Str} : decide (a = b ∧ x = y) = true ↔ (PySem.W.Dat.tuple [.int a, .str x]) = .tuple [.int b, .str y] := by
  rw [decide_eq_true_eq]
  constructor
  · rintro ⟨rfl, rfl⟩; rfl
  · intro z
    injection z with z; injection z with z1 z; injection z with z2 z; injection z1 with z1; injection z2 with z2; exact ⟨z1, z2⟩
theorem eq_pair {D1 D2 : Addr} {a b : Int} {x y : Str} {t1 t2 t3 t4 : Tok} {c1 c2 : Nat} {Q : Value → Shared → Prop} (N : News h₀ L s.heap news) (m1 : (D1, tupO [.int a t1, .str x t2] c1) ∈ news) (m2 : (D2, tupO [.int b t3, .str y t4] c2) ∈ news)
    (hx : PyData.strOk x = true) (hy : PyData.strOk y = true) (hu : A.units + 64 < cLine) (h : Q (.bool (decide (a = b ∧ x = y))) s) : wpAny (model prog w) A (compareOp .Eq (.ref D1) (.ref D2)) Q E s :=
  eq_dat _ dec_pair N (in_pair m1) (in_pair m2) (ok_pair hx) (ok_pair hy) hu h
theorem ne_pair {D1 D2 : Addr} {a b : Int} {x y : Str} {t1 t2 t3 t4 : Tok} {c1 c2 : Nat} {Q : Value → Shared → Prop} (N : News h₀ L s.heap news) (m1 : (D1, tupO [.int a t1, .str x t2] c1) ∈ news) (m2 : (D2, tupO [.int b t3, .str y t4] c2) ∈ news)
    (hx : PyData.strOk x = true) (hy : PyData.strOk y = true) (hu : A.units + 64 < cLine) (h : Q (.bool (!decide (a = b ∧ x = y))) s) : wpAny (model prog w) A (compareOp .NotEq (.ref D1) (.ref D2)) Q E s :=
  ne_dat _ dec_pair N (in_pair m1) (in_pair m2) (ok_pair hx) (ok_pair hy) hu h
/-- two pairs that are one -/
theorem ne_pair_same {D1 D2 : Addr} {a b : Int} {x y : Str} {t1 t2 t3 t4 : Tok} {c1 c2 : Nat} {Q : Value → Shared → Prop} (N : News h₀ L s.heap news) (m1 : (D1, tupO [.int a t1, .str x t2] c1) ∈ news) (m2 : (D2, tupO [.int b t3, .str y t4] c2) ∈ news)
    (hx : PyData.strOk x = true) (e1 : a = b) (e2 : x = y) (hu : A.units + 64 < cLine) (h : Q (.bool false) s) : wpAny (model prog w) A (compareOp .NotEq (.ref D1) (.ref D2)) Q E s :=
  ne_pair N m1 m2 hx (e2 ▸ hx) hu (by rw [decide_eq_true ⟨e1, e2⟩]; exact h)
theorem ne_five_same {D1 D2 : Addr} {a1 a2 a3 a4 a5 b1 b2 b3 b4 b5 : Int} {t1 t2 t3 t4 t5 u1 u2 u3 u4 u5 : Tok} {c1 c2 : Nat} {Q : Value → Shared → Prop} (N : News h₀ L s.heap news)
    (m1 : (D1, tupO [.int a1 t1, .int a2 t2, .int a3 t3, .int a4 t4, .int a5 t5] c1) ∈ news) (m2 : (D2, tupO [.int b1 u1, .int b2 u2, .int b3 u3, .int b4 u4, .int b5 u5] c2) ∈ news)
    (e1 : a1 = b1) (e2 : a2 = b2) (e3 : a3 = b3) (e4 : a4 = b4) (e5 : a5 = b5) (hu : A.units + 64 < cLine) (h : Q (.bool false) s) : wpAny (model prog w) A (compareOp .NotEq (.ref D1) (.ref D2)) Q E s := by
  subst e1 e2 e3 e4 e5
  exact ne_dat true (by simp) N (.tuple m1 (.cons (.int _ _) (.cons (.int _ _) (.cons (.int _ _) (.cons (.int _ _) (.cons (.int _ _) .nil)))))) (.tuple m2 (.cons (.int _ _) (.cons (.int _ _) (.cons (.int _ _) (.cons (.int _ _) (.cons (.int _ _) .nil))))))
    (by simp [kqdOk]) (by simp [kqdOk]) hu h
theorem strs_dat : ∀ {vs : List Value} {xs : List Str}, StrsAre vs xs → DatAll news vs (xs.map PySem.W.Dat.str)
  | _, _, .nil => .nil
  | _, _, .cons y t h => .cons (.str y t) (strs_dat h)
/-- a list of texts against the empty one -/
theorem ne_strs_nil {D1 D2 : Addr} {vs : List Value} {xs : List Str} {c1 c2 : Nat} {Q : Value → Shared → Prop} (N : News h₀ L s.heap news) (m1 : (D1, W.listOf vs.toArray c1) ∈ news) (m2 : (D2, W.listOf ([] : List Value).toArray c2) ∈ news)
    (hi : StrsAre vs xs) (hx : ∀ x ∈ xs, PyData.strOk x = true) (hu : A.units + 64 < cLine) (h : Q (.bool (decide (xs ≠ []))) s) : wpAny (model prog w) A (compareOp .NotEq (.ref D1) (.ref D2)) Q E s := by
  exact ne_dat (decide (xs = [])) (by cases xs <;> simp) N (.list m1 (strs_dat hi)) (.list m2 .nil) (by simpa [kqdOk] using hx) (by simp [kqdOk]) hu (by rw [← decide_not]; exact h)
theorem ne_ints_nil {D1 D2 : Addr} {vs : List Value} {xs : List Int} {c1 c2 : Nat} {Q : Value → Shared → Prop} (N : News h₀ L s.heap news) (m1 : (D1, W.listOf vs.toArray c1) ∈ news) (m2 : (D2, W.listOf ([] : List Value).toArray c2) ∈ news)
    (hi : IntsAre vs xs) (hu : A.units + 64 < cLine) (h : Q (.bool (decide (xs ≠ []))) s) : wpAny (model prog w) A (compareOp .NotEq (.ref D1) (.ref D2)) Q E s := by
  have all : ∀ {vs : List Value} {xs : List Int}, IntsAre vs xs → DatAll news vs (xs.map PySem.W.Dat.int) := by
    intro vs xs h
    induction h with
    | nil => exact .nil
    | cons a t _ ih => exact .cons (.int a t) ih
  exact ne_dat (decide (xs = [])) (by cases xs <;> simp) N (.list m1 (all hi)) (.list m2 .nil) (by simp [kqdOk]) (by simp [kqdOk]) hu (by rw [← decide_not]; exact h)
end
theorem tz_ok (i : Int) : PyData.strOk (tzS i) = true := by
  have h : ∀ j : Nat, PyData.strOk (tzL.getD j Str.empty) = true := fun j => by
    by_cases hj : j < 20
    · have : ∀ k : Fin 20, PyData.strOk (tzL.getD k.val Str.empty) = true := by decide +kernel
      exact this ⟨j, hj⟩
    · rw [List.getD_eq_getElem?_getD, List.getElem?_eq_none (by show 20 ≤ j; omega)]; decide +kernel
  exact h _
theorem hb_ok (i : Int) : PyData.strOk (haabS i) = true := by
  have h : ∀ j : Nat, PyData.strOk (haabL.getD j Str.empty) = true := fun j => by
    by_cases hj : j < 19
    · have : ∀ k : Fin 19, PyData.strOk (haabL.getD k.val Str.empty) = true := by decide +kernel
      exact this ⟨j, hj⟩
    · rw [List.getD_eq_getElem?_getD, List.getElem?_eq_none (by show 19 ≤ j; omega)]; decide +kernel
  exact h _
end Mine
end
section
set_option maxRecDepth 100000
namespace Mine
section
variable {prog : Program} {w : World} {A : Around} {E : Value → Shared → Prop} {s : Shared} {h₀ : Heap} {L : Addr} {m : Str → Option Value} {news : List (Addr × Obj)}
theorem add_lists_K {l b : Addr} {vs ws : List Value} {k1 k2 : Nat} {Q : Value → Shared → Prop} (F : Fr h₀ L s.heap m) (N : News h₀ L s.heap news) (m1 : (l, W.listOf vs.toArray k1) ∈ news) (m2 : (b, W.listOf ws.toArray k2) ∈ news)
    (hsz : vs.length + ws.length ≤ sizeLine)
    (h : ∀ D h', Fr h₀ L h' m → News h₀ L h' ((D, W.listOf (vs ++ ws).toArray 0) :: news) → (∀ p ∈ news, p.1 < D) → Q (.ref D) { s with heap := h' }) :
    wpAny (model prog w) A (binaryOp .Add (.ref l) (.ref b)) Q E s :=
  add_arrays (hsz := by simpa using hsz) F N (N.isList m1) (N.isList m2) fun h' F' N' => h _ h' F' N' fun p hp => Heap.lt_size (N p hp).1
theorem newlist_K {vs : List Value} {Q : Value → Shared → Prop} (F : Fr h₀ L s.heap m) (N : News h₀ L s.heap news) (hsz : vs.length ≤ sizeLine)
    (h : ∀ D h', Fr h₀ L h' m → News h₀ L h' ((D, W.listOf vs.toArray 0) :: news) → (∀ p ∈ news, p.1 < D) → Q (.ref D) { s with heap := h' }) : wpAny (model prog w) A (newList vs) Q E s :=
  newList_N (hsz := hsz) F N fun h' F' N' => h _ h' F' N' fun p hp => Heap.lt_size (N p hp).1
theorem newtuple_K {vs : List Value} {Q : Value → Shared → Prop} (F : Fr h₀ L s.heap m) (N : News h₀ L s.heap news) (hsz : vs.length ≤ sizeLine)
    (h : ∀ D h', Fr h₀ L h' m → News h₀ L h' ((D, tupO vs 0) :: news) → (∀ p ∈ news, p.1 < D) → Q (.ref D) { s with heap := h' }) : wpAny (model prog w) A (newTuple vs) Q E s :=
  newTuple_N (hsz := hsz) F N fun h' F' N' => h _ h' F' N' fun p hp => Heap.lt_size (N p hp).1
theorem ne_strs_has {D1 D2 : Addr} {vs : List Value} {xs : List Str} {c1 c2 : Nat} {X : Str} {Q : Value → Shared → Prop} (N : News h₀ L s.heap news) (m1 : (D1, W.listOf vs.toArray c1) ∈ news) (m2 : (D2, W.listOf ([] : List Value).toArray c2) ∈ news)
    (hi : StrsAre vs xs) (hx : ∀ x ∈ xs, PyData.strOk x = true) (hX : X ∈ xs) (hu : A.units + 64 < cLine) (h : Q (.bool true) s) : wpAny (model prog w) A (compareOp .NotEq (.ref D1) (.ref D2)) Q E s :=
  ne_strs_nil N m1 m2 hi hx hu (by rw [decide_eq_true (show xs ≠ [] from fun z => by rw [z] at hX; exact nomatch hX)]; exact h)
theorem notin_has {D : Addr} {vs : List Value} {xs : List Str} {c : Nat} {X : Str} {t : Tok} {Q : Value → Shared → Prop} (N : News h₀ L s.heap news) (m1 : (D, W.listOf vs.toArray c) ∈ news)
    (hi : StrsAre vs xs) (hX : X ∈ xs) (h : Q (.bool false) s) : wpAny (model prog w) A (compareOp .NotIn (.str X t) (.ref D)) Q E s :=
  notin_list_strs (N.isList m1) hi (by rw [List.any_eq_true.mpr ⟨X, hX, by simp⟩]; exact h)
end
end Mine
end
section
namespace Mine
set_option maxRecDepth 100000 in
set_option maxHeartbeats 8000000 in
theorem seg28_bad (w : World) (mean : ExcName → Option Value) (mg mb : Str → Option Value) (h₀ : Heap) (L c1 c2 : Addr) (ccd : Value) (m : Str → Option Value) (pre cc : List (Addr × Obj)) (s : Shared) (Q : Flow → Shared → Prop) (E : Value → Shared → Prop) (dp un : Nat) (gd : Option (List Code)) (o2 : Obj) (D1 D2 Dn : Addr) (dd : Int) (mm : Str) (t3 t4 : Tok) (k2 k3 : Nat) (vs : List Value) (ns : List Int) (num : Int) (tn : Tok) (X : Str) (Da Db : Addr) (va vb : List Value) (wa wb : List Str) (ka kb : Nat) (cond : List (Addr × Obj) → Prop)
    (hd1 : dp + 20 < recursionLimit) (hu1 : un + 200 < cLine) (hB : Below callerA h₀ [] h₀) (hF : Fr h₀ L s.heap m) (hK : (theK.heap_1 w.params).In h₀) (hN : News h₀ L s.heap (pre ++ cc)) (hO : PreOk pre) (hC : CC cc) (hG : AllBare s.gens) (hT : Top p0 lo0 mean mg mb h₀) (hQ : Done h₀ L s.os Q)
    (hc2 : (c2, o2) ∈ pre) (ho2 : o2.data = .cell (some (.ref D1))) (h1 : m "numbers" = some (.ref Dn)) (h2 : m "haab" = some (.ref D2)) (hn : (Dn, W.listOf vs.toArray k3) ∈ pre) (hI : IntsAre vs ns) (hlen : (0 : Int) < ns.length) (hD2 : (D2, tupO [.int dd t3, .str mm t4] k2) ∈ pre) (h3 : m "number" = some (.int num tn)) (h4 : m "wrong_names" = some (.ref Da)) (h5 : m "wrong_haab" = some (.ref Db)) (ha : (Da, W.listOf va.toArray ka) ∈ pre) (hb : (Db, W.listOf vb.toArray kb) ∈ pre) (hia : StrsAre va wa) (hib : StrsAre vb wb) (hsz : va.length + vb.length ≤ sizeLine) (hok : ∀ x ∈ wa ++ wb, PyData.strOk x = true) (hX : X ∈ wa ++ wb) (C : ∀ t, CutA w mean mg mb 8 135 [.int 2 t, .ref D1, .ref D2, .int num tn] cond (RStr X)) (hcond : cond pre) : Seg w 28 dp un gd L ccd [("names", c2), ("past", c1)] Q E s := by
  unfold Seg
  revert hK
  k_fill
  intro hK
  conv in (occs := *) (scopeAt w) => all_goals whnf
  refine wpAny_execs_cons ?_
  w_top off
  repeat' (first | (k_unfold; (try dsimp only)) | (k_end; wrow_close) | ((with_reducible show wpAny _ _ (compareOp CmpOp.NotIn (Value.str _ _) (Value.ref _)) _ _ _); (k_here; k_dflt (refine' notin_has ?N ?m1 ?hi ?hX ?_; (case N => k_asm); (case m1 => k_mem); (case hi => exact StrsAre.append' (by assumption) (by assumption)); (case hX => assumption)))) | ((with_reducible show wpAny _ _ (compareOp CmpOp.NotEq (Value.ref _) (Value.ref _)) _ _ _); (k_here; k_dflt (refine' ne_strs_has ?N ?m1 ?m2 ?hi ?hx ?hX ?hu ?_; (case N => k_asm); (case m1 => k_mem); (case m2 => k_mem); (case hi => exact StrsAre.append' (by assumption) (by assumption)); (case hx => assumption); (case hX => assumption); (case hu => ktr_units)))) | ((with_reducible show wpAny _ _ (binaryOp Operator.Add (Value.ref _) (Value.ref _)) _ _ _); (k_here; k_dflt (refine' add_lists_K ?F ?N ?m1 ?m2 ?sz ?_; (case F => k_asm); (case N => k_asm); (case m1 => k_mem); (case m2 => k_mem); (case sz => assumption)); (intro D9 h9 F9 N9 l9); (try simp only [List.cons_append, List.nil_append] at N9); (try dsimp only); (try k_fold); (try k_sweep))) | ((with_reducible show wpAny _ _ (newList _) _ _ _); (k_here; k_dflt (refine' newlist_K ?F ?N ?sz ?_; (case F => k_asm); (case N => k_asm); (case sz => decide)); (intro D9 h9 F9 N9 l9); (try simp only [List.cons_append, List.nil_append] at N9); (try dsimp only); (try k_fold); (try k_sweep))) | ((with_reducible show wpAny _ _ (call (Value.ref _) _) _ _ _); (k_here; (with_reducible show wpAny _ _ (call (Value.ref 135) [Value.int 2 _, _, _, Value.int _ _]) _ _ _); k_dflt (refine' CutA.use (?kC) ?k1 ?k2 ?k3 ?k4 ?k6 ?k9 ?k7 ?k8 ?k5 ?kK ?kp ?kd ?ku ?kI ?kT ?_; (case kC => apply_assumption); (case k1 => k_asm); (case k2 => k_asm); (case k3 => k_asm); (case k4 => k_asm); (case k5 => k_asm); (case k7 => assumption); (case k6 => tb_rel); (case k9 => tb_start); (case k8 => assumption); (case kK => exact rfl); (case kp => assumption); (case kd => ktr_room); (case ku => ktr_units); (case kI => assumption); (case kT => assumption)); (intro v9 tl9 cc9 h9 g9 d9 tk9 r9 l9 hc9 F9 N9 G9); (obtain ⟨e9, t9, e8⟩ := r9); subst e9; subst e8; (simp only [List.cons_append, List.nil_append] at N9); clear l9; (try dsimp only); (try k_fold); (try k_sweep))) | ((with_reducible show wpAny _ _ (execs (_ :: _) _) _ _ _); (k_here; (with_reducible show wpAny _ _ (execs [_, _] _) _ _ _); k_dflt (refine' seg30 _ _ _ _ _ _ _ _ _ _ _ _ _ _ _ _ _ _ _ _ _ _ _ _ _ _ _ _ _ _ ?hd ?hu ?hB ?hF ?hK ?hN ?hO ?hC ?hG ?hT ?hQ ?x1 ?x2 ?x3 ?x4 ?x5 ?x6 ?x7 ?x8; (case hF => k_asm); (case hN =>  ktr_rel); (case hC => assumption); (case hO => assumption); (case hB => assumption); (case hK => assumption); (case hG => assumption); (case hT => assumption); (case hQ => assumption); (case hd => assumption); (case hu => assumption); (case x1 => assumption); (case x2 => assumption); (case x3 => (first | assumption | exact if_pos rfl | (refine (if_neg (by decide)).trans ?_; first | assumption | exact if_pos rfl | (refine (if_neg (by decide)).trans ?_; first | assumption | exact if_pos rfl | (refine (if_neg (by decide)).trans ?_; first | assumption | exact if_pos rfl | (refine (if_neg (by decide)).trans ?_; first | assumption | exact if_pos rfl)))))); (case x4 => (first | assumption | exact if_pos rfl | (refine (if_neg (by decide)).trans ?_; first | assumption | exact if_pos rfl | (refine (if_neg (by decide)).trans ?_; first | assumption | exact if_pos rfl | (refine (if_neg (by decide)).trans ?_; first | assumption | exact if_pos rfl | (refine (if_neg (by decide)).trans ?_; first | assumption | exact if_pos rfl)))))); (case x5 => assumption); (case x6 => assumption); (case x7 => assumption); (case x8 => assumption)))) | ((with_reducible show wpAny _ _ (subscriptTail _ _ _ _) _ _ _); (k_here; (with_reducible show wpAny _ _ (subscriptTail _ _ (Value.ref _) (Value.int _ _)) _ _ _); (with_unfolding_all refine' item_anyK ?k1 ?k2 ?k3 ?k4 ?k5 ?_ ?k6; (case k1 => exact News.isList (by k_asm) (by k_mem)); (case k2 => assumption); (case k3 => decide); (case k4 => first | assumption | omega); (case k5 => decide); (case k6 => with_unfolding_all rfl); k_whole); intro t9; (try dsimp only))) | ((with_reducible show wpAny _ _ (eval (Expr.Name _ _) _) _ _ _); first | (k_here; refine' nameX_C ?N ?c ?m ?d ?_ ?k ?x ?b; (case k => exact rfl); (case x => exact rfl); (case b => decide); (case c => exact rfl); (case N => k_asm); (case m => k_mem); (case d => assumption)) | (k_here; refine' nameX_L ?F ?v ?_ ?k ?x ?d; (case k => exact rfl); (case x => exact rfl); (case d => decide); (case F => k_asm); (case v => (first | assumption | exact if_pos rfl | (refine (if_neg (by decide)).trans ?_; first | assumption | exact if_pos rfl | (refine (if_neg (by decide)).trans ?_; first | assumption | exact if_pos rfl | (refine (if_neg (by decide)).trans ?_; first | assumption | exact if_pos rfl | (refine (if_neg (by decide)).trans ?_; first | assumption | exact if_pos rfl)))))))) | ((with_reducible show wpAny _ _ (eval (Expr.Call (Expr.Name _ _) _ _ _) _) _ _ _); (k_here; refine Call_ ?_)) | walk1 | dsimp only | (leave1; try dsimp only))
  done
end Mine
end
section
set_option maxRecDepth 100000
namespace Mine
section
variable {prog : Program} {w : World} {A : Around} {E : Value → Shared → Prop} {s : Shared} {h₀ : Heap} {L : Addr} {m : Str → Option Value} {news : List (Addr × Obj)}
theorem mod_pos {a b : Int} {t u : Tok} {Q : Value → Shared → Prop} (hb : 0 < b) (h : ∀ t, Q (.int (a % b) t) { s with toks := s.toks + 1 }) : wpAny (model prog w) A (binaryOp .Mod (.int a t) (.int b u)) Q E s :=
  mod_int' (by omega) (by rw [fmod_val _ _ hb]; exact h _)
theorem divmod_pos {a b : Int} {t u : Tok} {Q : Value → Shared → Prop} (F : Fr h₀ L s.heap m) (N : News h₀ L s.heap news) (hb : 0 < b) (hp : Builtin.divisionGoesByPylong a b = false ∨ PySem.PylongRoom (model prog w) A s)
    (h : ∀ D h' t1 t2, Fr h₀ L h' m → News h₀ L h' ((D, tupO [.int (a / b) t1, .int (a % b) t2] 0) :: news) → (∀ p ∈ news, p.1 < D) → Q (.ref D) { s with heap := h', toks := s.toks + 1 + 1 }) :
    wpAny (model prog w) A (call (.builtin "divmod") [.int a t, .int b u]) Q E s := by
  refine divmod_N (hp := hp) F N (by omega) fun h' F' N' => ?_
  rw [fmod_val _ _ hb, fdiv_val _ _ hb] at N'
  exact h _ h' _ _ F' N' fun p hp => Heap.lt_size (N p hp).1
theorem item_tab {value slice : Expr} {D : Addr} {vs : List Value} {xs : List Str} {k : Int} {u : Tok} {c : Nat} {Q : Value → Shared → Prop} (N : News h₀ L s.heap news) (hm : (D, W.listOf vs.toArray c) ∈ news) (hi : StrsAre vs xs)
    (h0 : 0 ≤ k) (hk : k < xs.length) (hfit : xs.length ≤ 1000) (h : ∀ t', Q (.str (xs.getD k.toNat Str.empty) t') s)
    (hs : subscripted slice false (.ref D) (.int k u) = operate [.ref D, .int k u] (getItem (.ref D) (.int k u))) (hg : ∀ r, letTemporaryGo value (.ref D) r = pure ()) :
    wpAny (model prog w) A (subscriptTail value slice (.ref D) (.int k u)) Q E s :=
  item_strsA (N.isList hm) hi h0 hk (by omega) h hs hg
/-- what an evaluated range must have, for the numbers of it that pass -/
def FitSrc (prog : Program) (w : World) (A : Around) (h₀ : Heap) (L : Addr) (m : Str → Option Value) (env : Env) (ct : Expr) (x y : Str) (scope : Scope) (cl : List (Str × Addr)) (Q : Flow → Shared → Prop) (xv : Value) (s₁ : Shared) : Prop :=
  ∃ r a b c t u v n news p, xv = .ref r ∧ A.handled = none ∧ Fr h₀ L s₁.heap m ∧ News h₀ L s₁.heap news ∧ IsRange s₁.heap r a b c t u v ∧ Builtin.Range.small a b c = true ∧ Builtin.Range.rangeSize a b c = ((n : Nat) : Int) ∧ n ≤ sizeLine ∧
      (∀ i < n, ∀ t I oI C oC D oD m₂ h tk (E' : Value → Shared → Prop), LCg.NsObj oC m₂ → m₂ x = some (.int (a + (i : Int) * c) t) → Fr h₀ L h m → News h₀ L h ((I, oI) :: (C, oC) :: (D, oD) :: news) →
        wpAny (model prog w) A (isTrue ct (compEnvC scope cl C env) (eval ct (compEnvC scope cl C env))) (fun ok s' => ok = p i ∧ ∃ h' tk', s' = { s₁ with heap := h', toks := tk' } ∧ Fr h₀ L h' m ∧ News h₀ L h' ((I, oI) :: (C, oC) :: (D, oD) :: news)) E' { s₁ with heap := h, toks := tk }) ∧
      (∀ D ys ns h tk, IntsAre ys ns → ns = passF a c p n 0 → Fr h₀ L h (fun z => if z = y then some (.ref D) else m z) → News h₀ L h ((D, LCg.lst ys) :: news) → Q .next { s₁ with heap := h, toks := tk })
theorem Assign_fit {ct : Expr} {iter : Expr} {x y : Str} {env : Env} {px px' py : Pos} {scope : Scope} {cl : List (Str × Addr)} {pos spos : Pos} {Q : Flow → Shared → Prop} (_F : Fr h₀ L s.heap m) (hLe : env.locals = L)
    (hsw : swapsWith (.ListComp (.Name x px') [⟨.Name x px, iter, [ct], 0⟩] scope pos) (some (.Name y py)) spos.line env = pure true)
    (hclos : closureFor scope env = pure cl) (hcell : ∀ z ∈ scope.names, z.2 ≠ .cell) (hkind : scope.kind = .function)
    (hnames : ∀ z ∈ scope.names, z.2 = .local → scope.names.lookup z.1 = some .local) (hx : scope.names.lookup x = some .local) (hdb : (x == ("__debug__" : Str)) = false)
    (hy : env.kindOf y = some .local) (hp : (env.scope.kind == .class || (env.scope.kind == .module && env.locals != env.globals)) = false)
    (h : wpAny (model prog w) A (eval iter env) (FitSrc prog w A h₀ L m env ct x y scope cl Q) E s)
    (hs : ∀ x, foldedSetIterable iter env x = pure x := by intro _; rfl) :
    wpAny (model prog w) A (exec (.Assign [.Name y py] (.ListComp (.Name x px') [⟨.Name x px, iter, [ct], 0⟩] scope pos) spos) env) Q E s :=
  Assign_fits hLe hsw hclos hcell hkind hnames hx hdb hy hp h hs
end
end Mine
end
section
set_option maxRecDepth 100000
namespace Mine
theorem pass_none (a c : Int) (p : Nat → Bool) : ∀ k i, (∀ x, i ≤ x → x < i + k → p x = false) → passF a c p k i = []
  | 0, _, _ => rfl
  | k + 1, i, h => by
    simp only [passF, h i (Nat.le_refl _) (by omega), Bool.false_eq_true, if_false]
    exact pass_none a c p k (i + 1) fun x h1 h2 => h x (by omega) (by omega)
theorem pass_at (a c : Int) (p : Nat → Bool) (j : Nat) : ∀ k i, i ≤ j → j < i + k → (∀ x, i ≤ x → x < i + k → (p x = true ↔ x = j)) → passF a c p k i = [a + (j : Int) * c]
  | 0, i, h1, h2, _ => by omega
  | k + 1, i, h1, h2, h => by
    by_cases hij : i = j
    · subst hij
      simp only [passF, (h i (Nat.le_refl _) (by omega)).mpr rfl, if_true]
      rw [pass_none a c p k (i + 1) fun x h3 h4 => Bool.eq_false_iff.mpr fun z => by have := (h x (by omega) (by omega)).mp z; omega]
    · have : p i = false := Bool.eq_false_iff.mpr fun z => hij ((h i (Nat.le_refl _) (by omega)).mp z)
      simp only [passF, this, Bool.false_eq_true, if_false]
      exact pass_at a c p j k (i + 1) (by omega) (by omega) fun x h3 h4 => h x (by omega) (by omega)
theorem pass_one {a c : Int} {p : Nat → Bool} {n j : Nat} (hj : j < n) (h : ∀ x, x < n → (p x = true ↔ x = j)) : passF a c p n 0 = [a + (j : Int) * c] :=
  pass_at a c p j n 0 (by omega) (by omega) fun x _ h2 => h x (by omega)
theorem pass_nil {a c : Int} {p : Nat → Bool} {n : Nat} (h : ∀ x, x < n → p x = false) : passF a c p n 0 = [] :=
  pass_none a c p n 0 fun x _ h2 => h x (by omega)
theorem rs13 {a : Int} (h0 : 0 ≤ a) (h1 : a < 13) : Builtin.Range.rangeSize a 260 13 = ((20 : Nat) : Int) ∧ Builtin.Range.small a 260 13 = true := by
  have e : Builtin.Range.rangeSize a 260 13 = ((20 : Nat) : Int) := by
    unfold Builtin.Range.rangeSize
    rw [if_pos (by decide), if_pos (by omega)]
    omega
  refine ⟨e, ?_⟩
  unfold Builtin.Range.small
  rw [e]
  simp only [Builtin.Range.rangeFitsLong, Bool.and_eq_true, decide_eq_true_eq, Bool.or_eq_true]
  refine ⟨⟨⟨⟨⟨by omega, by omega⟩, by decide⟩, by decide⟩, by decide⟩, Or.inr (by decide)⟩
theorem rs365 {a : Int} (h0 : 0 ≤ a) (h1 : a < 365) : Builtin.Range.rangeSize a 18980 365 = ((52 : Nat) : Int) ∧ Builtin.Range.small a 18980 365 = true := by
  have e : Builtin.Range.rangeSize a 18980 365 = ((52 : Nat) : Int) := by
    unfold Builtin.Range.rangeSize
    rw [if_pos (by decide), if_pos (by omega)]
    omega
  refine ⟨e, ?_⟩
  unfold Builtin.Range.small
  rw [e]
  simp only [Builtin.Range.rangeFitsLong, Bool.and_eq_true, decide_eq_true_eq, Bool.or_eq_true]
  refine ⟨⟨⟨⟨⟨by omega, by omega⟩, by decide⟩, by decide⟩, by decide⟩, Or.inr (by decide)⟩
theorem tz_beq {a b : Int} (ha : 0 ≤ a ∧ a < 20) (hb : 0 ≤ b ∧ b < 20) : (tzS a == tzS b) = true ↔ a = b := by
  rw [beq_iff_eq]
  exact ⟨fun h => tzS_inj ha hb h, fun h => by rw [h]⟩
theorem fit0 (p d i : Int) (h : 1 ≤ d ∧ d ≤ 13 ∧ 0 ≤ i ∧ i < 20) : ∃ j : Nat, j < 20 ∧ (d - 4 - p) % 13 + (j : Int) * 13 = (tcF d i - tcF (tDay p) (tNam p)) % 260 ∧
    ∀ k : Nat, k < 20 → ((tzS ((p + ((d - 4 - p) % 13 + (k : Int) * 13) + 19) % 20) == tzS i) = true ↔ k = j) := by
  refine ⟨(((tcF d i - tcF (tDay p) (tNam p)) % 260 - (d - 4 - p) % 13) / 13).toNat, ?_, ?_, fun k hk => ?_⟩
  · simp only [tcF, tDay, tNam]; omega
  · simp only [tcF, tDay, tNam]; omega
  · rw [tz_beq ⟨by omega, by omega⟩ ⟨h.2.2.1, h.2.2.2⟩]
    simp only [tcF, tDay, tNam]; omega
end Mine
end
section
set_option maxRecDepth 100000
namespace Mine
section
variable {prog : Program} {w : World} {A : Around} {E : Value → Shared → Prop} {s : Shared} {h₀ : Heap} {L : Addr} {m : Str → Option Value} {news : List (Addr × Obj)}
theorem ne_int_same {a b : Int} {t u : Tok} {Q : Value → Shared → Prop} (e : a = b) (h : Q (.bool false) s) : wpAny (model prog w) A (compareOp .NotEq (.int a t) (.int b u)) Q E s :=
  ne_int (by rw [show (a != b) = false by simp [e]]; exact h)
theorem item_int {value slice : Expr} {D : Addr} {vs : List Value} {x : Int} {t u : Tok} {c : Nat} {Q : Value → Shared → Prop} (N : News h₀ L s.heap news) (hm : (D, W.listOf (Value.int x t :: vs).toArray c) ∈ news)
    (h : ∀ t', Q (.int x t') s)
    (hs : subscripted slice false (.ref D) (.int 0 u) = operate [.ref D, .int 0 u] (getItem (.ref D) (.int 0 u))) (hg : ∀ r, letTemporaryGo value (.ref D) r = pure ()) :
    wpAny (model prog w) A (subscriptTail value slice (.ref D) (.int 0 u)) Q E s :=
  item_listL (N.isList hm) (by decide) (by decide) (x := .int x t) rfl (h t) hs hg
end
theorem fitA (p d i y T : Int) (h : 1 ≤ d ∧ d ≤ 13 ∧ 0 ≤ i ∧ i < 20) (hT : T = (tcF d i - tcF (tDay p) (tNam p)) % 260) : ((p + y + 3) % 13 + 1 = d ∧ (p + y + 19) % 20 = i) ↔ y % 260 = T := by
  subst hT
  simp only [tcF, tDay, tNam]
  constructor
  · rintro ⟨a, b⟩; omega
  · intro a; constructor <;> omega
theorem fitB (H T x : Int) (hH : 0 ≤ H ∧ H < 365) (hT : 0 ≤ T ∧ T < 260) (h5 : (T - H) % 5 = 0) (hx : 0 ≤ x ∧ x < 52) : (H + x * 365) % 260 = T ↔ x = (5 * ((T - H) / 5)) % 52 := by
  constructor <;> intro a <;> omega
/-- the pair of a day, wanted -/
theorem fit2 (p d i e j : Int) (h : 1 ≤ d ∧ d ≤ 13 ∧ 0 ≤ i ∧ i < 20) (h2 : 0 ≤ j ∧ j < 19 ∧ 0 ≤ e ∧ e ≤ 19) (h5 : (tdF p d i - hdF p e j) % 5 = 0) : ∃ k : Nat, k < 52 ∧ (20 * j + e - (348 + p) % 365) % 365 + (k : Int) * 365 = cmF (hdF p e j) (tdF p d i) ∧
    ∀ x : Nat, x < 52 → (decide ((p + ((20 * j + e - (348 + p) % 365) % 365 + (x : Int) * 365) + 3) % 13 + 1 = d ∧ tzS ((p + ((20 * j + e - (348 + p) % 365) % 365 + (x : Int) * 365) + 19) % 20) = tzS i) = true ↔ x = k) := by
  have e1 : hdF p e j = (20 * j + e - (348 + p) % 365) % 365 := by
    simp only [hdF]
    rw [fmod_val _ _ (by decide), show 20 * hMon p + hDay p = (348 + p) % 365 by simp only [hMon, hDay, hPl]; omega]
  have e2 : tdF p d i = (tcF d i - tcF (tDay p) (tNam p)) % 260 := fmod_val _ _ (by decide)
  rw [e1, e2] at h5 ⊢
  generalize hH : (20 * j + e - (348 + p) % 365) % 365 = H at h5 ⊢
  have hH0 : 0 ≤ H := by omega
  have hH1 : H < 365 := by omega
  clear e1 e2 hH
  refine ⟨((5 * (((tcF d i - tcF (tDay p) (tNam p)) % 260 - H) / 5)) % 52).toNat, ?_, ?_, fun x hx => ?_⟩
  · omega
  · simp only [cmF]; omega
  · rw [decide_eq_true_eq]
    have q : tzS ((p + (H + (x : Int) * 365) + 19) % 20) = tzS i ↔ (p + (H + (x : Int) * 365) + 19) % 20 = i := ⟨fun z => tzS_inj ⟨by omega, by omega⟩ ⟨h.2.2.1, h.2.2.2⟩ z, fun z => by rw [z]⟩
    rw [q, fitA p d i _ _ h rfl, fitB _ _ _ ⟨hH0, hH1⟩ ⟨by omega, by omega⟩ h5 ⟨by omega, by omega⟩]
    generalize (tcF d i - tcF (tDay p) (tNam p)) % 260 = T
    omega
theorem fit2_none (p d i e j : Int) (h : 1 ≤ d ∧ d ≤ 13 ∧ 0 ≤ i ∧ i < 20) (h5 : (tdF p d i - hdF p e j) % 5 ≠ 0) :
    ∀ x : Nat, x < 52 → decide ((p + ((20 * j + e - (348 + p) % 365) % 365 + (x : Int) * 365) + 3) % 13 + 1 = d ∧ tzS ((p + ((20 * j + e - (348 + p) % 365) % 365 + (x : Int) * 365) + 19) % 20) = tzS i) = false := by
  have e1 : hdF p e j = (20 * j + e - (348 + p) % 365) % 365 := by
    simp only [hdF]
    rw [fmod_val _ _ (by decide), show 20 * hMon p + hDay p = (348 + p) % 365 by simp only [hMon, hDay, hPl]; omega]
  have e2 : tdF p d i = (tcF d i - tcF (tDay p) (tNam p)) % 260 := fmod_val _ _ (by decide)
  rw [e1, e2] at h5
  generalize hH : (20 * j + e - (348 + p) % 365) % 365 = H at h5 ⊢
  have hH0 : 0 ≤ H := by omega
  have hH1 : H < 365 := by omega
  clear e1 e2 hH
  intro x hx
  rw [decide_eq_false_iff_not]
  rintro ⟨q1, q2⟩
  have q : (p + (H + (x : Int) * 365) + 19) % 20 = i := tzS_inj ⟨by omega, by omega⟩ ⟨h.2.2.1, h.2.2.2⟩ q2
  simp only [tcF, tDay, tNam] at h5
  omega
end Mine
namespace Mine
section
variable {prog : Program} {w : World} {A : Around} {E : Value → Shared → Prop} {s : Shared} {h₀ : Heap} {L : Addr} {m : Str → Option Value} {news : List (Addr × Obj)}
theorem meth_news {name : Str} {id : String} {pl : Sem Bool} {l : Addr} {items : Array Value} {n : Nat} {Q : Value × List Value → Shared → Prop} (slot : Slot "list" name id)
    (hty : typeOf (.builtin id) = pure (.type "method_descriptor")) (N : News h₀ L s.heap news) (hm : (l, W.listOf items n) ∈ news) (h : Q (.builtin id, [.ref l]) s) :
    wpAny (model prog w) A (getMethod (.ref l) name pl) Q E s :=
  getMethod_list_of slot hty (items := items) (N.isList hm) ⟨_, (N _ hm).1, rfl⟩ h
end
end Mine
end
section
namespace Mine
set_option maxRecDepth 100000 in
set_option maxHeartbeats 8000000 in
theorem seg28_meet (w : World) (mean : ExcName → Option Value) (mg mb : Str → Option Value) (h₀ : Heap) (L c1 c2 : Addr) (ccd : Value) (m : Str → Option Value) (pre cc : List (Addr × Obj)) (s : Shared) (Q : Flow → Shared → Prop) (E : Value → Shared → Prop) (dp un : Nat) (gd : Option (List Code)) (o1 o2 : Obj) (D1 D2 D3 D4 Dn : Addr) (nd dd p : Int) (nn mm : Str) (u1 u2 u3 u4 u5 u6 u7 u8 tp tn tm td tl : Tok) (k1 k2 k3 k4 kn : Nat) (vs : List Value) (ns : List Int) (i j : Int) (Da Db : Addr) (ka kb : Nat)
    (hd1 : dp + 20 < recursionLimit) (hu1 : un + 200 < cLine) (hB : Below callerA h₀ [] h₀) (hF : Fr h₀ L s.heap m) (hK : (theK.heap_1 w.params).In h₀) (hN : News h₀ L s.heap (pre ++ cc)) (hO : PreOk pre) (hC : CC cc) (hG : AllBare s.gens) (hT : Top p0 lo0 mean mg mb h₀) (hQ : Done h₀ L s.os Q)
    (hc1 : (c1, o1) ∈ pre) (ho1 : o1.data = .cell (some (.int p tp))) (hc2 : (c2, o2) ∈ pre) (ho2 : o2.data = .cell (some (.ref D1))) (m1 : m "numbers" = some (.ref Dn)) (m2 : m "number" = some (.int (584283 + p) tn)) (m3 : m "haab" = some (.ref D2)) (m4 : m "month" = some (.str mm tm)) (m5 : m "day" = some (.int dd td)) (m6 : m "place" = some (.int ((348 + p) % 365) tl)) (m7 : m "here" = some (.ref D3)) (m8 : m "there" = some (.ref D4)) (n1 : (D1, tupO [.int nd u1, .str nn u2] k1) ∈ pre) (n2 : (D2, tupO [.int dd u3, .str mm u4] k2) ∈ pre) (n3 : (D3, tupO [.int (tDay p) u5, .str (tzS (tNam p)) u6] k3) ∈ pre) (n4 : (D4, tupO [.int (hDay p) u7, .str (haabS (hMon p)) u8] k4) ∈ pre) (nn0 : (Dn, W.listOf vs.toArray kn) ∈ pre) (hI : IntsAre vs ns) (hlen : (0 : Int) < ns.length) (hp : 0 ≤ p) (hnd : 1 ≤ nd) (hnd2 : nd ≤ 13) (hi0 : 0 ≤ i) (hi1 : i < 20) (hnn : nn = tzS i) (hdd : 0 ≤ dd) (hdd2 : dd ≤ 19) (hj0 : 0 ≤ j) (hj1 : j < 19) (hmm : mm = haabS j) (m9 : m "wrong_names" = some (.ref Da)) (na : (Da, W.listOf ([] : List Value).toArray ka) ∈ pre) (m10 : m "wrong_haab" = some (.ref Db)) (nb : (Db, W.listOf ([] : List Value).toArray kb) ∈ pre) (h5 : (tdF (584283 + p - 584283) nd i - hdF (584283 + p - 584283) dd j) % 5 = 0) : Seg w 28 dp un gd L ccd [("names", c2), ("past", c1)] Q E s := by
  unfold Seg
  revert hK
  k_fill
  intro hK
  conv in (occs := *) (scopeAt w) => all_goals whnf
  refine wpAny_execs_cons ?_
  subst hnn hmm
  have hnum : (584283 : Int) + p - 584283 = p := by omega
  w_top off
  repeat' (first | (k_unfold; (try dsimp only)) | (k_end; wrow_close) | ((with_reducible show wpAny _ _ (call (Value.ref _) _) _ _ _); first | (k_here; (with_reducible show wpAny _ _ (call (Value.ref 135) [Value.int 2 _, _, _, Value.int _ _]) _ _ _); k_dflt (refine' CutA.use (a2_ok _ _ _ _ _ _ _ _ _ _ _ _ _ _ _ _ _ _ _) ?k1 ?k2 ?k3 ?k4 ?k6 ?k9 ?k7 ?k8 ?k5 ?kK ?kp ?kd ?ku ?kI ?kT ?_; (case k1 => k_asm); (case k2 => k_asm); (case k3 => k_asm); (case k4 => k_asm); (case k5 => k_asm); (case k7 => assumption); (case k6 => tb_rel); (case k9 => tb_start); (case k8 => assumption); (case kK => exact rfl); (case kp => (refine' ⟨?p0, ?p1, ?p2, ?p3, ?p4, ?p5, ?p6, ?p7, ?p8, ?p9, ?p10, ?p11⟩; (case p9 => assumption); (case p10 => assumption); (case p11 => assumption); (case p0 => first | assumption | omega); (case p1 => first | assumption | omega); (case p2 => first | assumption | omega); (case p3 => first | assumption | omega); (case p4 => first | assumption | omega); (case p5 => first | assumption | omega); (case p6 => first | assumption | omega); (case p7 => first | assumption | omega); (case p8 => first | assumption | omega))); (case kd => ktr_room); (case ku => ktr_units); (case kI => assumption); (case kT => assumption)); (intro v9 tl9 cc9 h9 g9 d9 tk9 r9 l9 hc9 F9 N9 G9); (obtain ⟨e9, t9, e8⟩ := r9); subst e9; subst e8; (simp only [List.cons_append, List.nil_append] at N9); clear l9; (try dsimp only); (try k_fold); (try k_sweep)) | (k_here; (first | (with_reducible show wpAny _ _ (call (Value.ref 128) []) _ _ _) | ((with_reducible show wpAny _ _ (call (Value.ref 128) ([] ++ [])) _ _ _); show wpAny _ _ (call (Value.ref 128) []) _ _ _)); k_dflt (refine' CutN.use (n_moons _ _ _ _) ?B ?F ?X ?N ?T ?k ?d ?u ?_; (case B => k_asm); (case F => k_asm); (case X => k_asm); (case N => k_asm); (case T => k_asm); (case k => exact rfl); (case d => ktr_room); (case u => ktr_units)); (intro D9 vs9 c9 h9 tk9 st9 l9 F9 N9); (try dsimp only); (try k_fold); (try k_sweep)) | (k_here; (first | (with_reducible show wpAny _ _ (call (Value.ref 121) []) _ _ _) | ((with_reducible show wpAny _ _ (call (Value.ref 121) ([] ++ [])) _ _ _); show wpAny _ _ (call (Value.ref 121) []) _ _ _)); k_dflt (refine' CutN.use (n_names _ _ _ _) ?B ?F ?X ?N ?T ?k ?d ?u ?_; (case B => k_asm); (case F => k_asm); (case X => k_asm); (case N => k_asm); (case T => k_asm); (case k => exact rfl); (case d => ktr_room); (case u => ktr_units)); (intro D9 vs9 c9 h9 tk9 st9 l9 F9 N9); (try dsimp only); (try k_fold); (try k_sweep))) | ((with_reducible show wpAny _ _ (execs (_ :: _) _) _ _ _); (k_here; (with_reducible show wpAny _ _ (execs [_, _] _) _ _ _); k_dflt (refine' seg30 _ _ _ _ _ _ _ _ _ _ _ _ _ _ _ _ _ _ _ _ _ _ _ _ _ _ _ _ _ _ ?hd ?hu ?hB ?hF ?hK ?hN ?hO ?hC ?hG ?hT ?hQ ?x0 ?x1 ?x2 ?x3 ?x4 ?x5 ?x6 ?x7; (case hF => k_asm); (case hN =>  ktr_rel); (case hC => assumption); (case hO => assumption); (case hB => assumption); (case hK => assumption); (case hG => assumption); (case hT => assumption); (case hQ => assumption); (case hd => assumption); (case hu => assumption); (case x0 => assumption); (case x1 => assumption); (case x2 => (first | assumption | exact if_pos rfl | (refine (if_neg (by decide)).trans ?_; first | assumption | exact if_pos rfl | (refine (if_neg (by decide)).trans ?_; first | assumption | exact if_pos rfl | (refine (if_neg (by decide)).trans ?_; first | assumption | exact if_pos rfl | (refine (if_neg (by decide)).trans ?_; first | assumption | exact if_pos rfl)))))); (case x3 => (first | assumption | exact if_pos rfl | (refine (if_neg (by decide)).trans ?_; first | assumption | exact if_pos rfl | (refine (if_neg (by decide)).trans ?_; first | assumption | exact if_pos rfl | (refine (if_neg (by decide)).trans ?_; first | assumption | exact if_pos rfl | (refine (if_neg (by decide)).trans ?_; first | assumption | exact if_pos rfl)))))); (case x4 => assumption); (case x5 => assumption); (case x6 => assumption); (case x7 => assumption)))) | ((with_reducible show wpAny _ _ (compareOp CmpOp.NotEq (Value.int _ _) (Value.int _ _)) _ _ _); (k_here; k_dflt (refine' ne_int_same ?e ?_; (case e => assumption)))) | ((with_reducible show wpAny _ _ (compareOp CmpOp.Eq (Value.ref _) (Value.ref _)) _ _ _); (k_here; k_dflt (refine' eq_pair ?N ?m1 ?m2 ?hx ?hy ?hu ?_; (case N => k_asm); (case m1 => k_mem); (case m2 => k_mem); (case hx => exact tz_ok _); (case hy => exact tz_ok _); (case hu => ktr_units)))) | ((with_reducible show wpAny _ _ (compareOp CmpOp.NotEq (Value.ref _) (Value.ref _)) _ _ _); first | (k_here; k_dflt (refine' ne_ints_nil ?N ?m1 ?m2 ?hi ?hu ?_; (case N => k_asm); (case m1 => k_mem); (case m2 => k_mem); (case hi => exact IntsAre.cons _ _ IntsAre.nil); (case hu => ktr_units)); (try simp only [ne_eq, reduceCtorEq, not_false_eq_true, decide_true])) | (k_here; k_dflt (refine' ne_strs_nil ?N ?m1 ?m2 ?hi ?hx ?hu ?_; (case N => k_asm); (case m1 => k_mem); (case m2 => k_mem); (case hi => exact StrsAre.nil); (case hx => exact List.forall_mem_nil _); (case hu => ktr_units)); (try simp only [ne_eq, not_true_eq_false, decide_false]))) | ((with_reducible show wpAny _ _ (call (Value.builtin _) _) _ _ _); (k_here; (with_reducible show wpAny _ _ (call (Value.builtin _) [Value.ref _, Value.str _ _]) _ _ _); k_dflt (refine' index_haab ?l ?x ?h0 ?h1 ?_; (case l => exact News.isList (by k_asm) (by k_mem)); (case x => assumption); (case h0 => assumption); (case h1 => assumption)))) | ((with_reducible show wpAny _ _ (getMethod (Value.ref _) _ _) _ _ _); (k_here; (with_reducible show wpAny _ _ (getMethod (Value.ref _) (PySem.Str.ofString "index") _) _ _ _); k_dflt (refine' meth_news PySem.F.slot_list_index PySem.F.type_list_index ?N ?m ?_; (case N => k_asm); (case m => k_mem)))) | ((with_reducible show wpAny _ _ (binaryOp Operator.Add (Value.ref _) (Value.ref _)) _ _ _); (k_here; k_dflt (refine' add_lists_K ?F ?N ?m1 ?m2 ?sz ?_; (case F => k_asm); (case N => k_asm); (case m1 => k_mem); (case m2 => k_mem); (case sz => first | assumption | decide)); (intro D9 h9 F9 N9 l9); (try simp only [List.cons_append, List.nil_append] at N9); (try dsimp only); (try k_fold); (try k_sweep))) | ((with_reducible show wpAny _ _ (newTuple _) _ _ _); (k_here; k_dflt (refine' newtuple_K ?F ?N ?sz ?_; (case F => k_asm); (case N => k_asm); (case sz => decide)); (intro D9 h9 F9 N9 l9); (try simp only [List.cons_append, List.nil_append] at N9); (try dsimp only); (try k_fold); (try k_sweep))) | ((with_reducible show wpAny _ _ (newList _) _ _ _); (k_here; k_dflt (refine' newlist_K ?F ?N ?sz ?_; (case F => k_asm); (case N => k_asm); (case sz => decide)); (intro D9 h9 F9 N9 l9); (try simp only [List.cons_append, List.nil_append] at N9); (try dsimp only); (try k_fold); (try k_sweep))) | ((with_reducible show wpAny _ _ (exec (Stmt.Assign (_ :: _) (Expr.ListComp _ _ _ _) _) _) _ _ _); (k_here; k_dflt (refine Assign_fit (by k_asm) (by rfl) (by with_unfolding_all rfl) (by with_unfolding_all rfl) (by decide) (by rfl) (by decide) (by rfl) (by decide) (by rfl) (by rfl) ?_))) | ((with_reducible show wpAny _ _ (binaryOp Operator.Mod (Value.int _ _) (Value.int _ _)) _ _ _); (k_here; k_dflt (refine' mod_pos ?hb ?_; (case hb => decide)); intro t9; (try dsimp only))) | ((with_reducible show wpAny _ _ (subscriptTail _ _ _ _) _ _ _); first | (k_here; (with_reducible show wpAny _ _ (subscriptTail _ _ (Value.ref _) (Value.int _ _)) _ _ _); k_dflt (refine' item_tab ?N ?m ?i ?h0 ?hk ?fit ?_ ?hs ?hg; (case N => k_asm); (case m => k_mem); (case i => assumption); (case h0 => first | assumption | omega); (case fit => decide); (case hk => first | assumption | omega | (show _ < (20 : Int); omega) | (show _ < (19 : Int); omega)); (case hs => with_unfolding_all rfl); (case hg => intro _; with_unfolding_all rfl)); intro t9; (try dsimp only)) | (k_here; (with_reducible show wpAny _ _ (subscriptTail _ _ (Value.ref _) (Value.int 0 _)) _ _ _); k_dflt (refine' item_int ?N ?m ?_ ?hs ?hg; (case N => k_asm); (case m => k_mem); (case hs => with_unfolding_all rfl); (case hg => intro _; with_unfolding_all rfl)); intro t9; (try dsimp only)) | (k_here; (with_reducible show wpAny _ _ (subscriptTail _ _ (Value.ref _) (Value.int _ _)) _ _ _); (with_unfolding_all refine' item_anyK ?k1 ?k2 ?k3 ?k4 ?k5 ?_ ?k6; (case k1 => exact News.isList (by k_asm) (by k_mem)); (case k2 => assumption); (case k3 => decide); (case k4 => first | assumption | omega); (case k5 => decide); (case k6 => with_unfolding_all rfl); k_whole); intro t9; (try dsimp only))) | ((with_reducible show wpAny _ _ (eval (Expr.Name _ _) _) _ _ _); first | (k_here; refine' nameX_C ?N ?c ?m ?d ?_ ?k ?x ?b; (case k => exact rfl); (case x => exact rfl); (case b => decide); (case c => exact rfl); (case N => k_asm); (case m => k_mem); (case d => assumption)) | (k_here; refine' nameX_L ?F ?v ?_ ?k ?x ?d; (case k => exact rfl); (case x => exact rfl); (case d => decide); (case F => k_asm); (case v => (first | assumption | exact if_pos rfl | (refine (if_neg (by decide)).trans ?_; first | assumption | exact if_pos rfl | (refine (if_neg (by decide)).trans ?_; first | assumption | exact if_pos rfl | (refine (if_neg (by decide)).trans ?_; first | assumption | exact if_pos rfl | (refine (if_neg (by decide)).trans ?_; first | assumption | exact if_pos rfl)))))))) | ((with_reducible show wpAny _ _ (eval (Expr.Call (Expr.Name _ _) _ _ _) _) _ _ _); (k_here; refine Call_ ?_)) | walk1 | dsimp only | (leave1; try dsimp only))
  all_goals
    have hr := rs365 (a := (20 * j + dd - (348 + p) % 365) % 365) (by omega) (by omega)
    rw [hnum] at h5
    obtain ⟨y, hy, hyv, hyu⟩ := fit2 p nd i dd j ⟨hnd, hnd2, hi0, hi1⟩ ⟨hj0, hj1, hdd, hdd2⟩ h5
    have hval : cmF (hdF (584283 + p - 584283) dd j) (tdF (584283 + p - 584283) nd i) + (584283 + p) = 584283 + p + ((20 * j + dd - (348 + p) % 365) % 365 + (y : Int) * 365) := by
      rw [hnum, hyv, Int.add_comm]
    refine' ⟨_, _, _, _, _, _, _, 52, pre ++ _, (fun x => decide ((p + ((20 * j + dd - (348 + p) % 365) % 365 + (x : Int) * 365) + 3) % 13 + 1 = nd ∧ tzS ((p + ((20 * j + dd - (348 + p) % 365) % 365 + (x : Int) * 365) + 19) % 20) = tzS i)), rfl, rfl, ?F, ?N, ?R, hr.2, hr.1, ?le, ?turn, ?fin⟩
    case F => k_asm
    case N =>  ktr_rel
    case R => assumption
    case le => decide
    case turn =>
      intro x hx t I oI C oC D oD m₂ h tk E' hC hx' F' N'
      w_top off
      repeat' (first | (k_unfold; (try dsimp only)) | (k_end; wrow_close) | ((with_reducible show wpAny _ _ (call (Value.ref _) _) _ _ _); first | (k_here; (with_reducible show wpAny _ _ (call (Value.ref 135) [Value.int 2 _, _, _, Value.int _ _]) _ _ _); k_dflt (refine' CutA.use (a2_ok _ _ _ _ _ _ _ _ _ _ _ _ _ _ _ _ _ _ _) ?k1 ?k2 ?k3 ?k4 ?k6 ?k9 ?k7 ?k8 ?k5 ?kK ?kp ?kd ?ku ?kI ?kT ?_; (case k1 => k_asm); (case k2 => k_asm); (case k3 => k_asm); (case k4 => k_asm); (case k5 => k_asm); (case k7 => assumption); (case k6 => tb_rel); (case k9 => tb_start); (case k8 => assumption); (case kK => exact rfl); (case kp => (refine' ⟨?p0, ?p1, ?p2, ?p3, ?p4, ?p5, ?p6, ?p7, ?p8, ?p9, ?p10, ?p11⟩; (case p9 => assumption); (case p10 => assumption); (case p11 => assumption); (case p0 => first | assumption | omega); (case p1 => first | assumption | omega); (case p2 => first | assumption | omega); (case p3 => first | assumption | omega); (case p4 => first | assumption | omega); (case p5 => first | assumption | omega); (case p6 => first | assumption | omega); (case p7 => first | assumption | omega); (case p8 => first | assumption | omega))); (case kd => ktr_room); (case ku => ktr_units); (case kI => assumption); (case kT => assumption)); (intro v9 tl9 cc9 h9 g9 d9 tk9 r9 l9 hc9 F9 N9 G9); (obtain ⟨e9, t9, e8⟩ := r9); subst e9; subst e8; (simp only [List.cons_append, List.nil_append] at N9); clear l9; (try dsimp only); (try k_fold); (try k_sweep)) | (k_here; (first | (with_reducible show wpAny _ _ (call (Value.ref 128) []) _ _ _) | ((with_reducible show wpAny _ _ (call (Value.ref 128) ([] ++ [])) _ _ _); show wpAny _ _ (call (Value.ref 128) []) _ _ _)); k_dflt (refine' CutN.use (n_moons _ _ _ _) ?B ?F ?X ?N ?T ?k ?d ?u ?_; (case B => k_asm); (case F => k_asm); (case X => k_asm); (case N => k_asm); (case T => k_asm); (case k => exact rfl); (case d => ktr_room); (case u => ktr_units)); (intro D9 vs9 c9 h9 tk9 st9 l9 F9 N9); (try dsimp only); (try k_fold); (try k_sweep)) | (k_here; (first | (with_reducible show wpAny _ _ (call (Value.ref 121) []) _ _ _) | ((with_reducible show wpAny _ _ (call (Value.ref 121) ([] ++ [])) _ _ _); show wpAny _ _ (call (Value.ref 121) []) _ _ _)); k_dflt (refine' CutN.use (n_names _ _ _ _) ?B ?F ?X ?N ?T ?k ?d ?u ?_; (case B => k_asm); (case F => k_asm); (case X => k_asm); (case N => k_asm); (case T => k_asm); (case k => exact rfl); (case d => ktr_room); (case u => ktr_units)); (intro D9 vs9 c9 h9 tk9 st9 l9 F9 N9); (try dsimp only); (try k_fold); (try k_sweep))) | ((with_reducible show wpAny _ _ (execs (_ :: _) _) _ _ _); (k_here; (with_reducible show wpAny _ _ (execs [_, _] _) _ _ _); k_dflt (refine' seg30 _ _ _ _ _ _ _ _ _ _ _ _ _ _ _ _ _ _ _ _ _ _ _ _ _ _ _ _ _ _ ?hd ?hu ?hB ?hF ?hK ?hN ?hO ?hC ?hG ?hT ?hQ ?x0 ?x1 ?x2 ?x3 ?x4 ?x5 ?x6 ?x7; (case hF => k_asm); (case hN =>  ktr_rel); (case hC => assumption); (case hO => assumption); (case hB => assumption); (case hK => assumption); (case hG => assumption); (case hT => assumption); (case hQ => assumption); (case hd => assumption); (case hu => assumption); (case x0 => assumption); (case x1 => assumption); (case x2 => (first | assumption | exact if_pos rfl | (refine (if_neg (by decide)).trans ?_; first | assumption | exact if_pos rfl | (refine (if_neg (by decide)).trans ?_; first | assumption | exact if_pos rfl | (refine (if_neg (by decide)).trans ?_; first | assumption | exact if_pos rfl | (refine (if_neg (by decide)).trans ?_; first | assumption | exact if_pos rfl)))))); (case x3 => (first | assumption | exact if_pos rfl | (refine (if_neg (by decide)).trans ?_; first | assumption | exact if_pos rfl | (refine (if_neg (by decide)).trans ?_; first | assumption | exact if_pos rfl | (refine (if_neg (by decide)).trans ?_; first | assumption | exact if_pos rfl | (refine (if_neg (by decide)).trans ?_; first | assumption | exact if_pos rfl)))))); (case x4 => assumption); (case x5 => assumption); (case x6 => assumption); (case x7 => assumption)))) | ((with_reducible show wpAny _ _ (compareOp CmpOp.NotEq (Value.int _ _) (Value.int _ _)) _ _ _); (k_here; k_dflt (refine' ne_int_same ?e ?_; (case e => assumption)))) | ((with_reducible show wpAny _ _ (compareOp CmpOp.Eq (Value.ref _) (Value.ref _)) _ _ _); (k_here; k_dflt (refine' eq_pair ?N ?m1 ?m2 ?hx ?hy ?hu ?_; (case N => k_asm); (case m1 => k_mem); (case m2 => k_mem); (case hx => exact tz_ok _); (case hy => exact tz_ok _); (case hu => ktr_units)))) | ((with_reducible show wpAny _ _ (compareOp CmpOp.NotEq (Value.ref _) (Value.ref _)) _ _ _); first | (k_here; k_dflt (refine' ne_ints_nil ?N ?m1 ?m2 ?hi ?hu ?_; (case N => k_asm); (case m1 => k_mem); (case m2 => k_mem); (case hi => exact IntsAre.cons _ _ IntsAre.nil); (case hu => ktr_units)); (try simp only [ne_eq, reduceCtorEq, not_false_eq_true, decide_true])) | (k_here; k_dflt (refine' ne_strs_nil ?N ?m1 ?m2 ?hi ?hx ?hu ?_; (case N => k_asm); (case m1 => k_mem); (case m2 => k_mem); (case hi => exact StrsAre.nil); (case hx => exact List.forall_mem_nil _); (case hu => ktr_units)); (try simp only [ne_eq, not_true_eq_false, decide_false]))) | ((with_reducible show wpAny _ _ (call (Value.builtin _) _) _ _ _); (k_here; (with_reducible show wpAny _ _ (call (Value.builtin _) [Value.ref _, Value.str _ _]) _ _ _); k_dflt (refine' index_haab ?l ?x ?h0 ?h1 ?_; (case l => exact News.isList (by k_asm) (by k_mem)); (case x => assumption); (case h0 => assumption); (case h1 => assumption)))) | ((with_reducible show wpAny _ _ (getMethod (Value.ref _) _ _) _ _ _); (k_here; (with_reducible show wpAny _ _ (getMethod (Value.ref _) (PySem.Str.ofString "index") _) _ _ _); k_dflt (refine' meth_news PySem.F.slot_list_index PySem.F.type_list_index ?N ?m ?_; (case N => k_asm); (case m => k_mem)))) | ((with_reducible show wpAny _ _ (binaryOp Operator.Add (Value.ref _) (Value.ref _)) _ _ _); (k_here; k_dflt (refine' add_lists_K ?F ?N ?m1 ?m2 ?sz ?_; (case F => k_asm); (case N => k_asm); (case m1 => k_mem); (case m2 => k_mem); (case sz => first | assumption | decide)); (intro D9 h9 F9 N9 l9); (try simp only [List.cons_append, List.nil_append] at N9); (try dsimp only); (try k_fold); (try k_sweep))) | ((with_reducible show wpAny _ _ (newTuple _) _ _ _); (k_here; k_dflt (refine' newtuple_K ?F ?N ?sz ?_; (case F => k_asm); (case N => k_asm); (case sz => decide)); (intro D9 h9 F9 N9 l9); (try simp only [List.cons_append, List.nil_append] at N9); (try dsimp only); (try k_fold); (try k_sweep))) | ((with_reducible show wpAny _ _ (newList _) _ _ _); (k_here; k_dflt (refine' newlist_K ?F ?N ?sz ?_; (case F => k_asm); (case N => k_asm); (case sz => decide)); (intro D9 h9 F9 N9 l9); (try simp only [List.cons_append, List.nil_append] at N9); (try dsimp only); (try k_fold); (try k_sweep))) | ((with_reducible show wpAny _ _ (exec (Stmt.Assign (_ :: _) (Expr.ListComp _ _ _ _) _) _) _ _ _); (k_here; k_dflt (refine Assign_fit (by k_asm) (by rfl) (by with_unfolding_all rfl) (by with_unfolding_all rfl) (by decide) (by rfl) (by decide) (by rfl) (by decide) (by rfl) (by rfl) ?_))) | ((with_reducible show wpAny _ _ (binaryOp Operator.Mod (Value.int _ _) (Value.int _ _)) _ _ _); (k_here; k_dflt (refine' mod_pos ?hb ?_; (case hb => decide)); intro t9; (try dsimp only))) | ((with_reducible show wpAny _ _ (subscriptTail _ _ _ _) _ _ _); first | (k_here; (with_reducible show wpAny _ _ (subscriptTail _ _ (Value.ref _) (Value.int _ _)) _ _ _); k_dflt (refine' item_tab ?N ?m ?i ?h0 ?hk ?fit ?_ ?hs ?hg; (case N => k_asm); (case m => k_mem); (case i => assumption); (case h0 => first | assumption | omega); (case fit => decide); (case hk => first | assumption | omega | (show _ < (20 : Int); omega) | (show _ < (19 : Int); omega)); (case hs => with_unfolding_all rfl); (case hg => intro _; with_unfolding_all rfl)); intro t9; (try dsimp only)) | (k_here; (with_reducible show wpAny _ _ (subscriptTail _ _ (Value.ref _) (Value.int 0 _)) _ _ _); k_dflt (refine' item_int ?N ?m ?_ ?hs ?hg; (case N => k_asm); (case m => k_mem); (case hs => with_unfolding_all rfl); (case hg => intro _; with_unfolding_all rfl)); intro t9; (try dsimp only)) | (k_here; (with_reducible show wpAny _ _ (subscriptTail _ _ (Value.ref _) (Value.int _ _)) _ _ _); (with_unfolding_all refine' item_anyK ?k1 ?k2 ?k3 ?k4 ?k5 ?_ ?k6; (case k1 => exact News.isList (by k_asm) (by k_mem)); (case k2 => assumption); (case k3 => decide); (case k4 => first | assumption | omega); (case k5 => decide); (case k6 => with_unfolding_all rfl); k_whole); intro t9; (try dsimp only))) | ((with_reducible show wpAny _ _ (eval (Expr.Name _ _) _) _ _ _); first | (k_here; refine' nameX_C ?N ?c ?m ?d ?_ ?k ?x ?b; (case k => exact rfl); (case x => exact rfl); (case b => decide); (case c => exact rfl); (case N => k_asm); (case m => k_mem); (case d => assumption)) | (k_here; refine' nameX_L ?F ?v ?_ ?k ?x ?d; (case k => exact rfl); (case x => exact rfl); (case d => decide); (case F => k_asm); (case v => (first | assumption | exact if_pos rfl | (refine (if_neg (by decide)).trans ?_; first | assumption | exact if_pos rfl | (refine (if_neg (by decide)).trans ?_; first | assumption | exact if_pos rfl | (refine (if_neg (by decide)).trans ?_; first | assumption | exact if_pos rfl | (refine (if_neg (by decide)).trans ?_; first | assumption | exact if_pos rfl)))))))) | ((with_reducible show wpAny _ _ (eval (Expr.Call (Expr.Name _ _) _ _ _) _) _ _ _); (k_here; refine Call_ ?_)) | walk1 | dsimp only | (leave1; try dsimp only))
      all_goals (first | assumption | exact (by ktr_rel))
    case fin =>
      intro D ys ns' h tk hys hns F' N'
      rw [pass_one hy hyu] at hns
      subst hns
      cases hys with
      | cons a t hys =>
        cases hys
        (try dsimp only at F' N')
        w_top off
        repeat' (first | (k_unfold; (try dsimp only)) | (k_end; wrow_close) | ((with_reducible show wpAny _ _ (call (Value.ref _) _) _ _ _); first | (k_here; (with_reducible show wpAny _ _ (call (Value.ref 135) [Value.int 2 _, _, _, Value.int _ _]) _ _ _); k_dflt (refine' CutA.use (a2_ok _ _ _ _ _ _ _ _ _ _ _ _ _ _ _ _ _ _ _) ?k1 ?k2 ?k3 ?k4 ?k6 ?k9 ?k7 ?k8 ?k5 ?kK ?kp ?kd ?ku ?kI ?kT ?_; (case k1 => k_asm); (case k2 => k_asm); (case k3 => k_asm); (case k4 => k_asm); (case k5 => k_asm); (case k7 => assumption); (case k6 => tb_rel); (case k9 => tb_start); (case k8 => assumption); (case kK => exact rfl); (case kp => (refine' ⟨?p0, ?p1, ?p2, ?p3, ?p4, ?p5, ?p6, ?p7, ?p8, ?p9, ?p10, ?p11⟩; (case p9 => assumption); (case p10 => assumption); (case p11 => assumption); (case p0 => first | assumption | omega); (case p1 => first | assumption | omega); (case p2 => first | assumption | omega); (case p3 => first | assumption | omega); (case p4 => first | assumption | omega); (case p5 => first | assumption | omega); (case p6 => first | assumption | omega); (case p7 => first | assumption | omega); (case p8 => first | assumption | omega))); (case kd => ktr_room); (case ku => ktr_units); (case kI => assumption); (case kT => assumption)); (intro v9 tl9 cc9 h9 g9 d9 tk9 r9 l9 hc9 F9 N9 G9); (obtain ⟨e9, t9, e8⟩ := r9); subst e9; subst e8; (simp only [List.cons_append, List.nil_append] at N9); clear l9; (try dsimp only); (try k_fold); (try k_sweep)) | (k_here; (first | (with_reducible show wpAny _ _ (call (Value.ref 128) []) _ _ _) | ((with_reducible show wpAny _ _ (call (Value.ref 128) ([] ++ [])) _ _ _); show wpAny _ _ (call (Value.ref 128) []) _ _ _)); k_dflt (refine' CutN.use (n_moons _ _ _ _) ?B ?F ?X ?N ?T ?k ?d ?u ?_; (case B => k_asm); (case F => k_asm); (case X => k_asm); (case N => k_asm); (case T => k_asm); (case k => exact rfl); (case d => ktr_room); (case u => ktr_units)); (intro D9 vs9 c9 h9 tk9 st9 l9 F9 N9); (try dsimp only); (try k_fold); (try k_sweep)) | (k_here; (first | (with_reducible show wpAny _ _ (call (Value.ref 121) []) _ _ _) | ((with_reducible show wpAny _ _ (call (Value.ref 121) ([] ++ [])) _ _ _); show wpAny _ _ (call (Value.ref 121) []) _ _ _)); k_dflt (refine' CutN.use (n_names _ _ _ _) ?B ?F ?X ?N ?T ?k ?d ?u ?_; (case B => k_asm); (case F => k_asm); (case X => k_asm); (case N => k_asm); (case T => k_asm); (case k => exact rfl); (case d => ktr_room); (case u => ktr_units)); (intro D9 vs9 c9 h9 tk9 st9 l9 F9 N9); (try dsimp only); (try k_fold); (try k_sweep))) | ((with_reducible show wpAny _ _ (execs (_ :: _) _) _ _ _); (k_here; (with_reducible show wpAny _ _ (execs [_, _] _) _ _ _); k_dflt (refine' seg30 _ _ _ _ _ _ _ _ _ _ _ _ _ _ _ _ _ _ _ _ _ _ _ _ _ _ _ _ _ _ ?hd ?hu ?hB ?hF ?hK ?hN ?hO ?hC ?hG ?hT ?hQ ?x0 ?x1 ?x2 ?x3 ?x4 ?x5 ?x6 ?x7; (case hF => k_asm); (case hN =>  ktr_rel); (case hC => assumption); (case hO => assumption); (case hB => assumption); (case hK => assumption); (case hG => assumption); (case hT => assumption); (case hQ => assumption); (case hd => assumption); (case hu => assumption); (case x0 => assumption); (case x1 => assumption); (case x2 => (first | assumption | exact if_pos rfl | (refine (if_neg (by decide)).trans ?_; first | assumption | exact if_pos rfl | (refine (if_neg (by decide)).trans ?_; first | assumption | exact if_pos rfl | (refine (if_neg (by decide)).trans ?_; first | assumption | exact if_pos rfl | (refine (if_neg (by decide)).trans ?_; first | assumption | exact if_pos rfl)))))); (case x3 => (first | assumption | exact if_pos rfl | (refine (if_neg (by decide)).trans ?_; first | assumption | exact if_pos rfl | (refine (if_neg (by decide)).trans ?_; first | assumption | exact if_pos rfl | (refine (if_neg (by decide)).trans ?_; first | assumption | exact if_pos rfl | (refine (if_neg (by decide)).trans ?_; first | assumption | exact if_pos rfl)))))); (case x4 => assumption); (case x5 => assumption); (case x6 => assumption); (case x7 => assumption)))) | ((with_reducible show wpAny _ _ (compareOp CmpOp.NotEq (Value.int _ _) (Value.int _ _)) _ _ _); (k_here; k_dflt (refine' ne_int_same ?e ?_; (case e => assumption)))) | ((with_reducible show wpAny _ _ (compareOp CmpOp.Eq (Value.ref _) (Value.ref _)) _ _ _); (k_here; k_dflt (refine' eq_pair ?N ?m1 ?m2 ?hx ?hy ?hu ?_; (case N => k_asm); (case m1 => k_mem); (case m2 => k_mem); (case hx => exact tz_ok _); (case hy => exact tz_ok _); (case hu => ktr_units)))) | ((with_reducible show wpAny _ _ (compareOp CmpOp.NotEq (Value.ref _) (Value.ref _)) _ _ _); first | (k_here; k_dflt (refine' ne_ints_nil ?N ?m1 ?m2 ?hi ?hu ?_; (case N => k_asm); (case m1 => k_mem); (case m2 => k_mem); (case hi => exact IntsAre.cons _ _ IntsAre.nil); (case hu => ktr_units)); (try simp only [ne_eq, reduceCtorEq, not_false_eq_true, decide_true])) | (k_here; k_dflt (refine' ne_strs_nil ?N ?m1 ?m2 ?hi ?hx ?hu ?_; (case N => k_asm); (case m1 => k_mem); (case m2 => k_mem); (case hi => exact StrsAre.nil); (case hx => exact List.forall_mem_nil _); (case hu => ktr_units)); (try simp only [ne_eq, not_true_eq_false, decide_false]))) | ((with_reducible show wpAny _ _ (call (Value.builtin _) _) _ _ _); (k_here; (with_reducible show wpAny _ _ (call (Value.builtin _) [Value.ref _, Value.str _ _]) _ _ _); k_dflt (refine' index_haab ?l ?x ?h0 ?h1 ?_; (case l => exact News.isList (by k_asm) (by k_mem)); (case x => assumption); (case h0 => assumption); (case h1 => assumption)))) | ((with_reducible show wpAny _ _ (getMethod (Value.ref _) _ _) _ _ _); (k_here; (with_reducible show wpAny _ _ (getMethod (Value.ref _) (PySem.Str.ofString "index") _) _ _ _); k_dflt (refine' meth_news PySem.F.slot_list_index PySem.F.type_list_index ?N ?m ?_; (case N => k_asm); (case m => k_mem)))) | ((with_reducible show wpAny _ _ (binaryOp Operator.Add (Value.ref _) (Value.ref _)) _ _ _); (k_here; k_dflt (refine' add_lists_K ?F ?N ?m1 ?m2 ?sz ?_; (case F => k_asm); (case N => k_asm); (case m1 => k_mem); (case m2 => k_mem); (case sz => first | assumption | decide)); (intro D9 h9 F9 N9 l9); (try simp only [List.cons_append, List.nil_append] at N9); (try dsimp only); (try k_fold); (try k_sweep))) | ((with_reducible show wpAny _ _ (newTuple _) _ _ _); (k_here; k_dflt (refine' newtuple_K ?F ?N ?sz ?_; (case F => k_asm); (case N => k_asm); (case sz => decide)); (intro D9 h9 F9 N9 l9); (try simp only [List.cons_append, List.nil_append] at N9); (try dsimp only); (try k_fold); (try k_sweep))) | ((with_reducible show wpAny _ _ (newList _) _ _ _); (k_here; k_dflt (refine' newlist_K ?F ?N ?sz ?_; (case F => k_asm); (case N => k_asm); (case sz => decide)); (intro D9 h9 F9 N9 l9); (try simp only [List.cons_append, List.nil_append] at N9); (try dsimp only); (try k_fold); (try k_sweep))) | ((with_reducible show wpAny _ _ (exec (Stmt.Assign (_ :: _) (Expr.ListComp _ _ _ _) _) _) _ _ _); (k_here; k_dflt (refine Assign_fit (by k_asm) (by rfl) (by with_unfolding_all rfl) (by with_unfolding_all rfl) (by decide) (by rfl) (by decide) (by rfl) (by decide) (by rfl) (by rfl) ?_))) | ((with_reducible show wpAny _ _ (binaryOp Operator.Mod (Value.int _ _) (Value.int _ _)) _ _ _); (k_here; k_dflt (refine' mod_pos ?hb ?_; (case hb => decide)); intro t9; (try dsimp only))) | ((with_reducible show wpAny _ _ (subscriptTail _ _ _ _) _ _ _); first | (k_here; (with_reducible show wpAny _ _ (subscriptTail _ _ (Value.ref _) (Value.int _ _)) _ _ _); k_dflt (refine' item_tab ?N ?m ?i ?h0 ?hk ?fit ?_ ?hs ?hg; (case N => k_asm); (case m => k_mem); (case i => assumption); (case h0 => first | assumption | omega); (case fit => decide); (case hk => first | assumption | omega | (show _ < (20 : Int); omega) | (show _ < (19 : Int); omega)); (case hs => with_unfolding_all rfl); (case hg => intro _; with_unfolding_all rfl)); intro t9; (try dsimp only)) | (k_here; (with_reducible show wpAny _ _ (subscriptTail _ _ (Value.ref _) (Value.int 0 _)) _ _ _); k_dflt (refine' item_int ?N ?m ?_ ?hs ?hg; (case N => k_asm); (case m => k_mem); (case hs => with_unfolding_all rfl); (case hg => intro _; with_unfolding_all rfl)); intro t9; (try dsimp only)) | (k_here; (with_reducible show wpAny _ _ (subscriptTail _ _ (Value.ref _) (Value.int _ _)) _ _ _); (with_unfolding_all refine' item_anyK ?k1 ?k2 ?k3 ?k4 ?k5 ?_ ?k6; (case k1 => exact News.isList (by k_asm) (by k_mem)); (case k2 => assumption); (case k3 => decide); (case k4 => first | assumption | omega); (case k5 => decide); (case k6 => with_unfolding_all rfl); k_whole); intro t9; (try dsimp only))) | ((with_reducible show wpAny _ _ (eval (Expr.Name _ _) _) _ _ _); first | (k_here; refine' nameX_C ?N ?c ?m ?d ?_ ?k ?x ?b; (case k => exact rfl); (case x => exact rfl); (case b => decide); (case c => exact rfl); (case N => k_asm); (case m => k_mem); (case d => assumption)) | (k_here; refine' nameX_L ?F ?v ?_ ?k ?x ?d; (case k => exact rfl); (case x => exact rfl); (case d => decide); (case F => k_asm); (case v => (first | assumption | exact if_pos rfl | (refine (if_neg (by decide)).trans ?_; first | assumption | exact if_pos rfl | (refine (if_neg (by decide)).trans ?_; first | assumption | exact if_pos rfl | (refine (if_neg (by decide)).trans ?_; first | assumption | exact if_pos rfl | (refine (if_neg (by decide)).trans ?_; first | assumption | exact if_pos rfl)))))))) | ((with_reducible show wpAny _ _ (eval (Expr.Call (Expr.Name _ _) _ _ _) _) _ _ _); (k_here; refine Call_ ?_)) | walk1 | dsimp only | (leave1; try dsimp only))

end Mine
end
section
namespace Mine
set_option maxRecDepth 100000 in
set_option maxHeartbeats 8000000 in
theorem seg28_none (w : World) (mean : ExcName → Option Value) (mg mb : Str → Option Value) (h₀ : Heap) (L c1 c2 : Addr) (ccd : Value) (m : Str → Option Value) (pre cc : List (Addr × Obj)) (s : Shared) (Q : Flow → Shared → Prop) (E : Value → Shared → Prop) (dp un : Nat) (gd : Option (List Code)) (o1 o2 : Obj) (D1 D2 D3 D4 Dn : Addr) (nd dd p : Int) (nn mm : Str) (u1 u2 u3 u4 u5 u6 u7 u8 tp tn tm td tl : Tok) (k1 k2 k3 k4 kn : Nat) (vs : List Value) (ns : List Int) (i j : Int) (Da Db : Addr) (ka kb : Nat)
    (hd1 : dp + 20 < recursionLimit) (hu1 : un + 200 < cLine) (hB : Below callerA h₀ [] h₀) (hF : Fr h₀ L s.heap m) (hK : (theK.heap_1 w.params).In h₀) (hN : News h₀ L s.heap (pre ++ cc)) (hO : PreOk pre) (hC : CC cc) (hG : AllBare s.gens) (hT : Top p0 lo0 mean mg mb h₀) (hQ : Done h₀ L s.os Q)
    (hc1 : (c1, o1) ∈ pre) (ho1 : o1.data = .cell (some (.int p tp))) (hc2 : (c2, o2) ∈ pre) (ho2 : o2.data = .cell (some (.ref D1))) (m1 : m "numbers" = some (.ref Dn)) (m2 : m "number" = some (.int (584283 + p) tn)) (m3 : m "haab" = some (.ref D2)) (m4 : m "month" = some (.str mm tm)) (m5 : m "day" = some (.int dd td)) (m6 : m "place" = some (.int ((348 + p) % 365) tl)) (m7 : m "here" = some (.ref D3)) (m8 : m "there" = some (.ref D4)) (n1 : (D1, tupO [.int nd u1, .str nn u2] k1) ∈ pre) (n2 : (D2, tupO [.int dd u3, .str mm u4] k2) ∈ pre) (n3 : (D3, tupO [.int (tDay p) u5, .str (tzS (tNam p)) u6] k3) ∈ pre) (n4 : (D4, tupO [.int (hDay p) u7, .str (haabS (hMon p)) u8] k4) ∈ pre) (nn0 : (Dn, W.listOf vs.toArray kn) ∈ pre) (hI : IntsAre vs ns) (hlen : (0 : Int) < ns.length) (hp : 0 ≤ p) (hnd : 1 ≤ nd) (hnd2 : nd ≤ 13) (hi0 : 0 ≤ i) (hi1 : i < 20) (hnn : nn = tzS i) (hdd : 0 ≤ dd) (hdd2 : dd ≤ 19) (hj0 : 0 ≤ j) (hj1 : j < 19) (hmm : mm = haabS j) (m9 : m "wrong_names" = some (.ref Da)) (na : (Da, W.listOf ([] : List Value).toArray ka) ∈ pre) (m10 : m "wrong_haab" = some (.ref Db)) (nb : (Db, W.listOf ([] : List Value).toArray kb) ∈ pre) (h5 : (tdF (584283 + p - 584283) nd i - hdF (584283 + p - 584283) dd j) % 5 ≠ 0) : Seg w 28 dp un gd L ccd [("names", c2), ("past", c1)] Q E s := by
  unfold Seg
  revert hK
  k_fill
  intro hK
  conv in (occs := *) (scopeAt w) => all_goals whnf
  refine wpAny_execs_cons ?_
  subst hnn hmm
  have hnum : (584283 : Int) + p - 584283 = p := by omega
  w_top off
  repeat' (first | (k_unfold; (try dsimp only)) | (k_end; wrow_close) | ((with_reducible show wpAny _ _ (call (Value.ref _) _) _ _ _); first | (k_here; (with_reducible show wpAny _ _ (call (Value.ref 135) [Value.int 2 _, _, _, Value.int _ _]) _ _ _); k_dflt (refine' CutA.use (a2_none _ _ _ _ _ _ _ _ _ _ _ _ _ _ _ _ _ _ _) ?k1 ?k2 ?k3 ?k4 ?k6 ?k9 ?k7 ?k8 ?k5 ?kK ?kp ?kd ?ku ?kI ?kT ?_; (case k1 => k_asm); (case k2 => k_asm); (case k3 => k_asm); (case k4 => k_asm); (case k5 => k_asm); (case k7 => assumption); (case k6 => tb_rel); (case k9 => tb_start); (case k8 => assumption); (case kK => exact rfl); (case kp => (refine' ⟨?p0, ?p1, ?p2, ?p3, ?p4, ?p5, ?p6, ?p7, ?p8, ?p9, ?p10, ?p11⟩; (case p9 => assumption); (case p10 => assumption); (case p11 => assumption); (case p0 => first | assumption | omega); (case p1 => first | assumption | omega); (case p2 => first | assumption | omega); (case p3 => first | assumption | omega); (case p4 => first | assumption | omega); (case p5 => first | assumption | omega); (case p6 => first | assumption | omega); (case p7 => first | assumption | omega); (case p8 => first | assumption | omega))); (case kd => ktr_room); (case ku => ktr_units); (case kI => assumption); (case kT => assumption)); (intro v9 tl9 cc9 h9 g9 d9 tk9 r9 l9 hc9 F9 N9 G9); (obtain ⟨e9, t9, e8⟩ := r9); subst e9; subst e8; (simp only [List.cons_append, List.nil_append] at N9); clear l9; (try dsimp only); (try k_fold); (try k_sweep)) | (k_here; (first | (with_reducible show wpAny _ _ (call (Value.ref 128) []) _ _ _) | ((with_reducible show wpAny _ _ (call (Value.ref 128) ([] ++ [])) _ _ _); show wpAny _ _ (call (Value.ref 128) []) _ _ _)); k_dflt (refine' CutN.use (n_moons _ _ _ _) ?B ?F ?X ?N ?T ?k ?d ?u ?_; (case B => k_asm); (case F => k_asm); (case X => k_asm); (case N => k_asm); (case T => k_asm); (case k => exact rfl); (case d => ktr_room); (case u => ktr_units)); (intro D9 vs9 c9 h9 tk9 st9 l9 F9 N9); (try dsimp only); (try k_fold); (try k_sweep)) | (k_here; (first | (with_reducible show wpAny _ _ (call (Value.ref 121) []) _ _ _) | ((with_reducible show wpAny _ _ (call (Value.ref 121) ([] ++ [])) _ _ _); show wpAny _ _ (call (Value.ref 121) []) _ _ _)); k_dflt (refine' CutN.use (n_names _ _ _ _) ?B ?F ?X ?N ?T ?k ?d ?u ?_; (case B => k_asm); (case F => k_asm); (case X => k_asm); (case N => k_asm); (case T => k_asm); (case k => exact rfl); (case d => ktr_room); (case u => ktr_units)); (intro D9 vs9 c9 h9 tk9 st9 l9 F9 N9); (try dsimp only); (try k_fold); (try k_sweep))) | ((with_reducible show wpAny _ _ (execs (_ :: _) _) _ _ _); (k_here; (with_reducible show wpAny _ _ (execs [_, _] _) _ _ _); k_dflt (refine' seg30 _ _ _ _ _ _ _ _ _ _ _ _ _ _ _ _ _ _ _ _ _ _ _ _ _ _ _ _ _ _ ?hd ?hu ?hB ?hF ?hK ?hN ?hO ?hC ?hG ?hT ?hQ ?x0 ?x1 ?x2 ?x3 ?x4 ?x5 ?x6 ?x7; (case hF => k_asm); (case hN =>  ktr_rel); (case hC => assumption); (case hO => assumption); (case hB => assumption); (case hK => assumption); (case hG => assumption); (case hT => assumption); (case hQ => assumption); (case hd => assumption); (case hu => assumption); (case x0 => assumption); (case x1 => assumption); (case x2 => (first | assumption | exact if_pos rfl | (refine (if_neg (by decide)).trans ?_; first | assumption | exact if_pos rfl | (refine (if_neg (by decide)).trans ?_; first | assumption | exact if_pos rfl | (refine (if_neg (by decide)).trans ?_; first | assumption | exact if_pos rfl | (refine (if_neg (by decide)).trans ?_; first | assumption | exact if_pos rfl)))))); (case x3 => (first | assumption | exact if_pos rfl | (refine (if_neg (by decide)).trans ?_; first | assumption | exact if_pos rfl | (refine (if_neg (by decide)).trans ?_; first | assumption | exact if_pos rfl | (refine (if_neg (by decide)).trans ?_; first | assumption | exact if_pos rfl | (refine (if_neg (by decide)).trans ?_; first | assumption | exact if_pos rfl)))))); (case x4 => assumption); (case x5 => assumption); (case x6 => assumption); (case x7 => assumption)))) | ((with_reducible show wpAny _ _ (compareOp CmpOp.NotEq (Value.int _ _) (Value.int _ _)) _ _ _); (k_here; k_dflt (refine' ne_int_same ?e ?_; (case e => assumption)))) | ((with_reducible show wpAny _ _ (compareOp CmpOp.Eq (Value.ref _) (Value.ref _)) _ _ _); (k_here; k_dflt (refine' eq_pair ?N ?m1 ?m2 ?hx ?hy ?hu ?_; (case N => k_asm); (case m1 => k_mem); (case m2 => k_mem); (case hx => exact tz_ok _); (case hy => exact tz_ok _); (case hu => ktr_units)))) | ((with_reducible show wpAny _ _ (compareOp CmpOp.NotEq (Value.ref _) (Value.ref _)) _ _ _); first | (k_here; k_dflt (refine' ne_ints_nil ?N ?m1 ?m2 ?hi ?hu ?_; (case N => k_asm); (case m1 => k_mem); (case m2 => k_mem); (case hi => exact IntsAre.nil); (case hu => ktr_units)); (try simp only [ne_eq, reduceCtorEq, not_false_eq_true, decide_true])) | (k_here; k_dflt (refine' ne_strs_nil ?N ?m1 ?m2 ?hi ?hx ?hu ?_; (case N => k_asm); (case m1 => k_mem); (case m2 => k_mem); (case hi => exact StrsAre.nil); (case hx => exact List.forall_mem_nil _); (case hu => ktr_units)); (try simp only [ne_eq, not_true_eq_false, decide_false]))) | ((with_reducible show wpAny _ _ (call (Value.builtin _) _) _ _ _); (k_here; (with_reducible show wpAny _ _ (call (Value.builtin _) [Value.ref _, Value.str _ _]) _ _ _); k_dflt (refine' index_haab ?l ?x ?h0 ?h1 ?_; (case l => exact News.isList (by k_asm) (by k_mem)); (case x => assumption); (case h0 => assumption); (case h1 => assumption)))) | ((with_reducible show wpAny _ _ (getMethod (Value.ref _) _ _) _ _ _); (k_here; (with_reducible show wpAny _ _ (getMethod (Value.ref _) (PySem.Str.ofString "index") _) _ _ _); k_dflt (refine' meth_news PySem.F.slot_list_index PySem.F.type_list_index ?N ?m ?_; (case N => k_asm); (case m => k_mem)))) | ((with_reducible show wpAny _ _ (binaryOp Operator.Add (Value.ref _) (Value.ref _)) _ _ _); (k_here; k_dflt (refine' add_lists_K ?F ?N ?m1 ?m2 ?sz ?_; (case F => k_asm); (case N => k_asm); (case m1 => k_mem); (case m2 => k_mem); (case sz => first | assumption | decide)); (intro D9 h9 F9 N9 l9); (try simp only [List.cons_append, List.nil_append] at N9); (try dsimp only); (try k_fold); (try k_sweep))) | ((with_reducible show wpAny _ _ (newTuple _) _ _ _); (k_here; k_dflt (refine' newtuple_K ?F ?N ?sz ?_; (case F => k_asm); (case N => k_asm); (case sz => decide)); (intro D9 h9 F9 N9 l9); (try simp only [List.cons_append, List.nil_append] at N9); (try dsimp only); (try k_fold); (try k_sweep))) | ((with_reducible show wpAny _ _ (newList _) _ _ _); (k_here; k_dflt (refine' newlist_K ?F ?N ?sz ?_; (case F => k_asm); (case N => k_asm); (case sz => decide)); (intro D9 h9 F9 N9 l9); (try simp only [List.cons_append, List.nil_append] at N9); (try dsimp only); (try k_fold); (try k_sweep))) | ((with_reducible show wpAny _ _ (exec (Stmt.Assign (_ :: _) (Expr.ListComp _ _ _ _) _) _) _ _ _); (k_here; k_dflt (refine Assign_fit (by k_asm) (by rfl) (by with_unfolding_all rfl) (by with_unfolding_all rfl) (by decide) (by rfl) (by decide) (by rfl) (by decide) (by rfl) (by rfl) ?_))) | ((with_reducible show wpAny _ _ (binaryOp Operator.Mod (Value.int _ _) (Value.int _ _)) _ _ _); (k_here; k_dflt (refine' mod_pos ?hb ?_; (case hb => decide)); intro t9; (try dsimp only))) | ((with_reducible show wpAny _ _ (subscriptTail _ _ _ _) _ _ _); first | (k_here; (with_reducible show wpAny _ _ (subscriptTail _ _ (Value.ref _) (Value.int _ _)) _ _ _); k_dflt (refine' item_tab ?N ?m ?i ?h0 ?hk ?fit ?_ ?hs ?hg; (case N => k_asm); (case m => k_mem); (case i => assumption); (case h0 => first | assumption | omega); (case fit => decide); (case hk => first | assumption | omega | (show _ < (20 : Int); omega) | (show _ < (19 : Int); omega)); (case hs => with_unfolding_all rfl); (case hg => intro _; with_unfolding_all rfl)); intro t9; (try dsimp only)) | (k_here; (with_reducible show wpAny _ _ (subscriptTail _ _ (Value.ref _) (Value.int 0 _)) _ _ _); k_dflt (refine' item_int ?N ?m ?_ ?hs ?hg; (case N => k_asm); (case m => k_mem); (case hs => with_unfolding_all rfl); (case hg => intro _; with_unfolding_all rfl)); intro t9; (try dsimp only)) | (k_here; (with_reducible show wpAny _ _ (subscriptTail _ _ (Value.ref _) (Value.int _ _)) _ _ _); (with_unfolding_all refine' item_anyK ?k1 ?k2 ?k3 ?k4 ?k5 ?_ ?k6; (case k1 => exact News.isList (by k_asm) (by k_mem)); (case k2 => assumption); (case k3 => decide); (case k4 => first | assumption | omega); (case k5 => decide); (case k6 => with_unfolding_all rfl); k_whole); intro t9; (try dsimp only))) | ((with_reducible show wpAny _ _ (eval (Expr.Name _ _) _) _ _ _); first | (k_here; refine' nameX_C ?N ?c ?m ?d ?_ ?k ?x ?b; (case k => exact rfl); (case x => exact rfl); (case b => decide); (case c => exact rfl); (case N => k_asm); (case m => k_mem); (case d => assumption)) | (k_here; refine' nameX_L ?F ?v ?_ ?k ?x ?d; (case k => exact rfl); (case x => exact rfl); (case d => decide); (case F => k_asm); (case v => (first | assumption | exact if_pos rfl | (refine (if_neg (by decide)).trans ?_; first | assumption | exact if_pos rfl | (refine (if_neg (by decide)).trans ?_; first | assumption | exact if_pos rfl | (refine (if_neg (by decide)).trans ?_; first | assumption | exact if_pos rfl | (refine (if_neg (by decide)).trans ?_; first | assumption | exact if_pos rfl)))))))) | ((with_reducible show wpAny _ _ (eval (Expr.Call (Expr.Name _ _) _ _ _) _) _ _ _); (k_here; refine Call_ ?_)) | walk1 | dsimp only | (leave1; try dsimp only))
  all_goals
    have hr := rs365 (a := (20 * j + dd - (348 + p) % 365) % 365) (by omega) (by omega)
    rw [hnum] at h5
    have hyu := fit2_none p nd i dd j ⟨hnd, hnd2, hi0, hi1⟩ h5
    refine' ⟨_, _, _, _, _, _, _, 52, pre ++ _, (fun x => decide ((p + ((20 * j + dd - (348 + p) % 365) % 365 + (x : Int) * 365) + 3) % 13 + 1 = nd ∧ tzS ((p + ((20 * j + dd - (348 + p) % 365) % 365 + (x : Int) * 365) + 19) % 20) = tzS i)), rfl, rfl, ?F, ?N, ?R, hr.2, hr.1, ?le, ?turn, ?fin⟩
    case F => k_asm
    case N =>  ktr_rel
    case R => assumption
    case le => decide
    case turn =>
      intro x hx t I oI C oC D oD m₂ h tk E' hC hx' F' N'
      w_top off
      repeat' (first | (k_unfold; (try dsimp only)) | (k_end; wrow_close) | ((with_reducible show wpAny _ _ (call (Value.ref _) _) _ _ _); first | (k_here; (with_reducible show wpAny _ _ (call (Value.ref 135) [Value.int 2 _, _, _, Value.int _ _]) _ _ _); k_dflt (refine' CutA.use (a2_none _ _ _ _ _ _ _ _ _ _ _ _ _ _ _ _ _ _ _) ?k1 ?k2 ?k3 ?k4 ?k6 ?k9 ?k7 ?k8 ?k5 ?kK ?kp ?kd ?ku ?kI ?kT ?_; (case k1 => k_asm); (case k2 => k_asm); (case k3 => k_asm); (case k4 => k_asm); (case k5 => k_asm); (case k7 => assumption); (case k6 => tb_rel); (case k9 => tb_start); (case k8 => assumption); (case kK => exact rfl); (case kp => (refine' ⟨?p0, ?p1, ?p2, ?p3, ?p4, ?p5, ?p6, ?p7, ?p8, ?p9, ?p10, ?p11⟩; (case p9 => assumption); (case p10 => assumption); (case p11 => assumption); (case p0 => first | assumption | omega); (case p1 => first | assumption | omega); (case p2 => first | assumption | omega); (case p3 => first | assumption | omega); (case p4 => first | assumption | omega); (case p5 => first | assumption | omega); (case p6 => first | assumption | omega); (case p7 => first | assumption | omega); (case p8 => first | assumption | omega))); (case kd => ktr_room); (case ku => ktr_units); (case kI => assumption); (case kT => assumption)); (intro v9 tl9 cc9 h9 g9 d9 tk9 r9 l9 hc9 F9 N9 G9); (obtain ⟨e9, t9, e8⟩ := r9); subst e9; subst e8; (simp only [List.cons_append, List.nil_append] at N9); clear l9; (try dsimp only); (try k_fold); (try k_sweep)) | (k_here; (first | (with_reducible show wpAny _ _ (call (Value.ref 128) []) _ _ _) | ((with_reducible show wpAny _ _ (call (Value.ref 128) ([] ++ [])) _ _ _); show wpAny _ _ (call (Value.ref 128) []) _ _ _)); k_dflt (refine' CutN.use (n_moons _ _ _ _) ?B ?F ?X ?N ?T ?k ?d ?u ?_; (case B => k_asm); (case F => k_asm); (case X => k_asm); (case N => k_asm); (case T => k_asm); (case k => exact rfl); (case d => ktr_room); (case u => ktr_units)); (intro D9 vs9 c9 h9 tk9 st9 l9 F9 N9); (try dsimp only); (try k_fold); (try k_sweep)) | (k_here; (first | (with_reducible show wpAny _ _ (call (Value.ref 121) []) _ _ _) | ((with_reducible show wpAny _ _ (call (Value.ref 121) ([] ++ [])) _ _ _); show wpAny _ _ (call (Value.ref 121) []) _ _ _)); k_dflt (refine' CutN.use (n_names _ _ _ _) ?B ?F ?X ?N ?T ?k ?d ?u ?_; (case B => k_asm); (case F => k_asm); (case X => k_asm); (case N => k_asm); (case T => k_asm); (case k => exact rfl); (case d => ktr_room); (case u => ktr_units)); (intro D9 vs9 c9 h9 tk9 st9 l9 F9 N9); (try dsimp only); (try k_fold); (try k_sweep))) | ((with_reducible show wpAny _ _ (execs (_ :: _) _) _ _ _); (k_here; (with_reducible show wpAny _ _ (execs [_, _] _) _ _ _); k_dflt (refine' seg30 _ _ _ _ _ _ _ _ _ _ _ _ _ _ _ _ _ _ _ _ _ _ _ _ _ _ _ _ _ _ ?hd ?hu ?hB ?hF ?hK ?hN ?hO ?hC ?hG ?hT ?hQ ?x0 ?x1 ?x2 ?x3 ?x4 ?x5 ?x6 ?x7; (case hF => k_asm); (case hN =>  ktr_rel); (case hC => assumption); (case hO => assumption); (case hB => assumption); (case hK => assumption); (case hG => assumption); (case hT => assumption); (case hQ => assumption); (case hd => assumption); (case hu => assumption); (case x0 => assumption); (case x1 => assumption); (case x2 => (first | assumption | exact if_pos rfl | (refine (if_neg (by decide)).trans ?_; first | assumption | exact if_pos rfl | (refine (if_neg (by decide)).trans ?_; first | assumption | exact if_pos rfl | (refine (if_neg (by decide)).trans ?_; first | assumption | exact if_pos rfl | (refine (if_neg (by decide)).trans ?_; first | assumption | exact if_pos rfl)))))); (case x3 => (first | assumption | exact if_pos rfl | (refine (if_neg (by decide)).trans ?_; first | assumption | exact if_pos rfl | (refine (if_neg (by decide)).trans ?_; first | assumption | exact if_pos rfl | (refine (if_neg (by decide)).trans ?_; first | assumption | exact if_pos rfl | (refine (if_neg (by decide)).trans ?_; first | assumption | exact if_pos rfl)))))); (case x4 => assumption); (case x5 => assumption); (case x6 => assumption); (case x7 => assumption)))) | ((with_reducible show wpAny _ _ (compareOp CmpOp.NotEq (Value.int _ _) (Value.int _ _)) _ _ _); (k_here; k_dflt (refine' ne_int_same ?e ?_; (case e => assumption)))) | ((with_reducible show wpAny _ _ (compareOp CmpOp.Eq (Value.ref _) (Value.ref _)) _ _ _); (k_here; k_dflt (refine' eq_pair ?N ?m1 ?m2 ?hx ?hy ?hu ?_; (case N => k_asm); (case m1 => k_mem); (case m2 => k_mem); (case hx => exact tz_ok _); (case hy => exact tz_ok _); (case hu => ktr_units)))) | ((with_reducible show wpAny _ _ (compareOp CmpOp.NotEq (Value.ref _) (Value.ref _)) _ _ _); first | (k_here; k_dflt (refine' ne_ints_nil ?N ?m1 ?m2 ?hi ?hu ?_; (case N => k_asm); (case m1 => k_mem); (case m2 => k_mem); (case hi => exact IntsAre.nil); (case hu => ktr_units)); (try simp only [ne_eq, reduceCtorEq, not_false_eq_true, decide_true])) | (k_here; k_dflt (refine' ne_strs_nil ?N ?m1 ?m2 ?hi ?hx ?hu ?_; (case N => k_asm); (case m1 => k_mem); (case m2 => k_mem); (case hi => exact StrsAre.nil); (case hx => exact List.forall_mem_nil _); (case hu => ktr_units)); (try simp only [ne_eq, not_true_eq_false, decide_false]))) | ((with_reducible show wpAny _ _ (call (Value.builtin _) _) _ _ _); (k_here; (with_reducible show wpAny _ _ (call (Value.builtin _) [Value.ref _, Value.str _ _]) _ _ _); k_dflt (refine' index_haab ?l ?x ?h0 ?h1 ?_; (case l => exact News.isList (by k_asm) (by k_mem)); (case x => assumption); (case h0 => assumption); (case h1 => assumption)))) | ((with_reducible show wpAny _ _ (getMethod (Value.ref _) _ _) _ _ _); (k_here; (with_reducible show wpAny _ _ (getMethod (Value.ref _) (PySem.Str.ofString "index") _) _ _ _); k_dflt (refine' meth_news PySem.F.slot_list_index PySem.F.type_list_index ?N ?m ?_; (case N => k_asm); (case m => k_mem)))) | ((with_reducible show wpAny _ _ (binaryOp Operator.Add (Value.ref _) (Value.ref _)) _ _ _); (k_here; k_dflt (refine' add_lists_K ?F ?N ?m1 ?m2 ?sz ?_; (case F => k_asm); (case N => k_asm); (case m1 => k_mem); (case m2 => k_mem); (case sz => first | assumption | decide)); (intro D9 h9 F9 N9 l9); (try simp only [List.cons_append, List.nil_append] at N9); (try dsimp only); (try k_fold); (try k_sweep))) | ((with_reducible show wpAny _ _ (newTuple _) _ _ _); (k_here; k_dflt (refine' newtuple_K ?F ?N ?sz ?_; (case F => k_asm); (case N => k_asm); (case sz => decide)); (intro D9 h9 F9 N9 l9); (try simp only [List.cons_append, List.nil_append] at N9); (try dsimp only); (try k_fold); (try k_sweep))) | ((with_reducible show wpAny _ _ (newList _) _ _ _); (k_here; k_dflt (refine' newlist_K ?F ?N ?sz ?_; (case F => k_asm); (case N => k_asm); (case sz => decide)); (intro D9 h9 F9 N9 l9); (try simp only [List.cons_append, List.nil_append] at N9); (try dsimp only); (try k_fold); (try k_sweep))) | ((with_reducible show wpAny _ _ (exec (Stmt.Assign (_ :: _) (Expr.ListComp _ _ _ _) _) _) _ _ _); (k_here; k_dflt (refine Assign_fit (by k_asm) (by rfl) (by with_unfolding_all rfl) (by with_unfolding_all rfl) (by decide) (by rfl) (by decide) (by rfl) (by decide) (by rfl) (by rfl) ?_))) | ((with_reducible show wpAny _ _ (binaryOp Operator.Mod (Value.int _ _) (Value.int _ _)) _ _ _); (k_here; k_dflt (refine' mod_pos ?hb ?_; (case hb => decide)); intro t9; (try dsimp only))) | ((with_reducible show wpAny _ _ (subscriptTail _ _ _ _) _ _ _); first | (k_here; (with_reducible show wpAny _ _ (subscriptTail _ _ (Value.ref _) (Value.int _ _)) _ _ _); k_dflt (refine' item_tab ?N ?m ?i ?h0 ?hk ?fit ?_ ?hs ?hg; (case N => k_asm); (case m => k_mem); (case i => assumption); (case h0 => first | assumption | omega); (case fit => decide); (case hk => first | assumption | omega | (show _ < (20 : Int); omega) | (show _ < (19 : Int); omega)); (case hs => with_unfolding_all rfl); (case hg => intro _; with_unfolding_all rfl)); intro t9; (try dsimp only)) | (k_here; (with_reducible show wpAny _ _ (subscriptTail _ _ (Value.ref _) (Value.int 0 _)) _ _ _); k_dflt (refine' item_int ?N ?m ?_ ?hs ?hg; (case N => k_asm); (case m => k_mem); (case hs => with_unfolding_all rfl); (case hg => intro _; with_unfolding_all rfl)); intro t9; (try dsimp only)) | (k_here; (with_reducible show wpAny _ _ (subscriptTail _ _ (Value.ref _) (Value.int _ _)) _ _ _); (with_unfolding_all refine' item_anyK ?k1 ?k2 ?k3 ?k4 ?k5 ?_ ?k6; (case k1 => exact News.isList (by k_asm) (by k_mem)); (case k2 => assumption); (case k3 => decide); (case k4 => first | assumption | omega); (case k5 => decide); (case k6 => with_unfolding_all rfl); k_whole); intro t9; (try dsimp only))) | ((with_reducible show wpAny _ _ (eval (Expr.Name _ _) _) _ _ _); first | (k_here; refine' nameX_C ?N ?c ?m ?d ?_ ?k ?x ?b; (case k => exact rfl); (case x => exact rfl); (case b => decide); (case c => exact rfl); (case N => k_asm); (case m => k_mem); (case d => assumption)) | (k_here; refine' nameX_L ?F ?v ?_ ?k ?x ?d; (case k => exact rfl); (case x => exact rfl); (case d => decide); (case F => k_asm); (case v => (first | assumption | exact if_pos rfl | (refine (if_neg (by decide)).trans ?_; first | assumption | exact if_pos rfl | (refine (if_neg (by decide)).trans ?_; first | assumption | exact if_pos rfl | (refine (if_neg (by decide)).trans ?_; first | assumption | exact if_pos rfl | (refine (if_neg (by decide)).trans ?_; first | assumption | exact if_pos rfl)))))))) | ((with_reducible show wpAny _ _ (eval (Expr.Call (Expr.Name _ _) _ _ _) _) _ _ _); (k_here; refine Call_ ?_)) | walk1 | dsimp only | (leave1; try dsimp only))
      all_goals (first | assumption | exact (by ktr_rel))
    case fin =>
      intro D ys ns' h tk hys hns F' N'
      rw [pass_nil hyu] at hns
      subst hns
      cases hys with
      | nil =>
        (try dsimp only at F' N')
        w_top off
        repeat' (first | (k_unfold; (try dsimp only)) | (k_end; wrow_close) | ((with_reducible show wpAny _ _ (call (Value.ref _) _) _ _ _); first | (k_here; (with_reducible show wpAny _ _ (call (Value.ref 135) [Value.int 2 _, _, _, Value.int _ _]) _ _ _); k_dflt (refine' CutA.use (a2_none _ _ _ _ _ _ _ _ _ _ _ _ _ _ _ _ _ _ _) ?k1 ?k2 ?k3 ?k4 ?k6 ?k9 ?k7 ?k8 ?k5 ?kK ?kp ?kd ?ku ?kI ?kT ?_; (case k1 => k_asm); (case k2 => k_asm); (case k3 => k_asm); (case k4 => k_asm); (case k5 => k_asm); (case k7 => assumption); (case k6 => tb_rel); (case k9 => tb_start); (case k8 => assumption); (case kK => exact rfl); (case kp => (refine' ⟨?p0, ?p1, ?p2, ?p3, ?p4, ?p5, ?p6, ?p7, ?p8, ?p9, ?p10, ?p11⟩; (case p9 => assumption); (case p10 => assumption); (case p11 => assumption); (case p0 => first | assumption | omega); (case p1 => first | assumption | omega); (case p2 => first | assumption | omega); (case p3 => first | assumption | omega); (case p4 => first | assumption | omega); (case p5 => first | assumption | omega); (case p6 => first | assumption | omega); (case p7 => first | assumption | omega); (case p8 => first | assumption | omega))); (case kd => ktr_room); (case ku => ktr_units); (case kI => assumption); (case kT => assumption)); (intro v9 tl9 cc9 h9 g9 d9 tk9 r9 l9 hc9 F9 N9 G9); (obtain ⟨e9, t9, e8⟩ := r9); subst e9; subst e8; (simp only [List.cons_append, List.nil_append] at N9); clear l9; (try dsimp only); (try k_fold); (try k_sweep)) | (k_here; (first | (with_reducible show wpAny _ _ (call (Value.ref 128) []) _ _ _) | ((with_reducible show wpAny _ _ (call (Value.ref 128) ([] ++ [])) _ _ _); show wpAny _ _ (call (Value.ref 128) []) _ _ _)); k_dflt (refine' CutN.use (n_moons _ _ _ _) ?B ?F ?X ?N ?T ?k ?d ?u ?_; (case B => k_asm); (case F => k_asm); (case X => k_asm); (case N => k_asm); (case T => k_asm); (case k => exact rfl); (case d => ktr_room); (case u => ktr_units)); (intro D9 vs9 c9 h9 tk9 st9 l9 F9 N9); (try dsimp only); (try k_fold); (try k_sweep)) | (k_here; (first | (with_reducible show wpAny _ _ (call (Value.ref 121) []) _ _ _) | ((with_reducible show wpAny _ _ (call (Value.ref 121) ([] ++ [])) _ _ _); show wpAny _ _ (call (Value.ref 121) []) _ _ _)); k_dflt (refine' CutN.use (n_names _ _ _ _) ?B ?F ?X ?N ?T ?k ?d ?u ?_; (case B => k_asm); (case F => k_asm); (case X => k_asm); (case N => k_asm); (case T => k_asm); (case k => exact rfl); (case d => ktr_room); (case u => ktr_units)); (intro D9 vs9 c9 h9 tk9 st9 l9 F9 N9); (try dsimp only); (try k_fold); (try k_sweep))) | ((with_reducible show wpAny _ _ (execs (_ :: _) _) _ _ _); (k_here; (with_reducible show wpAny _ _ (execs [_, _] _) _ _ _); k_dflt (refine' seg30 _ _ _ _ _ _ _ _ _ _ _ _ _ _ _ _ _ _ _ _ _ _ _ _ _ _ _ _ _ _ ?hd ?hu ?hB ?hF ?hK ?hN ?hO ?hC ?hG ?hT ?hQ ?x0 ?x1 ?x2 ?x3 ?x4 ?x5 ?x6 ?x7; (case hF => k_asm); (case hN =>  ktr_rel); (case hC => assumption); (case hO => assumption); (case hB => assumption); (case hK => assumption); (case hG => assumption); (case hT => assumption); (case hQ => assumption); (case hd => assumption); (case hu => assumption); (case x0 => assumption); (case x1 => assumption); (case x2 => (first | assumption | exact if_pos rfl | (refine (if_neg (by decide)).trans ?_; first | assumption | exact if_pos rfl | (refine (if_neg (by decide)).trans ?_; first | assumption | exact if_pos rfl | (refine (if_neg (by decide)).trans ?_; first | assumption | exact if_pos rfl | (refine (if_neg (by decide)).trans ?_; first | assumption | exact if_pos rfl)))))); (case x3 => (first | assumption | exact if_pos rfl | (refine (if_neg (by decide)).trans ?_; first | assumption | exact if_pos rfl | (refine (if_neg (by decide)).trans ?_; first | assumption | exact if_pos rfl | (refine (if_neg (by decide)).trans ?_; first | assumption | exact if_pos rfl | (refine (if_neg (by decide)).trans ?_; first | assumption | exact if_pos rfl)))))); (case x4 => assumption); (case x5 => assumption); (case x6 => assumption); (case x7 => assumption)))) | ((with_reducible show wpAny _ _ (compareOp CmpOp.NotEq (Value.int _ _) (Value.int _ _)) _ _ _); (k_here; k_dflt (refine' ne_int_same ?e ?_; (case e => assumption)))) | ((with_reducible show wpAny _ _ (compareOp CmpOp.Eq (Value.ref _) (Value.ref _)) _ _ _); (k_here; k_dflt (refine' eq_pair ?N ?m1 ?m2 ?hx ?hy ?hu ?_; (case N => k_asm); (case m1 => k_mem); (case m2 => k_mem); (case hx => exact tz_ok _); (case hy => exact tz_ok _); (case hu => ktr_units)))) | ((with_reducible show wpAny _ _ (compareOp CmpOp.NotEq (Value.ref _) (Value.ref _)) _ _ _); first | (k_here; k_dflt (refine' ne_ints_nil ?N ?m1 ?m2 ?hi ?hu ?_; (case N => k_asm); (case m1 => k_mem); (case m2 => k_mem); (case hi => exact IntsAre.nil); (case hu => ktr_units)); (try simp only [ne_eq, reduceCtorEq, not_false_eq_true, decide_true])) | (k_here; k_dflt (refine' ne_strs_nil ?N ?m1 ?m2 ?hi ?hx ?hu ?_; (case N => k_asm); (case m1 => k_mem); (case m2 => k_mem); (case hi => exact StrsAre.nil); (case hx => exact List.forall_mem_nil _); (case hu => ktr_units)); (try simp only [ne_eq, not_true_eq_false, decide_false]))) | ((with_reducible show wpAny _ _ (call (Value.builtin _) _) _ _ _); (k_here; (with_reducible show wpAny _ _ (call (Value.builtin _) [Value.ref _, Value.str _ _]) _ _ _); k_dflt (refine' index_haab ?l ?x ?h0 ?h1 ?_; (case l => exact News.isList (by k_asm) (by k_mem)); (case x => assumption); (case h0 => assumption); (case h1 => assumption)))) | ((with_reducible show wpAny _ _ (getMethod (Value.ref _) _ _) _ _ _); (k_here; (with_reducible show wpAny _ _ (getMethod (Value.ref _) (PySem.Str.ofString "index") _) _ _ _); k_dflt (refine' meth_news PySem.F.slot_list_index PySem.F.type_list_index ?N ?m ?_; (case N => k_asm); (case m => k_mem)))) | ((with_reducible show wpAny _ _ (binaryOp Operator.Add (Value.ref _) (Value.ref _)) _ _ _); (k_here; k_dflt (refine' add_lists_K ?F ?N ?m1 ?m2 ?sz ?_; (case F => k_asm); (case N => k_asm); (case m1 => k_mem); (case m2 => k_mem); (case sz => first | assumption | decide)); (intro D9 h9 F9 N9 l9); (try simp only [List.cons_append, List.nil_append] at N9); (try dsimp only); (try k_fold); (try k_sweep))) | ((with_reducible show wpAny _ _ (newTuple _) _ _ _); (k_here; k_dflt (refine' newtuple_K ?F ?N ?sz ?_; (case F => k_asm); (case N => k_asm); (case sz => decide)); (intro D9 h9 F9 N9 l9); (try simp only [List.cons_append, List.nil_append] at N9); (try dsimp only); (try k_fold); (try k_sweep))) | ((with_reducible show wpAny _ _ (newList _) _ _ _); (k_here; k_dflt (refine' newlist_K ?F ?N ?sz ?_; (case F => k_asm); (case N => k_asm); (case sz => decide)); (intro D9 h9 F9 N9 l9); (try simp only [List.cons_append, List.nil_append] at N9); (try dsimp only); (try k_fold); (try k_sweep))) | ((with_reducible show wpAny _ _ (exec (Stmt.Assign (_ :: _) (Expr.ListComp _ _ _ _) _) _) _ _ _); (k_here; k_dflt (refine Assign_fit (by k_asm) (by rfl) (by with_unfolding_all rfl) (by with_unfolding_all rfl) (by decide) (by rfl) (by decide) (by rfl) (by decide) (by rfl) (by rfl) ?_))) | ((with_reducible show wpAny _ _ (binaryOp Operator.Mod (Value.int _ _) (Value.int _ _)) _ _ _); (k_here; k_dflt (refine' mod_pos ?hb ?_; (case hb => decide)); intro t9; (try dsimp only))) | ((with_reducible show wpAny _ _ (subscriptTail _ _ _ _) _ _ _); first | (k_here; (with_reducible show wpAny _ _ (subscriptTail _ _ (Value.ref _) (Value.int _ _)) _ _ _); k_dflt (refine' item_tab ?N ?m ?i ?h0 ?hk ?fit ?_ ?hs ?hg; (case N => k_asm); (case m => k_mem); (case i => assumption); (case h0 => first | assumption | omega); (case fit => decide); (case hk => first | assumption | omega | (show _ < (20 : Int); omega) | (show _ < (19 : Int); omega)); (case hs => with_unfolding_all rfl); (case hg => intro _; with_unfolding_all rfl)); intro t9; (try dsimp only)) | (k_here; (with_reducible show wpAny _ _ (subscriptTail _ _ (Value.ref _) (Value.int 0 _)) _ _ _); k_dflt (refine' item_int ?N ?m ?_ ?hs ?hg; (case N => k_asm); (case m => k_mem); (case hs => with_unfolding_all rfl); (case hg => intro _; with_unfolding_all rfl)); intro t9; (try dsimp only)) | (k_here; (with_reducible show wpAny _ _ (subscriptTail _ _ (Value.ref _) (Value.int _ _)) _ _ _); (with_unfolding_all refine' item_anyK ?k1 ?k2 ?k3 ?k4 ?k5 ?_ ?k6; (case k1 => exact News.isList (by k_asm) (by k_mem)); (case k2 => assumption); (case k3 => decide); (case k4 => first | assumption | omega); (case k5 => decide); (case k6 => with_unfolding_all rfl); k_whole); intro t9; (try dsimp only))) | ((with_reducible show wpAny _ _ (eval (Expr.Name _ _) _) _ _ _); first | (k_here; refine' nameX_C ?N ?c ?m ?d ?_ ?k ?x ?b; (case k => exact rfl); (case x => exact rfl); (case b => decide); (case c => exact rfl); (case N => k_asm); (case m => k_mem); (case d => assumption)) | (k_here; refine' nameX_L ?F ?v ?_ ?k ?x ?d; (case k => exact rfl); (case x => exact rfl); (case d => decide); (case F => k_asm); (case v => (first | assumption | exact if_pos rfl | (refine (if_neg (by decide)).trans ?_; first | assumption | exact if_pos rfl | (refine (if_neg (by decide)).trans ?_; first | assumption | exact if_pos rfl | (refine (if_neg (by decide)).trans ?_; first | assumption | exact if_pos rfl | (refine (if_neg (by decide)).trans ?_; first | assumption | exact if_pos rfl)))))))) | ((with_reducible show wpAny _ _ (eval (Expr.Call (Expr.Name _ _) _ _ _) _) _ _ _); (k_here; refine Call_ ?_)) | walk1 | dsimp only | (leave1; try dsimp only))

end Mine
end
section
namespace Mine
/-- what a wanted pair lacks -/
def wnL (d : Int) (x : Str) : List Str := (if 1 ≤ d ∧ d ≤ 13 then ([] : List Str) else [("IndexError" : Str)]) ++ (if x = "Nobody" then [("ValueError" : Str)] else [])
def whL (e : Int) (x : Str) : List Str := (if 0 ≤ e ∧ e ≤ 19 then ([] : List Str) else [("IndexError" : Str)]) ++ (if x = "Nobody" then [("ValueError" : Str)] else [])
theorem tz_no : ∀ i : _root_.Fin 20, tzL.getD i.val Str.empty ≠ "Nobody" := by decide
theorem hb_no : ∀ i : _root_.Fin 19, haabL.getD i.val Str.empty ≠ "Nobody" := by decide
theorem tzS_no {i : Int} (h0 : 0 ≤ i) (h1 : i < 20) : tzS i ≠ "Nobody" := tz_no ⟨i.toNat, by omega⟩
theorem haabS_no {j : Int} (h0 : 0 ≤ j) (h1 : j < 19) : haabS j ≠ "Nobody" := hb_no ⟨j.toNat, by omega⟩
theorem wn_ok (d : Int) (x : Str) : ∀ y ∈ wnL d x, PyData.strOk y = true := by
  unfold wnL
  intro y hy
  have a : PyData.strOk "IndexError" = true := by decide +kernel
  have b : PyData.strOk "ValueError" = true := by decide +kernel
  split at hy <;> split at hy <;> simp at hy <;> (try rcases hy with rfl | rfl) <;> (try subst hy) <;> assumption
theorem wh_ok (d : Int) (x : Str) : ∀ y ∈ whL d x, PyData.strOk y = true := by
  unfold whL
  intro y hy
  have a : PyData.strOk "IndexError" = true := by decide +kernel
  have b : PyData.strOk "ValueError" = true := by decide +kernel
  split at hy <;> split at hy <;> simp at hy <;> (try rcases hy with rfl | rfl) <;> (try subst hy) <;> assumption
theorem wn_ie {d : Int} {x : Str} (h : d < 1 ∨ 13 < d) : ("IndexError" : Str) ∈ wnL d x := by
  unfold wnL; rw [if_neg (by omega)]; exact List.mem_append_left _ (.head _)
theorem wn_ve {d : Int} {x : Str} (h : x = "Nobody") : ("ValueError" : Str) ∈ wnL d x := by
  unfold wnL; rw [if_pos h]; exact List.mem_append_right _ (.head _)
theorem wn_no {d : Int} {x : Str} (h : 1 ≤ d ∧ d ≤ 13) (hx : x ≠ "Nobody") : wnL d x = [] := by
  unfold wnL; rw [if_pos h, if_neg hx]; rfl
theorem wh_ie {d : Int} {x : Str} (h : d < 0 ∨ 19 < d) : ("IndexError" : Str) ∈ whL d x := by
  unfold whL; rw [if_neg (by omega)]; exact List.mem_append_left _ (.head _)
theorem wh_ve {d : Int} {x : Str} (h : x = "Nobody") : ("ValueError" : Str) ∈ whL d x := by
  unfold whL; rw [if_pos h]; exact List.mem_append_right _ (.head _)
theorem wh_no {d : Int} {x : Str} (h : 0 ≤ d ∧ d ≤ 19) (hx : x ≠ "Nobody") : whL d x = [] := by
  unfold whL; rw [if_pos h, if_neg hx]; rfl
theorem wn_len (d : Int) (x : Str) : (wnL d x).length ≤ 2 := by
  unfold wnL; split <;> split <;> simp
theorem wh_len (d : Int) (x : Str) : (whL d x).length ≤ 2 := by
  unfold whL; split <;> split <;> simp
set_option maxRecDepth 100000 in
set_option maxHeartbeats 8000000 in
theorem seg28 (w : World) (mean : ExcName → Option Value) (mg mb : Str → Option Value) (h₀ : Heap) (L c1 c2 : Addr) (ccd : Value) (m : Str → Option Value) (pre cc : List (Addr × Obj)) (s : Shared) (Q : Flow → Shared → Prop) (E : Value → Shared → Prop) (dp un : Nat) (gd : Option (List Code)) (o1 o2 : Obj) (D1 D2 D3 D4 Dn : Addr) (nd dd p : Int) (nn mm : Str) (u1 u2 u3 u4 u5 u6 u7 u8 tp tn tm td tl : Tok) (k1 k2 k3 k4 kn : Nat) (vs : List Value) (ns : List Int) (Da Db : Addr) (ka kb : Nat) (va vb : List Value)
    (hd1 : dp + 20 < recursionLimit) (hu1 : un + 200 < cLine) (hB : Below callerA h₀ [] h₀) (hF : Fr h₀ L s.heap m) (hK : (theK.heap_1 w.params).In h₀) (hN : News h₀ L s.heap (pre ++ cc)) (hO : PreOk pre) (hC : CC cc) (hG : AllBare s.gens) (hT : Top p0 lo0 mean mg mb h₀) (hQ : Done h₀ L s.os Q)
    (hc1 : (c1, o1) ∈ pre) (ho1 : o1.data = .cell (some (.int p tp))) (hc2 : (c2, o2) ∈ pre) (ho2 : o2.data = .cell (some (.ref D1))) (m1 : m "numbers" = some (.ref Dn)) (m2 : m "number" = some (.int (584283 + p) tn)) (m3 : m "haab" = some (.ref D2)) (m4 : m "month" = some (.str mm tm)) (m5 : m "day" = some (.int dd td)) (m6 : m "place" = some (.int ((348 + p) % 365) tl)) (m7 : m "here" = some (.ref D3)) (m8 : m "there" = some (.ref D4)) (n1 : (D1, tupO [.int nd u1, .str nn u2] k1) ∈ pre) (n2 : (D2, tupO [.int dd u3, .str mm u4] k2) ∈ pre) (n3 : (D3, tupO [.int (tDay p) u5, .str (tzS (tNam p)) u6] k3) ∈ pre) (n4 : (D4, tupO [.int (hDay p) u7, .str (haabS (hMon p)) u8] k4) ∈ pre) (nn0 : (Dn, W.listOf vs.toArray kn) ∈ pre) (hI : IntsAre vs ns) (hlen : (0 : Int) < ns.length) (hp : 0 ≤ p) (hnn : nn = "Nobody" ∨ ∃ i, 0 ≤ i ∧ i < 20 ∧ nn = tzS i) (hmm : mm = "Nobody" ∨ ∃ j, 0 ≤ j ∧ j < 19 ∧ mm = haabS j) (m9 : m "wrong_names" = some (.ref Da)) (na : (Da, W.listOf va.toArray ka) ∈ pre) (sa : StrsAre va (wnL nd nn)) (m10 : m "wrong_haab" = some (.ref Db)) (nb : (Db, W.listOf vb.toArray kb) ∈ pre) (sb : StrsAre vb (whL dd mm)) : Seg w 28 dp un gd L ccd [("names", c2), ("past", c1)] Q E s := by
  have hsz : va.length + vb.length ≤ sizeLine := by
    have a := wn_len nd nn
    have b := wh_len dd mm
    rw [← sa.len_eq] at a
    rw [← sb.len_eq] at b
    exact Nat.le_trans (Nat.add_le_add a b) (by decide)
  have hok : ∀ x ∈ wnL nd nn ++ whL dd mm, PyData.strOk x = true := fun x hx => by
    rcases List.mem_append.mp hx with hx | hx
    · exact wn_ok _ _ x hx
    · exact wh_ok _ _ x hx
  by_cases g1 : 0 ≤ dd ∧ dd ≤ 19
  · rcases hmm with rfl | ⟨j, hj0, hj1, rfl⟩
    · exact seg28_bad w mean mg mb h₀ L c1 c2 ccd m pre cc s Q E dp un gd o2 D1 D2 Dn dd _ _ _ _ _ _ _ (584283 + p) _ "ValueError" Da Db va vb _ _ _ _ _ hd1 hu1 hB hF hK hN hO hC hG hT hQ hc2 ho2 m1 m3 nn0 hI hlen n2 m2 m9 m10 na nb sa sb hsz hok (List.mem_append_right _ (wh_ve rfl)) (fun t => a2_hnob w mean mg mb dd (.ref D1) D2 _ _ _ _ t _) ⟨by omega, g1.1, g1.2, n2⟩
    · by_cases g2 : 1 ≤ nd ∧ nd ≤ 13
      · rcases hnn with rfl | ⟨i, hi0, hi1, rfl⟩
        · exact seg28_bad w mean mg mb h₀ L c1 c2 ccd m pre cc s Q E dp un gd o2 D1 D2 Dn dd _ _ _ _ _ _ _ (584283 + p) _ "ValueError" Da Db va vb _ _ _ _ _ hd1 hu1 hB hF hK hN hO hC hG hT hQ hc2 ho2 m1 m3 nn0 hI hlen n2 m2 m9 m10 na nb sa sb hsz hok (List.mem_append_left _ (wn_ve rfl)) (fun t => a2_tnob w mean mg mb dd j nd D1 _ _ _ D2 _ _ _ _ t _) ⟨by omega, g1.1, g1.2, hj0, hj1, n2, g2.1, g2.2, n1⟩
        · rw [wn_no g2 (tzS_no hi0 hi1)] at sa
          rw [wh_no g1 (haabS_no hj0 hj1)] at sb
          cases sa
          cases sb
          by_cases h5 : (tdF (584283 + p - 584283) nd i - hdF (584283 + p - 584283) dd j) % 5 = 0
          · exact seg28_meet w mean mg mb h₀ L c1 c2 ccd m pre cc s Q E dp un gd o1 o2 D1 D2 D3 D4 Dn nd dd p (tzS i) (haabS j) u1 u2 u3 u4 u5 u6 u7 u8 tp tn tm td tl k1 k2 k3 k4 kn vs ns i j Da Db ka kb hd1 hu1 hB hF hK hN hO hC hG hT hQ hc1 ho1 hc2 ho2 m1 m2 m3 m4 m5 m6 m7 m8 n1 n2 n3 n4 nn0 hI hlen hp g2.1 g2.2 hi0 hi1 rfl g1.1 g1.2 hj0 hj1 rfl m9 na m10 nb h5
          · exact seg28_none w mean mg mb h₀ L c1 c2 ccd m pre cc s Q E dp un gd o1 o2 D1 D2 D3 D4 Dn nd dd p (tzS i) (haabS j) u1 u2 u3 u4 u5 u6 u7 u8 tp tn tm td tl k1 k2 k3 k4 kn vs ns i j Da Db ka kb hd1 hu1 hB hF hK hN hO hC hG hT hQ hc1 ho1 hc2 ho2 m1 m2 m3 m4 m5 m6 m7 m8 n1 n2 n3 n4 nn0 hI hlen hp g2.1 g2.2 hi0 hi1 rfl g1.1 g1.2 hj0 hj1 rfl m9 na m10 nb h5
      · exact seg28_bad w mean mg mb h₀ L c1 c2 ccd m pre cc s Q E dp un gd o2 D1 D2 Dn dd _ _ _ _ _ _ _ (584283 + p) _ "IndexError" Da Db va vb _ _ _ _ _ hd1 hu1 hB hF hK hN hO hC hG hT hQ hc2 ho2 m1 m3 nn0 hI hlen n2 m2 m9 m10 na nb sa sb hsz hok (List.mem_append_left _ (wn_ie (by omega))) (fun t => a2_tday w mean mg mb dd j nd nn D1 _ _ _ D2 _ _ _ _ t _) ⟨by omega, g1.1, g1.2, hj0, hj1, n2, by omega, n1⟩
  · exact seg28_bad w mean mg mb h₀ L c1 c2 ccd m pre cc s Q E dp un gd o2 D1 D2 Dn dd _ _ _ _ _ _ _ (584283 + p) _ "IndexError" Da Db va vb _ _ _ _ _ hd1 hu1 hB hF hK hN hO hC hG hT hQ hc2 ho2 m1 m3 nn0 hI hlen n2 m2 m9 m10 na nb sa sb hsz hok (List.mem_append_right _ (wh_ie (by omega))) (fun t => a2_hday w mean mg mb dd mm (.ref D1) D2 _ _ _ _ t _) ⟨by omega, by omega, n2⟩
end Mine
end
section
namespace Mine
set_option maxRecDepth 100000 in
set_option maxHeartbeats 8000000 in
theorem seg27_nob (w : World) (mean : ExcName → Option Value) (mg mb : Str → Option Value) (h₀ : Heap) (L c1 c2 : Addr) (ccd : Value) (m : Str → Option Value) (pre cc : List (Addr × Obj)) (s : Shared) (Q : Flow → Shared → Prop) (E : Value → Shared → Prop) (dp un : Nat) (gd : Option (List Code)) (o1 o2 : Obj) (D1 D2 D3 D4 Dn : Addr) (nd dd p : Int) (nn mm : Str) (u1 u2 u3 u4 u5 u6 u7 u8 tp tn tm td tl : Tok) (k1 k2 k3 k4 kn : Nat) (vs : List Value) (ns : List Int) (Da Db : Addr) (ka kb : Nat) (va vb : List Value)
    (hd1 : dp + 20 < recursionLimit) (hu1 : un + 200 < cLine) (hB : Below callerA h₀ [] h₀) (hF : Fr h₀ L s.heap m) (hK : (theK.heap_1 w.params).In h₀) (hN : News h₀ L s.heap (pre ++ cc)) (hO : PreOk pre) (hC : CC cc) (hG : AllBare s.gens) (hT : Top p0 lo0 mean mg mb h₀) (hQ : Done h₀ L s.os Q)
    (hc1 : (c1, o1) ∈ pre) (ho1 : o1.data = .cell (some (.int p tp))) (hc2 : (c2, o2) ∈ pre) (ho2 : o2.data = .cell (some (.ref D1))) (m1 : m "numbers" = some (.ref Dn)) (m2 : m "number" = some (.int (584283 + p) tn)) (m3 : m "haab" = some (.ref D2)) (m4 : m "month" = some (.str mm tm)) (m5 : m "day" = some (.int dd td)) (m6 : m "place" = some (.int ((348 + p) % 365) tl)) (m7 : m "here" = some (.ref D3)) (m8 : m "there" = some (.ref D4)) (n1 : (D1, tupO [.int nd u1, .str nn u2] k1) ∈ pre) (n2 : (D2, tupO [.int dd u3, .str mm u4] k2) ∈ pre) (n3 : (D3, tupO [.int (tDay p) u5, .str (tzS (tNam p)) u6] k3) ∈ pre) (n4 : (D4, tupO [.int (hDay p) u7, .str (haabS (hMon p)) u8] k4) ∈ pre) (nn0 : (Dn, W.listOf vs.toArray kn) ∈ pre) (hI : IntsAre vs ns) (hlen : (0 : Int) < ns.length) (hp : 0 ≤ p) (hnn : nn = "Nobody" ∨ ∃ i, 0 ≤ i ∧ i < 20 ∧ nn = tzS i) (m9 : m "wrong_names" = some (.ref Da)) (na : (Da, W.listOf va.toArray ka) ∈ pre) (sa : StrsAre va (wnL nd nn)) (m10 : m "wrong_haab" = some (.ref Db)) (nb : (Db, W.listOf vb.toArray kb) ∈ pre) (sb : StrsAre vb (whL dd mm)) (hm : mm = "Nobody") : Seg w 27 dp un gd L ccd [("names", c2), ("past", c1)] Q E s := by
  unfold Seg
  revert hK
  k_fill
  intro hK
  conv in (occs := *) (scopeAt w) => all_goals whnf
  refine wpAny_execs_cons ?_
  subst hm
  w_top off
  repeat' (first | (k_unfold; (try dsimp only)) | (k_end; wrow_close) | ((with_reducible show wpAny _ _ (call (Value.ref _) _) _ _ _); first | (k_here; (with_reducible show wpAny _ _ (call (Value.ref 135) [Value.int 1 _, _, _, Value.int _ _]) _ _ _); k_dflt (refine' CutA.use (a1_nob _ _ _ _ _ _ _ _ _ _ _ _ _) ?k1 ?k2 ?k3 ?k4 ?k6 ?k9 ?k7 ?k8 ?k5 ?kK ?kp ?kd ?ku ?kI ?kT ?_; (case k1 => k_asm); (case k2 => k_asm); (case k3 => k_asm); (case k4 => k_asm); (case k5 => k_asm); (case k7 => assumption); (case k6 => tb_rel); (case k9 => tb_start); (case k8 => assumption); (case kK => exact rfl); (case kp => (refine ⟨by omega, ?_⟩; assumption)); (case kd => ktr_room); (case ku => ktr_units); (case kI => assumption); (case kT => assumption)); (intro v9 tl9 cc9 h9 g9 d9 tk9 r9 l9 hc9 F9 N9 G9); (obtain ⟨e9, t9, e8⟩ := r9); subst e9; subst e8; (simp only [List.cons_append, List.nil_append] at N9); clear l9; (try dsimp only); (try k_fold); (try k_sweep)) | (k_here; (first | (with_reducible show wpAny _ _ (call (Value.ref 128) []) _ _ _) | ((with_reducible show wpAny _ _ (call (Value.ref 128) ([] ++ [])) _ _ _); show wpAny _ _ (call (Value.ref 128) []) _ _ _)); k_dflt (refine' CutN.use (n_moons _ _ _ _) ?B ?F ?X ?N ?T ?k ?d ?u ?_; (case B => k_asm); (case F => k_asm); (case X => k_asm); (case N => k_asm); (case T => k_asm); (case k => exact rfl); (case d => ktr_room); (case u => ktr_units)); (intro D9 vs9 c9 h9 tk9 st9 l9 F9 N9); (try dsimp only); (try k_fold); (try k_sweep)) | (k_here; (first | (with_reducible show wpAny _ _ (call (Value.ref 121) []) _ _ _) | ((with_reducible show wpAny _ _ (call (Value.ref 121) ([] ++ [])) _ _ _); show wpAny _ _ (call (Value.ref 121) []) _ _ _)); k_dflt (refine' CutN.use (n_names _ _ _ _) ?B ?F ?X ?N ?T ?k ?d ?u ?_; (case B => k_asm); (case F => k_asm); (case X => k_asm); (case N => k_asm); (case T => k_asm); (case k => exact rfl); (case d => ktr_room); (case u => ktr_units)); (intro D9 vs9 c9 h9 tk9 st9 l9 F9 N9); (try dsimp only); (try k_fold); (try k_sweep))) | ((with_reducible show wpAny _ _ (execs (_ :: _) _) _ _ _); (k_here; (with_reducible show wpAny _ _ (execs [_, _, _, _] _) _ _ _); k_dflt (refine' seg28 _ _ _ _ _ _ _ _ _ _ _ _ _ _ _ _ _ _ _ _ _ _ _ _ _ _ _ _ _ _ _ _ _ _ _ _ _ _ _ _ _ _ _ _ _ _ _ _ _ _ _ _ _ _ _ _ ?hd ?hu ?hB ?hF ?hK ?hN ?hO ?hC ?hG ?hT ?hQ ?x0 ?x1 ?x2 ?x3 ?x4 ?x5 ?x6 ?x7 ?x8 ?x9 ?x10 ?x11 ?x12 ?x13 ?x14 ?x15 ?x16 ?x17 ?x18 ?x19 ?x20 ?x21 ?x22 ?x23 ?x24 ?x25 ?x26 ?x27; (case hF => k_asm); (case hN =>  ktr_rel); (case hC => assumption); (case hO => assumption); (case hB => assumption); (case hK => assumption); (case hG => assumption); (case hT => assumption); (case hQ => assumption); (case hd => assumption); (case hu => assumption); (case x0 => assumption); (case x1 => assumption); (case x2 => assumption); (case x3 => assumption); (case x4 => (first | assumption | exact if_pos rfl | (refine (if_neg (by decide)).trans ?_; first | assumption | exact if_pos rfl | (refine (if_neg (by decide)).trans ?_; first | assumption | exact if_pos rfl | (refine (if_neg (by decide)).trans ?_; first | assumption | exact if_pos rfl | (refine (if_neg (by decide)).trans ?_; first | assumption | exact if_pos rfl)))))); (case x5 => (first | assumption | exact if_pos rfl | (refine (if_neg (by decide)).trans ?_; first | assumption | exact if_pos rfl | (refine (if_neg (by decide)).trans ?_; first | assumption | exact if_pos rfl | (refine (if_neg (by decide)).trans ?_; first | assumption | exact if_pos rfl | (refine (if_neg (by decide)).trans ?_; first | assumption | exact if_pos rfl)))))); (case x6 => (first | assumption | exact if_pos rfl | (refine (if_neg (by decide)).trans ?_; first | assumption | exact if_pos rfl | (refine (if_neg (by decide)).trans ?_; first | assumption | exact if_pos rfl | (refine (if_neg (by decide)).trans ?_; first | assumption | exact if_pos rfl | (refine (if_neg (by decide)).trans ?_; first | assumption | exact if_pos rfl)))))); (case x7 => (first | assumption | exact if_pos rfl | (refine (if_neg (by decide)).trans ?_; first | assumption | exact if_pos rfl | (refine (if_neg (by decide)).trans ?_; first | assumption | exact if_pos rfl | (refine (if_neg (by decide)).trans ?_; first | assumption | exact if_pos rfl | (refine (if_neg (by decide)).trans ?_; first | assumption | exact if_pos rfl)))))); (case x8 => (first | assumption | exact if_pos rfl | (refine (if_neg (by decide)).trans ?_; first | assumption | exact if_pos rfl | (refine (if_neg (by decide)).trans ?_; first | assumption | exact if_pos rfl | (refine (if_neg (by decide)).trans ?_; first | assumption | exact if_pos rfl | (refine (if_neg (by decide)).trans ?_; first | assumption | exact if_pos rfl)))))); (case x9 => (first | assumption | exact if_pos rfl | (refine (if_neg (by decide)).trans ?_; first | assumption | exact if_pos rfl | (refine (if_neg (by decide)).trans ?_; first | assumption | exact if_pos rfl | (refine (if_neg (by decide)).trans ?_; first | assumption | exact if_pos rfl | (refine (if_neg (by decide)).trans ?_; first | assumption | exact if_pos rfl)))))); (case x10 => (first | assumption | exact if_pos rfl | (refine (if_neg (by decide)).trans ?_; first | assumption | exact if_pos rfl | (refine (if_neg (by decide)).trans ?_; first | assumption | exact if_pos rfl | (refine (if_neg (by decide)).trans ?_; first | assumption | exact if_pos rfl | (refine (if_neg (by decide)).trans ?_; first | assumption | exact if_pos rfl)))))); (case x11 => (first | assumption | exact if_pos rfl | (refine (if_neg (by decide)).trans ?_; first | assumption | exact if_pos rfl | (refine (if_neg (by decide)).trans ?_; first | assumption | exact if_pos rfl | (refine (if_neg (by decide)).trans ?_; first | assumption | exact if_pos rfl | (refine (if_neg (by decide)).trans ?_; first | assumption | exact if_pos rfl)))))); (case x12 => assumption); (case x13 => assumption); (case x14 => assumption); (case x15 => assumption); (case x16 => assumption); (case x17 => assumption); (case x18 => assumption); (case x19 => assumption); (case x20 => first | assumption | exact Or.inl rfl | exact Or.inr ⟨_, by assumption, by assumption, rfl⟩); (case x21 => first | assumption | exact Or.inl rfl | exact Or.inr ⟨_, by assumption, by assumption, rfl⟩); (case x22 => (first | assumption | exact if_pos rfl | (refine (if_neg (by decide)).trans ?_; first | assumption | exact if_pos rfl | (refine (if_neg (by decide)).trans ?_; first | assumption | exact if_pos rfl | (refine (if_neg (by decide)).trans ?_; first | assumption | exact if_pos rfl | (refine (if_neg (by decide)).trans ?_; first | assumption | exact if_pos rfl)))))); (case x23 => assumption); (case x24 => assumption); (case x25 => (first | assumption | exact if_pos rfl | (refine (if_neg (by decide)).trans ?_; first | assumption | exact if_pos rfl | (refine (if_neg (by decide)).trans ?_; first | assumption | exact if_pos rfl | (refine (if_neg (by decide)).trans ?_; first | assumption | exact if_pos rfl | (refine (if_neg (by decide)).trans ?_; first | assumption | exact if_pos rfl)))))); (case x26 => assumption); (case x27 => assumption)))) | ((with_reducible show wpAny _ _ (call (Value.builtin _) _) _ _ _); (k_here; (with_reducible show wpAny _ _ (call (Value.builtin _) [Value.ref _, Value.str _ _]) _ _ _); k_dflt (refine' index_haab ?l ?x ?h0 ?h1 ?_; (case l => exact News.isList (by k_asm) (by k_mem)); (case x => assumption); (case h0 => assumption); (case h1 => assumption)))) | ((with_reducible show wpAny _ _ (getMethod (Value.ref _) _ _) _ _ _); (k_here; (with_reducible show wpAny _ _ (getMethod (Value.ref _) (PySem.Str.ofString "index") _) _ _ _); k_dflt (refine' meth_news PySem.F.slot_list_index PySem.F.type_list_index ?N ?m ?_; (case N => k_asm); (case m => k_mem)))) | ((with_reducible show wpAny _ _ (binaryOp Operator.Mod (Value.int _ _) (Value.int _ _)) _ _ _); (k_here; k_dflt (refine' mod_pos ?hb ?_; (case hb => decide)); intro t9; (try dsimp only))) | ((with_reducible show wpAny _ _ (subscriptTail _ _ _ _) _ _ _); (k_here; (with_reducible show wpAny _ _ (subscriptTail _ _ (Value.ref _) (Value.int _ _)) _ _ _); (with_unfolding_all refine' item_anyK ?k1 ?k2 ?k3 ?k4 ?k5 ?_ ?k6; (case k1 => exact News.isList (by k_asm) (by k_mem)); (case k2 => assumption); (case k3 => decide); (case k4 => first | assumption | omega); (case k5 => decide); (case k6 => with_unfolding_all rfl); k_whole); intro t9; (try dsimp only))) | ((with_reducible show wpAny _ _ (eval (Expr.Name _ _) _) _ _ _); first | (k_here; refine' nameX_C ?N ?c ?m ?d ?_ ?k ?x ?b; (case k => exact rfl); (case x => exact rfl); (case b => decide); (case c => exact rfl); (case N => k_asm); (case m => k_mem); (case d => assumption)) | (k_here; refine' nameX_L ?F ?v ?_ ?k ?x ?d; (case k => exact rfl); (case x => exact rfl); (case d => decide); (case F => k_asm); (case v => (first | assumption | exact if_pos rfl | (refine (if_neg (by decide)).trans ?_; first | assumption | exact if_pos rfl | (refine (if_neg (by decide)).trans ?_; first | assumption | exact if_pos rfl | (refine (if_neg (by decide)).trans ?_; first | assumption | exact if_pos rfl | (refine (if_neg (by decide)).trans ?_; first | assumption | exact if_pos rfl)))))))) | ((with_reducible show wpAny _ _ (eval (Expr.Call (Expr.Name _ _) _ _ _) _) _ _ _); (k_here; refine Call_ ?_)) | walk1 | dsimp only | (leave1; try dsimp only))

end Mine
end
section
namespace Mine
theorem eq_str_no {prog : Program} {w : World} {A : Around} {E : Value → Shared → Prop} {s : Shared} {x y : Str} {t u : Tok} {Q : Value → Shared → Prop} (e : x ≠ y) (h : Q (.bool false) s) : wpAny (model prog w) A (compareOp .Eq (.str x t) (.str y u)) Q E s :=
  eq_str (by rw [show (x == y) = false by simpa using e]; exact h)
theorem nh_val (p j : Int) (h : hMon p ≠ j ∨ hDay p < 2) : (if hMon p = j then 1 - hDay p else (20 * j + 1 - (20 * hMon p + hDay p)) % 365) = (20 * j + 1 - (348 + p) % 365) % 365 := by
  simp only [hMon, hDay, hPl] at h ⊢
  split <;> omega
set_option maxRecDepth 100000 in
set_option maxHeartbeats 8000000 in
theorem seg27_ok (w : World) (mean : ExcName → Option Value) (mg mb : Str → Option Value) (h₀ : Heap) (L c1 c2 : Addr) (ccd : Value) (m : Str → Option Value) (pre cc : List (Addr × Obj)) (s : Shared) (Q : Flow → Shared → Prop) (E : Value → Shared → Prop) (dp un : Nat) (gd : Option (List Code)) (o1 o2 : Obj) (D1 D2 D3 D4 Dn : Addr) (nd dd p : Int) (nn mm : Str) (u1 u2 u3 u4 u5 u6 u7 u8 tp tn tm td tl : Tok) (k1 k2 k3 k4 kn : Nat) (vs : List Value) (ns : List Int) (Da Db : Addr) (ka kb : Nat) (va vb : List Value) (j : Int)
    (hd1 : dp + 20 < recursionLimit) (hu1 : un + 200 < cLine) (hB : Below callerA h₀ [] h₀) (hF : Fr h₀ L s.heap m) (hK : (theK.heap_1 w.params).In h₀) (hN : News h₀ L s.heap (pre ++ cc)) (hO : PreOk pre) (hC : CC cc) (hG : AllBare s.gens) (hT : Top p0 lo0 mean mg mb h₀) (hQ : Done h₀ L s.os Q)
    (hc1 : (c1, o1) ∈ pre) (ho1 : o1.data = .cell (some (.int p tp))) (hc2 : (c2, o2) ∈ pre) (ho2 : o2.data = .cell (some (.ref D1))) (m1 : m "numbers" = some (.ref Dn)) (m2 : m "number" = some (.int (584283 + p) tn)) (m3 : m "haab" = some (.ref D2)) (m4 : m "month" = some (.str mm tm)) (m5 : m "day" = some (.int dd td)) (m6 : m "place" = some (.int ((348 + p) % 365) tl)) (m7 : m "here" = some (.ref D3)) (m8 : m "there" = some (.ref D4)) (n1 : (D1, tupO [.int nd u1, .str nn u2] k1) ∈ pre) (n2 : (D2, tupO [.int dd u3, .str mm u4] k2) ∈ pre) (n3 : (D3, tupO [.int (tDay p) u5, .str (tzS (tNam p)) u6] k3) ∈ pre) (n4 : (D4, tupO [.int (hDay p) u7, .str (haabS (hMon p)) u8] k4) ∈ pre) (nn0 : (Dn, W.listOf vs.toArray kn) ∈ pre) (hI : IntsAre vs ns) (hlen : (0 : Int) < ns.length) (hp : 0 ≤ p) (hnn : nn = "Nobody" ∨ ∃ i, 0 ≤ i ∧ i < 20 ∧ nn = tzS i) (m9 : m "wrong_names" = some (.ref Da)) (na : (Da, W.listOf va.toArray ka) ∈ pre) (sa : StrsAre va (wnL nd nn)) (m10 : m "wrong_haab" = some (.ref Db)) (nb : (Db, W.listOf vb.toArray kb) ∈ pre) (sb : StrsAre vb (whL dd mm)) (hj0 : 0 ≤ j) (hj1 : j < 19) (hm : mm = haabS j) : Seg w 27 dp un gd L ccd [("names", c2), ("past", c1)] Q E s := by
  unfold Seg
  revert hK
  k_fill
  intro hK
  conv in (occs := *) (scopeAt w) => all_goals whnf
  refine wpAny_execs_cons ?_
  subst hm
  have hmn : haabS j ≠ "Nobody" := haabS_no hj0 hj1
  w_top off
  repeat' (first | (k_unfold; (try dsimp only)) | (k_end; wrow_close) | ((with_reducible show wpAny _ _ (compareOp CmpOp.Eq (Value.str _ _) (Value.str _ _)) _ _ _); (k_here; k_dflt (refine' eq_str_no ?e ?_; (case e => assumption)))) | ((with_reducible show wpAny _ _ (call (Value.ref _) _) _ _ _); first | (k_here; (with_reducible show wpAny _ _ (call (Value.ref 135) [Value.int 1 _, _, _, Value.int _ _]) _ _ _); k_dflt (refine' CutA.use (a1_ok _ _ _ _ _ _ _ _ _ _ _ _ _ _) ?k1 ?k2 ?k3 ?k4 ?k6 ?k9 ?k7 ?k8 ?k5 ?kK ?kp ?kd ?ku ?kI ?kT ?_; (case k1 => k_asm); (case k2 => k_asm); (case k3 => k_asm); (case k4 => k_asm); (case k5 => k_asm); (case k7 => assumption); (case k6 => tb_rel); (case k9 => tb_start); (case k8 => assumption); (case kK => exact rfl); (case kp => (refine' ⟨?p0, ?p1, ?p2, ?p3⟩; (case p3 => assumption); (case p0 => first | assumption | omega); (case p1 => first | assumption | omega); (case p2 => first | assumption | omega))); (case kd => ktr_room); (case ku => ktr_units); (case kI => assumption); (case kT => assumption)); (intro v9 tl9 cc9 h9 g9 d9 tk9 r9 l9 hc9 F9 N9 G9); (obtain ⟨e9, t9, e8⟩ := r9); subst e9; subst e8; (simp only [List.cons_append, List.nil_append] at N9); clear l9; (try dsimp only); (try k_fold); (try k_sweep)) | (k_here; (first | (with_reducible show wpAny _ _ (call (Value.ref 128) []) _ _ _) | ((with_reducible show wpAny _ _ (call (Value.ref 128) ([] ++ [])) _ _ _); show wpAny _ _ (call (Value.ref 128) []) _ _ _)); k_dflt (refine' CutN.use (n_moons _ _ _ _) ?B ?F ?X ?N ?T ?k ?d ?u ?_; (case B => k_asm); (case F => k_asm); (case X => k_asm); (case N => k_asm); (case T => k_asm); (case k => exact rfl); (case d => ktr_room); (case u => ktr_units)); (intro D9 vs9 c9 h9 tk9 st9 l9 F9 N9); (try dsimp only); (try k_fold); (try k_sweep)) | (k_here; (first | (with_reducible show wpAny _ _ (call (Value.ref 121) []) _ _ _) | ((with_reducible show wpAny _ _ (call (Value.ref 121) ([] ++ [])) _ _ _); show wpAny _ _ (call (Value.ref 121) []) _ _ _)); k_dflt (refine' CutN.use (n_names _ _ _ _) ?B ?F ?X ?N ?T ?k ?d ?u ?_; (case B => k_asm); (case F => k_asm); (case X => k_asm); (case N => k_asm); (case T => k_asm); (case k => exact rfl); (case d => ktr_room); (case u => ktr_units)); (intro D9 vs9 c9 h9 tk9 st9 l9 F9 N9); (try dsimp only); (try k_fold); (try k_sweep))) | ((with_reducible show wpAny _ _ (execs (_ :: _) _) _ _ _); (k_here; (with_reducible show wpAny _ _ (execs [_, _, _, _] _) _ _ _); k_dflt (refine' seg28 _ _ _ _ _ _ _ _ _ _ _ _ _ _ _ _ _ _ _ _ _ _ _ _ _ _ _ _ _ _ _ _ _ _ _ _ _ _ _ _ _ _ _ _ _ _ _ _ _ _ _ _ _ _ _ _ ?hd ?hu ?hB ?hF ?hK ?hN ?hO ?hC ?hG ?hT ?hQ ?x0 ?x1 ?x2 ?x3 ?x4 ?x5 ?x6 ?x7 ?x8 ?x9 ?x10 ?x11 ?x12 ?x13 ?x14 ?x15 ?x16 ?x17 ?x18 ?x19 ?x20 ?x21 ?x22 ?x23 ?x24 ?x25 ?x26 ?x27; (case hF => k_asm); (case hN =>  ktr_rel); (case hC => assumption); (case hO => assumption); (case hB => assumption); (case hK => assumption); (case hG => assumption); (case hT => assumption); (case hQ => assumption); (case hd => assumption); (case hu => assumption); (case x0 => assumption); (case x1 => assumption); (case x2 => assumption); (case x3 => assumption); (case x4 => (first | assumption | exact if_pos rfl | (refine (if_neg (by decide)).trans ?_; first | assumption | exact if_pos rfl | (refine (if_neg (by decide)).trans ?_; first | assumption | exact if_pos rfl | (refine (if_neg (by decide)).trans ?_; first | assumption | exact if_pos rfl | (refine (if_neg (by decide)).trans ?_; first | assumption | exact if_pos rfl)))))); (case x5 => (first | assumption | exact if_pos rfl | (refine (if_neg (by decide)).trans ?_; first | assumption | exact if_pos rfl | (refine (if_neg (by decide)).trans ?_; first | assumption | exact if_pos rfl | (refine (if_neg (by decide)).trans ?_; first | assumption | exact if_pos rfl | (refine (if_neg (by decide)).trans ?_; first | assumption | exact if_pos rfl)))))); (case x6 => (first | assumption | exact if_pos rfl | (refine (if_neg (by decide)).trans ?_; first | assumption | exact if_pos rfl | (refine (if_neg (by decide)).trans ?_; first | assumption | exact if_pos rfl | (refine (if_neg (by decide)).trans ?_; first | assumption | exact if_pos rfl | (refine (if_neg (by decide)).trans ?_; first | assumption | exact if_pos rfl)))))); (case x7 => (first | assumption | exact if_pos rfl | (refine (if_neg (by decide)).trans ?_; first | assumption | exact if_pos rfl | (refine (if_neg (by decide)).trans ?_; first | assumption | exact if_pos rfl | (refine (if_neg (by decide)).trans ?_; first | assumption | exact if_pos rfl | (refine (if_neg (by decide)).trans ?_; first | assumption | exact if_pos rfl)))))); (case x8 => (first | assumption | exact if_pos rfl | (refine (if_neg (by decide)).trans ?_; first | assumption | exact if_pos rfl | (refine (if_neg (by decide)).trans ?_; first | assumption | exact if_pos rfl | (refine (if_neg (by decide)).trans ?_; first | assumption | exact if_pos rfl | (refine (if_neg (by decide)).trans ?_; first | assumption | exact if_pos rfl)))))); (case x9 => (first | assumption | exact if_pos rfl | (refine (if_neg (by decide)).trans ?_; first | assumption | exact if_pos rfl | (refine (if_neg (by decide)).trans ?_; first | assumption | exact if_pos rfl | (refine (if_neg (by decide)).trans ?_; first | assumption | exact if_pos rfl | (refine (if_neg (by decide)).trans ?_; first | assumption | exact if_pos rfl)))))); (case x10 => (first | assumption | exact if_pos rfl | (refine (if_neg (by decide)).trans ?_; first | assumption | exact if_pos rfl | (refine (if_neg (by decide)).trans ?_; first | assumption | exact if_pos rfl | (refine (if_neg (by decide)).trans ?_; first | assumption | exact if_pos rfl | (refine (if_neg (by decide)).trans ?_; first | assumption | exact if_pos rfl)))))); (case x11 => (first | assumption | exact if_pos rfl | (refine (if_neg (by decide)).trans ?_; first | assumption | exact if_pos rfl | (refine (if_neg (by decide)).trans ?_; first | assumption | exact if_pos rfl | (refine (if_neg (by decide)).trans ?_; first | assumption | exact if_pos rfl | (refine (if_neg (by decide)).trans ?_; first | assumption | exact if_pos rfl)))))); (case x12 => assumption); (case x13 => assumption); (case x14 => assumption); (case x15 => assumption); (case x16 => assumption); (case x17 => assumption); (case x18 => assumption); (case x19 => assumption); (case x20 => first | assumption | exact Or.inl rfl | exact Or.inr ⟨_, by assumption, by assumption, rfl⟩); (case x21 => first | assumption | exact Or.inl rfl | exact Or.inr ⟨_, by assumption, by assumption, rfl⟩); (case x22 => (first | assumption | exact if_pos rfl | (refine (if_neg (by decide)).trans ?_; first | assumption | exact if_pos rfl | (refine (if_neg (by decide)).trans ?_; first | assumption | exact if_pos rfl | (refine (if_neg (by decide)).trans ?_; first | assumption | exact if_pos rfl | (refine (if_neg (by decide)).trans ?_; first | assumption | exact if_pos rfl)))))); (case x23 => assumption); (case x24 => assumption); (case x25 => (first | assumption | exact if_pos rfl | (refine (if_neg (by decide)).trans ?_; first | assumption | exact if_pos rfl | (refine (if_neg (by decide)).trans ?_; first | assumption | exact if_pos rfl | (refine (if_neg (by decide)).trans ?_; first | assumption | exact if_pos rfl | (refine (if_neg (by decide)).trans ?_; first | assumption | exact if_pos rfl)))))); (case x26 => assumption); (case x27 => assumption)))) | ((with_reducible show wpAny _ _ (call (Value.builtin _) _) _ _ _); (k_here; (with_reducible show wpAny _ _ (call (Value.builtin _) [Value.ref _, Value.str _ _]) _ _ _); k_dflt (refine' index_haab ?l ?x ?h0 ?h1 ?_; (case l => exact News.isList (by k_asm) (by k_mem)); (case x => assumption); (case h0 => assumption); (case h1 => assumption)))) | ((with_reducible show wpAny _ _ (getMethod (Value.ref _) _ _) _ _ _); (k_here; (with_reducible show wpAny _ _ (getMethod (Value.ref _) (PySem.Str.ofString "index") _) _ _ _); k_dflt (refine' meth_news PySem.F.slot_list_index PySem.F.type_list_index ?N ?m ?_; (case N => k_asm); (case m => k_mem)))) | ((with_reducible show wpAny _ _ (binaryOp Operator.Mod (Value.int _ _) (Value.int _ _)) _ _ _); (k_here; k_dflt (refine' mod_pos ?hb ?_; (case hb => decide)); intro t9; (try dsimp only))) | ((with_reducible show wpAny _ _ (subscriptTail _ _ _ _) _ _ _); (k_here; (with_reducible show wpAny _ _ (subscriptTail _ _ (Value.ref _) (Value.int _ _)) _ _ _); (with_unfolding_all refine' item_anyK ?k1 ?k2 ?k3 ?k4 ?k5 ?_ ?k6; (case k1 => exact News.isList (by k_asm) (by k_mem)); (case k2 => assumption); (case k3 => decide); (case k4 => first | assumption | omega); (case k5 => decide); (case k6 => with_unfolding_all rfl); k_whole); intro t9; (try dsimp only))) | ((with_reducible show wpAny _ _ (eval (Expr.Name _ _) _) _ _ _); first | (k_here; refine' nameX_C ?N ?c ?m ?d ?_ ?k ?x ?b; (case k => exact rfl); (case x => exact rfl); (case b => decide); (case c => exact rfl); (case N => k_asm); (case m => k_mem); (case d => assumption)) | (k_here; refine' nameX_L ?F ?v ?_ ?k ?x ?d; (case k => exact rfl); (case x => exact rfl); (case d => decide); (case F => k_asm); (case v => (first | assumption | exact if_pos rfl | (refine (if_neg (by decide)).trans ?_; first | assumption | exact if_pos rfl | (refine (if_neg (by decide)).trans ?_; first | assumption | exact if_pos rfl | (refine (if_neg (by decide)).trans ?_; first | assumption | exact if_pos rfl | (refine (if_neg (by decide)).trans ?_; first | assumption | exact if_pos rfl)))))))) | ((with_reducible show wpAny _ _ (eval (Expr.Call (Expr.Name _ _) _ _ _) _) _ _ _); (k_here; refine Call_ ?_)) | walk1 | dsimp only | (leave1; try dsimp only))
  all_goals
    (exfalso
     rename (584283 + p + _ : Int) ≠ _ => hne
     rw [show (584283 : Int) + p - 584283 = p by omega] at hne
     refine hne (congrArg (584283 + p + ·) (nh_val p j ?_))
     first | exact Or.inr (by assumption) | exact Or.inl (by assumption) | exact Or.inl (fun z => by have z2 := congrArg haabS z; first | (simp_all; done) | (rename haabS _ ≠ haabS _ => hne2; exact hne2 z2)))

end Mine
end
section
namespace Mine
set_option maxRecDepth 100000 in
set_option maxHeartbeats 8000000 in
theorem seg27 (w : World) (mean : ExcName → Option Value) (mg mb : Str → Option Value) (h₀ : Heap) (L c1 c2 : Addr) (ccd : Value) (m : Str → Option Value) (pre cc : List (Addr × Obj)) (s : Shared) (Q : Flow → Shared → Prop) (E : Value → Shared → Prop) (dp un : Nat) (gd : Option (List Code)) (o1 o2 : Obj) (D1 D2 D3 D4 Dn : Addr) (nd dd p : Int) (nn mm : Str) (u1 u2 u3 u4 u5 u6 u7 u8 tp tn tm td tl : Tok) (k1 k2 k3 k4 kn : Nat) (vs : List Value) (ns : List Int) (Da Db : Addr) (ka kb : Nat) (va vb : List Value)
    (hd1 : dp + 20 < recursionLimit) (hu1 : un + 200 < cLine) (hB : Below callerA h₀ [] h₀) (hF : Fr h₀ L s.heap m) (hK : (theK.heap_1 w.params).In h₀) (hN : News h₀ L s.heap (pre ++ cc)) (hO : PreOk pre) (hC : CC cc) (hG : AllBare s.gens) (hT : Top p0 lo0 mean mg mb h₀) (hQ : Done h₀ L s.os Q)
    (hc1 : (c1, o1) ∈ pre) (ho1 : o1.data = .cell (some (.int p tp))) (hc2 : (c2, o2) ∈ pre) (ho2 : o2.data = .cell (some (.ref D1))) (m1 : m "numbers" = some (.ref Dn)) (m2 : m "number" = some (.int (584283 + p) tn)) (m3 : m "haab" = some (.ref D2)) (m4 : m "month" = some (.str mm tm)) (m5 : m "day" = some (.int dd td)) (m6 : m "place" = some (.int ((348 + p) % 365) tl)) (m7 : m "here" = some (.ref D3)) (m8 : m "there" = some (.ref D4)) (n1 : (D1, tupO [.int nd u1, .str nn u2] k1) ∈ pre) (n2 : (D2, tupO [.int dd u3, .str mm u4] k2) ∈ pre) (n3 : (D3, tupO [.int (tDay p) u5, .str (tzS (tNam p)) u6] k3) ∈ pre) (n4 : (D4, tupO [.int (hDay p) u7, .str (haabS (hMon p)) u8] k4) ∈ pre) (nn0 : (Dn, W.listOf vs.toArray kn) ∈ pre) (hI : IntsAre vs ns) (hlen : (0 : Int) < ns.length) (hp : 0 ≤ p) (hnn : nn = "Nobody" ∨ ∃ i, 0 ≤ i ∧ i < 20 ∧ nn = tzS i) (hmm : mm = "Nobody" ∨ ∃ j, 0 ≤ j ∧ j < 19 ∧ mm = haabS j) (m9 : m "wrong_names" = some (.ref Da)) (na : (Da, W.listOf va.toArray ka) ∈ pre) (sa : StrsAre va (wnL nd nn)) (m10 : m "wrong_haab" = some (.ref Db)) (nb : (Db, W.listOf vb.toArray kb) ∈ pre) (sb : StrsAre vb (whL dd mm)) : Seg w 27 dp un gd L ccd [("names", c2), ("past", c1)] Q E s := by
  rcases hmm with hm | ⟨j, hj0, hj1, hm⟩
  · exact seg27_nob w mean mg mb h₀ L c1 c2 ccd m pre cc s Q E dp un gd o1 o2 D1 D2 D3 D4 Dn nd dd p nn mm u1 u2 u3 u4 u5 u6 u7 u8 tp tn tm td tl k1 k2 k3 k4 kn vs ns Da Db ka kb va vb hd1 hu1 hB hF hK hN hO hC hG hT hQ hc1 ho1 hc2 ho2 m1 m2 m3 m4 m5 m6 m7 m8 n1 n2 n3 n4 nn0 hI hlen hp hnn m9 na sa m10 nb sb hm
  · exact seg27_ok w mean mg mb h₀ L c1 c2 ccd m pre cc s Q E dp un gd o1 o2 D1 D2 D3 D4 Dn nd dd p nn mm u1 u2 u3 u4 u5 u6 u7 u8 tp tn tm td tl k1 k2 k3 k4 kn vs ns Da Db ka kb va vb j hd1 hu1 hB hF hK hN hO hC hG hT hQ hc1 ho1 hc2 ho2 m1 m2 m3 m4 m5 m6 m7 m8 n1 n2 n3 n4 nn0 hI hlen hp hnn m9 na sa m10 nb sb hj0 hj1 hm
end Mine
end
section
namespace Mine
set_option maxRecDepth 100000 in
set_option maxHeartbeats 8000000 in
theorem seg25_bad (w : World) (mean : ExcName → Option Value) (mg mb : Str → Option Value) (h₀ : Heap) (L c1 c2 : Addr) (ccd : Value) (m : Str → Option Value) (pre cc : List (Addr × Obj)) (s : Shared) (Q : Flow → Shared → Prop) (E : Value → Shared → Prop) (dp un : Nat) (gd : Option (List Code)) (o1 o2 : Obj) (D1 D2 D3 D4 Dn : Addr) (nd dd p : Int) (nn mm : Str) (u1 u2 u3 u4 u5 u6 u7 u8 tp tn tm td tl : Tok) (k1 k2 k3 k4 kn : Nat) (vs : List Value) (ns : List Int) (Da Db : Addr) (ka kb : Nat) (va vb : List Value) (X : Str) (cond : List (Addr × Obj) → Prop)
    (hd1 : dp + 20 < recursionLimit) (hu1 : un + 200 < cLine) (hB : Below callerA h₀ [] h₀) (hF : Fr h₀ L s.heap m) (hK : (theK.heap_1 w.params).In h₀) (hN : News h₀ L s.heap (pre ++ cc)) (hO : PreOk pre) (hC : CC cc) (hG : AllBare s.gens) (hT : Top p0 lo0 mean mg mb h₀) (hQ : Done h₀ L s.os Q)
    (hc1 : (c1, o1) ∈ pre) (ho1 : o1.data = .cell (some (.int p tp))) (hc2 : (c2, o2) ∈ pre) (ho2 : o2.data = .cell (some (.ref D1))) (m1 : m "numbers" = some (.ref Dn)) (m2 : m "number" = some (.int (584283 + p) tn)) (m3 : m "haab" = some (.ref D2)) (m4 : m "month" = some (.str mm tm)) (m5 : m "day" = some (.int dd td)) (m6 : m "place" = some (.int ((348 + p) % 365) tl)) (m7 : m "here" = some (.ref D3)) (m8 : m "there" = some (.ref D4)) (n1 : (D1, tupO [.int nd u1, .str nn u2] k1) ∈ pre) (n2 : (D2, tupO [.int dd u3, .str mm u4] k2) ∈ pre) (n3 : (D3, tupO [.int (tDay p) u5, .str (tzS (tNam p)) u6] k3) ∈ pre) (n4 : (D4, tupO [.int (hDay p) u7, .str (haabS (hMon p)) u8] k4) ∈ pre) (nn0 : (Dn, W.listOf vs.toArray kn) ∈ pre) (hI : IntsAre vs ns) (hlen : (0 : Int) < ns.length) (hp : 0 ≤ p) (hnn : nn = "Nobody" ∨ ∃ i, 0 ≤ i ∧ i < 20 ∧ nn = tzS i) (hmm : mm = "Nobody" ∨ ∃ j, 0 ≤ j ∧ j < 19 ∧ mm = haabS j) (m9 : m "wrong_names" = some (.ref Da)) (na : (Da, W.listOf va.toArray ka) ∈ pre) (sa : StrsAre va (wnL nd nn)) (m10 : m "wrong_haab" = some (.ref Db)) (nb : (Db, W.listOf vb.toArray kb) ∈ pre) (sb : StrsAre vb (whL dd mm)) (hX : X ∈ wnL nd nn) (C : ∀ t, CutA w mean mg mb 8 135 [.int 0 t, .ref D1, .ref D2, .int (584283 + p) tn] cond (RStr X)) (hcond : cond pre) : Seg w 25 dp un gd L ccd [("names", c2), ("past", c1)] Q E s := by
  unfold Seg
  revert hK
  k_fill
  intro hK
  conv in (occs := *) (scopeAt w) => all_goals whnf
  refine wpAny_execs_cons ?_
  w_top off
  repeat' (first | (k_unfold; (try dsimp only)) | (k_end; wrow_close) | ((with_reducible show wpAny _ _ (compareOp CmpOp.NotIn (Value.str _ _) (Value.ref _)) _ _ _); (k_here; k_dflt (refine' notin_has ?N ?m1 ?hi ?hX ?_; (case N => k_asm); (case m1 => k_mem); (case hi => assumption); (case hX => assumption)))) | ((with_reducible show wpAny _ _ (compareOp CmpOp.NotEq (Value.ref _) (Value.ref _)) _ _ _); (k_here; k_dflt (refine' ne_strs_has ?N ?m1 ?m2 ?hi ?hx ?hX ?hu ?_; (case N => k_asm); (case m1 => k_mem); (case m2 => k_mem); (case hi => assumption); (case hx => exact wn_ok _ _); (case hX => assumption); (case hu => ktr_units)))) | ((with_reducible show wpAny _ _ (call (Value.ref _) _) _ _ _); (k_here; (with_reducible show wpAny _ _ (call (Value.ref 135) [Value.int 0 _, _, _, Value.int _ _]) _ _ _); k_dflt (refine' CutA.use (?kC) ?k1 ?k2 ?k3 ?k4 ?k6 ?k9 ?k7 ?k8 ?k5 ?kK ?kp ?kd ?ku ?kI ?kT ?_; (case kC => apply_assumption); (case k1 => k_asm); (case k2 => k_asm); (case k3 => k_asm); (case k4 => k_asm); (case k5 => k_asm); (case k7 => assumption); (case k6 => tb_rel); (case k9 => tb_start); (case k8 => assumption); (case kK => exact rfl); (case kp => assumption); (case kd => ktr_room); (case ku => ktr_units); (case kI => assumption); (case kT => assumption)); (intro v9 tl9 cc9 h9 g9 d9 tk9 r9 l9 hc9 F9 N9 G9); (obtain ⟨e9, t9, e8⟩ := r9); subst e9; subst e8; (simp only [List.cons_append, List.nil_append] at N9); clear l9; (try dsimp only); (try k_fold); (try k_sweep))) | ((with_reducible show wpAny _ _ (newList _) _ _ _); (k_here; k_dflt (refine' newlist_K ?F ?N ?sz ?_; (case F => k_asm); (case N => k_asm); (case sz => decide)); (intro D9 h9 F9 N9 l9); (try simp only [List.cons_append, List.nil_append] at N9); (try dsimp only); (try k_fold); (try k_sweep))) | ((with_reducible show wpAny _ _ (execs (_ :: _) _) _ _ _); (k_here; (with_reducible show wpAny _ _ (execs [_, _, _, _, _] _) _ _ _); k_dflt (refine' seg27 _ _ _ _ _ _ _ _ _ _ _ _ _ _ _ _ _ _ _ _ _ _ _ _ _ _ _ _ _ _ _ _ _ _ _ _ _ _ _ _ _ _ _ _ _ _ _ _ _ _ _ _ _ _ _ _ ?hd ?hu ?hB ?hF ?hK ?hN ?hO ?hC ?hG ?hT ?hQ ?x0 ?x1 ?x2 ?x3 ?x4 ?x5 ?x6 ?x7 ?x8 ?x9 ?x10 ?x11 ?x12 ?x13 ?x14 ?x15 ?x16 ?x17 ?x18 ?x19 ?x20 ?x21 ?x22 ?x23 ?x24 ?x25 ?x26 ?x27; (case hF => k_asm); (case hN =>  ktr_rel); (case hC => assumption); (case hO => assumption); (case hB => assumption); (case hK => assumption); (case hG => assumption); (case hT => assumption); (case hQ => assumption); (case hd => assumption); (case hu => assumption); (case x0 => assumption); (case x1 => assumption); (case x2 => assumption); (case x3 => assumption); (case x4 => (first | assumption | exact if_pos rfl | (refine (if_neg (by decide)).trans ?_; first | assumption | exact if_pos rfl | (refine (if_neg (by decide)).trans ?_; first | assumption | exact if_pos rfl | (refine (if_neg (by decide)).trans ?_; first | assumption | exact if_pos rfl | (refine (if_neg (by decide)).trans ?_; first | assumption | exact if_pos rfl)))))); (case x5 => (first | assumption | exact if_pos rfl | (refine (if_neg (by decide)).trans ?_; first | assumption | exact if_pos rfl | (refine (if_neg (by decide)).trans ?_; first | assumption | exact if_pos rfl | (refine (if_neg (by decide)).trans ?_; first | assumption | exact if_pos rfl | (refine (if_neg (by decide)).trans ?_; first | assumption | exact if_pos rfl)))))); (case x6 => (first | assumption | exact if_pos rfl | (refine (if_neg (by decide)).trans ?_; first | assumption | exact if_pos rfl | (refine (if_neg (by decide)).trans ?_; first | assumption | exact if_pos rfl | (refine (if_neg (by decide)).trans ?_; first | assumption | exact if_pos rfl | (refine (if_neg (by decide)).trans ?_; first | assumption | exact if_pos rfl)))))); (case x7 => (first | assumption | exact if_pos rfl | (refine (if_neg (by decide)).trans ?_; first | assumption | exact if_pos rfl | (refine (if_neg (by decide)).trans ?_; first | assumption | exact if_pos rfl | (refine (if_neg (by decide)).trans ?_; first | assumption | exact if_pos rfl | (refine (if_neg (by decide)).trans ?_; first | assumption | exact if_pos rfl)))))); (case x8 => (first | assumption | exact if_pos rfl | (refine (if_neg (by decide)).trans ?_; first | assumption | exact if_pos rfl | (refine (if_neg (by decide)).trans ?_; first | assumption | exact if_pos rfl | (refine (if_neg (by decide)).trans ?_; first | assumption | exact if_pos rfl | (refine (if_neg (by decide)).trans ?_; first | assumption | exact if_pos rfl)))))); (case x9 => (first | assumption | exact if_pos rfl | (refine (if_neg (by decide)).trans ?_; first | assumption | exact if_pos rfl | (refine (if_neg (by decide)).trans ?_; first | assumption | exact if_pos rfl | (refine (if_neg (by decide)).trans ?_; first | assumption | exact if_pos rfl | (refine (if_neg (by decide)).trans ?_; first | assumption | exact if_pos rfl)))))); (case x10 => (first | assumption | exact if_pos rfl | (refine (if_neg (by decide)).trans ?_; first | assumption | exact if_pos rfl | (refine (if_neg (by decide)).trans ?_; first | assumption | exact if_pos rfl | (refine (if_neg (by decide)).trans ?_; first | assumption | exact if_pos rfl | (refine (if_neg (by decide)).trans ?_; first | assumption | exact if_pos rfl)))))); (case x11 => (first | assumption | exact if_pos rfl | (refine (if_neg (by decide)).trans ?_; first | assumption | exact if_pos rfl | (refine (if_neg (by decide)).trans ?_; first | assumption | exact if_pos rfl | (refine (if_neg (by decide)).trans ?_; first | assumption | exact if_pos rfl | (refine (if_neg (by decide)).trans ?_; first | assumption | exact if_pos rfl)))))); (case x12 => assumption); (case x13 => assumption); (case x14 => assumption); (case x15 => assumption); (case x16 => assumption); (case x17 => assumption); (case x18 => assumption); (case x19 => assumption); (case x20 => first | assumption | exact Or.inl rfl | exact Or.inr ⟨_, by assumption, by assumption, rfl⟩); (case x21 => first | assumption | exact Or.inl rfl | exact Or.inr ⟨_, by assumption, by assumption, rfl⟩); (case x22 => (first | assumption | exact if_pos rfl | (refine (if_neg (by decide)).trans ?_; first | assumption | exact if_pos rfl | (refine (if_neg (by decide)).trans ?_; first | assumption | exact if_pos rfl | (refine (if_neg (by decide)).trans ?_; first | assumption | exact if_pos rfl | (refine (if_neg (by decide)).trans ?_; first | assumption | exact if_pos rfl)))))); (case x23 => assumption); (case x24 => assumption); (case x25 => (first | assumption | exact if_pos rfl | (refine (if_neg (by decide)).trans ?_; first | assumption | exact if_pos rfl | (refine (if_neg (by decide)).trans ?_; first | assumption | exact if_pos rfl | (refine (if_neg (by decide)).trans ?_; first | assumption | exact if_pos rfl | (refine (if_neg (by decide)).trans ?_; first | assumption | exact if_pos rfl)))))); (case x26 => assumption); (case x27 => assumption)))) | ((with_reducible show wpAny _ _ (subscriptTail _ _ _ _) _ _ _); (k_here; (with_reducible show wpAny _ _ (subscriptTail _ _ (Value.ref _) (Value.int _ _)) _ _ _); (with_unfolding_all refine' item_anyK ?k1 ?k2 ?k3 ?k4 ?k5 ?_ ?k6; (case k1 => exact News.isList (by k_asm) (by k_mem)); (case k2 => assumption); (case k3 => decide); (case k4 => first | assumption | omega); (case k5 => decide); (case k6 => with_unfolding_all rfl); k_whole); intro t9; (try dsimp only))) | ((with_reducible show wpAny _ _ (eval (Expr.Name _ _) _) _ _ _); first | (k_here; refine' nameX_C ?N ?c ?m ?d ?_ ?k ?x ?b; (case k => exact rfl); (case x => exact rfl); (case b => decide); (case c => exact rfl); (case N => k_asm); (case m => k_mem); (case d => assumption)) | (k_here; refine' nameX_L ?F ?v ?_ ?k ?x ?d; (case k => exact rfl); (case x => exact rfl); (case d => decide); (case F => k_asm); (case v => (first | assumption | exact if_pos rfl | (refine (if_neg (by decide)).trans ?_; first | assumption | exact if_pos rfl | (refine (if_neg (by decide)).trans ?_; first | assumption | exact if_pos rfl | (refine (if_neg (by decide)).trans ?_; first | assumption | exact if_pos rfl | (refine (if_neg (by decide)).trans ?_; first | assumption | exact if_pos rfl)))))))) | ((with_reducible show wpAny _ _ (eval (Expr.Call (Expr.Name _ _) _ _ _) _) _ _ _); (k_here; refine Call_ ?_)) | walk1 | dsimp only | (leave1; try dsimp only))
  done
end Mine
end
section
namespace Mine
set_option maxRecDepth 100000 in
set_option maxHeartbeats 8000000 in
theorem seg25_ok (w : World) (mean : ExcName → Option Value) (mg mb : Str → Option Value) (h₀ : Heap) (L c1 c2 : Addr) (ccd : Value) (m : Str → Option Value) (pre cc : List (Addr × Obj)) (s : Shared) (Q : Flow → Shared → Prop) (E : Value → Shared → Prop) (dp un : Nat) (gd : Option (List Code)) (o1 o2 : Obj) (D1 D2 D3 D4 Dn : Addr) (nd dd p : Int) (nn mm : Str) (u1 u2 u3 u4 u5 u6 u7 u8 tp tn tm td tl : Tok) (k1 k2 k3 k4 kn : Nat) (vs : List Value) (ns : List Int) (Da Db : Addr) (ka kb : Nat) (va vb : List Value) (i : Int)
    (hd1 : dp + 20 < recursionLimit) (hu1 : un + 200 < cLine) (hB : Below callerA h₀ [] h₀) (hF : Fr h₀ L s.heap m) (hK : (theK.heap_1 w.params).In h₀) (hN : News h₀ L s.heap (pre ++ cc)) (hO : PreOk pre) (hC : CC cc) (hG : AllBare s.gens) (hT : Top p0 lo0 mean mg mb h₀) (hQ : Done h₀ L s.os Q)
    (hc1 : (c1, o1) ∈ pre) (ho1 : o1.data = .cell (some (.int p tp))) (hc2 : (c2, o2) ∈ pre) (ho2 : o2.data = .cell (some (.ref D1))) (m1 : m "numbers" = some (.ref Dn)) (m2 : m "number" = some (.int (584283 + p) tn)) (m3 : m "haab" = some (.ref D2)) (m4 : m "month" = some (.str mm tm)) (m5 : m "day" = some (.int dd td)) (m6 : m "place" = some (.int ((348 + p) % 365) tl)) (m7 : m "here" = some (.ref D3)) (m8 : m "there" = some (.ref D4)) (n1 : (D1, tupO [.int nd u1, .str nn u2] k1) ∈ pre) (n2 : (D2, tupO [.int dd u3, .str mm u4] k2) ∈ pre) (n3 : (D3, tupO [.int (tDay p) u5, .str (tzS (tNam p)) u6] k3) ∈ pre) (n4 : (D4, tupO [.int (hDay p) u7, .str (haabS (hMon p)) u8] k4) ∈ pre) (nn0 : (Dn, W.listOf vs.toArray kn) ∈ pre) (hI : IntsAre vs ns) (hlen : (0 : Int) < ns.length) (hp : 0 ≤ p) (hmm : mm = "Nobody" ∨ ∃ j, 0 ≤ j ∧ j < 19 ∧ mm = haabS j) (m9 : m "wrong_names" = some (.ref Da)) (na : (Da, W.listOf va.toArray ka) ∈ pre) (sa : StrsAre va (wnL nd nn)) (m10 : m "wrong_haab" = some (.ref Db)) (nb : (Db, W.listOf vb.toArray kb) ∈ pre) (sb : StrsAre vb (whL dd mm)) (hnd : 1 ≤ nd) (hnd2 : nd ≤ 13) (hi0 : 0 ≤ i) (hi1 : i < 20) (hnn : nn = tzS i) : Seg w 25 dp un gd L ccd [("names", c2), ("past", c1)] Q E s := by
  unfold Seg
  revert hK
  k_fill
  intro hK
  conv in (occs := *) (scopeAt w) => all_goals whnf
  refine wpAny_execs_cons ?_
  subst hnn
  rw [wn_no ⟨hnd, hnd2⟩ (tzS_no hi0 hi1)] at sa
  cases sa
  have sa : StrsAre [] (wnL nd (tzS i)) := by rw [wn_no ⟨hnd, hnd2⟩ (tzS_no hi0 hi1)]; exact StrsAre.nil
  w_top off
  repeat' (first | (k_unfold; (try dsimp only)) | (k_end; wrow_close) | ((with_reducible show wpAny _ _ (call (Value.ref _) _) _ _ _); first | (k_here; (with_reducible show wpAny _ _ (call (Value.ref 135) [Value.int 0 _, _, _, Value.int _ _]) _ _ _); k_dflt (refine' CutA.use (a0_ok _ _ _ _ _ _ _ _ _ _ _ _ _ _) ?k1 ?k2 ?k3 ?k4 ?k6 ?k9 ?k7 ?k8 ?k5 ?kK ?kp ?kd ?ku ?kI ?kT ?_; (case k1 => k_asm); (case k2 => k_asm); (case k3 => k_asm); (case k4 => k_asm); (case k5 => k_asm); (case k7 => assumption); (case k6 => tb_rel); (case k9 => tb_start); (case k8 => assumption); (case kK => exact rfl); (case kp => (refine' ⟨?p0, ?p1, ?p2, ?p3, ?p4, ?p5⟩; (case p5 => assumption); (case p0 => first | assumption | omega); (case p1 => first | assumption | omega); (case p2 => first | assumption | omega); (case p3 => first | assumption | omega); (case p4 => first | assumption | omega))); (case kd => ktr_room); (case ku => ktr_units); (case kI => assumption); (case kT => assumption)); (intro v9 tl9 cc9 h9 g9 d9 tk9 r9 l9 hc9 F9 N9 G9); (obtain ⟨e9, t9, e8⟩ := r9); subst e9; subst e8; (simp only [List.cons_append, List.nil_append] at N9); clear l9; (try dsimp only); (try k_fold); (try k_sweep)) | (k_here; (first | (with_reducible show wpAny _ _ (call (Value.ref 128) []) _ _ _) | ((with_reducible show wpAny _ _ (call (Value.ref 128) ([] ++ [])) _ _ _); show wpAny _ _ (call (Value.ref 128) []) _ _ _)); k_dflt (refine' CutN.use (n_moons _ _ _ _) ?B ?F ?X ?N ?T ?k ?d ?u ?_; (case B => k_asm); (case F => k_asm); (case X => k_asm); (case N => k_asm); (case T => k_asm); (case k => exact rfl); (case d => ktr_room); (case u => ktr_units)); (intro D9 vs9 c9 h9 tk9 st9 l9 F9 N9); (try dsimp only); (try k_fold); (try k_sweep)) | (k_here; (first | (with_reducible show wpAny _ _ (call (Value.ref 121) []) _ _ _) | ((with_reducible show wpAny _ _ (call (Value.ref 121) ([] ++ [])) _ _ _); show wpAny _ _ (call (Value.ref 121) []) _ _ _)); k_dflt (refine' CutN.use (n_names _ _ _ _) ?B ?F ?X ?N ?T ?k ?d ?u ?_; (case B => k_asm); (case F => k_asm); (case X => k_asm); (case N => k_asm); (case T => k_asm); (case k => exact rfl); (case d => ktr_room); (case u => ktr_units)); (intro D9 vs9 c9 h9 tk9 st9 l9 F9 N9); (try dsimp only); (try k_fold); (try k_sweep))) | ((with_reducible show wpAny _ _ (execs (_ :: _) _) _ _ _); (k_here; (with_reducible show wpAny _ _ (execs [_, _, _, _, _] _) _ _ _); k_dflt (refine' seg27 _ _ _ _ _ _ _ _ _ _ _ _ _ _ _ _ _ _ _ _ _ _ _ _ _ _ _ _ _ _ _ _ _ _ _ _ _ _ _ _ _ _ _ _ _ _ _ _ _ _ _ _ _ _ _ _ ?hd ?hu ?hB ?hF ?hK ?hN ?hO ?hC ?hG ?hT ?hQ ?x0 ?x1 ?x2 ?x3 ?x4 ?x5 ?x6 ?x7 ?x8 ?x9 ?x10 ?x11 ?x12 ?x13 ?x14 ?x15 ?x16 ?x17 ?x18 ?x19 ?x20 ?x21 ?x22 ?x23 ?x24 ?x25 ?x26 ?x27; (case hF => k_asm); (case hN =>  ktr_rel); (case hC => assumption); (case hO => assumption); (case hB => assumption); (case hK => assumption); (case hG => assumption); (case hT => assumption); (case hQ => assumption); (case hd => assumption); (case hu => assumption); (case x0 => assumption); (case x1 => assumption); (case x2 => assumption); (case x3 => assumption); (case x4 => (first | assumption | exact if_pos rfl | (refine (if_neg (by decide)).trans ?_; first | assumption | exact if_pos rfl | (refine (if_neg (by decide)).trans ?_; first | assumption | exact if_pos rfl | (refine (if_neg (by decide)).trans ?_; first | assumption | exact if_pos rfl | (refine (if_neg (by decide)).trans ?_; first | assumption | exact if_pos rfl)))))); (case x5 => (first | assumption | exact if_pos rfl | (refine (if_neg (by decide)).trans ?_; first | assumption | exact if_pos rfl | (refine (if_neg (by decide)).trans ?_; first | assumption | exact if_pos rfl | (refine (if_neg (by decide)).trans ?_; first | assumption | exact if_pos rfl | (refine (if_neg (by decide)).trans ?_; first | assumption | exact if_pos rfl)))))); (case x6 => (first | assumption | exact if_pos rfl | (refine (if_neg (by decide)).trans ?_; first | assumption | exact if_pos rfl | (refine (if_neg (by decide)).trans ?_; first | assumption | exact if_pos rfl | (refine (if_neg (by decide)).trans ?_; first | assumption | exact if_pos rfl | (refine (if_neg (by decide)).trans ?_; first | assumption | exact if_pos rfl)))))); (case x7 => (first | assumption | exact if_pos rfl | (refine (if_neg (by decide)).trans ?_; first | assumption | exact if_pos rfl | (refine (if_neg (by decide)).trans ?_; first | assumption | exact if_pos rfl | (refine (if_neg (by decide)).trans ?_; first | assumption | exact if_pos rfl | (refine (if_neg (by decide)).trans ?_; first | assumption | exact if_pos rfl)))))); (case x8 => (first | assumption | exact if_pos rfl | (refine (if_neg (by decide)).trans ?_; first | assumption | exact if_pos rfl | (refine (if_neg (by decide)).trans ?_; first | assumption | exact if_pos rfl | (refine (if_neg (by decide)).trans ?_; first | assumption | exact if_pos rfl | (refine (if_neg (by decide)).trans ?_; first | assumption | exact if_pos rfl)))))); (case x9 => (first | assumption | exact if_pos rfl | (refine (if_neg (by decide)).trans ?_; first | assumption | exact if_pos rfl | (refine (if_neg (by decide)).trans ?_; first | assumption | exact if_pos rfl | (refine (if_neg (by decide)).trans ?_; first | assumption | exact if_pos rfl | (refine (if_neg (by decide)).trans ?_; first | assumption | exact if_pos rfl)))))); (case x10 => (first | assumption | exact if_pos rfl | (refine (if_neg (by decide)).trans ?_; first | assumption | exact if_pos rfl | (refine (if_neg (by decide)).trans ?_; first | assumption | exact if_pos rfl | (refine (if_neg (by decide)).trans ?_; first | assumption | exact if_pos rfl | (refine (if_neg (by decide)).trans ?_; first | assumption | exact if_pos rfl)))))); (case x11 => (first | assumption | exact if_pos rfl | (refine (if_neg (by decide)).trans ?_; first | assumption | exact if_pos rfl | (refine (if_neg (by decide)).trans ?_; first | assumption | exact if_pos rfl | (refine (if_neg (by decide)).trans ?_; first | assumption | exact if_pos rfl | (refine (if_neg (by decide)).trans ?_; first | assumption | exact if_pos rfl)))))); (case x12 => assumption); (case x13 => assumption); (case x14 => assumption); (case x15 => assumption); (case x16 => assumption); (case x17 => assumption); (case x18 => assumption); (case x19 => assumption); (case x20 => first | assumption | exact Or.inl rfl | exact Or.inr ⟨_, by assumption, by assumption, rfl⟩); (case x21 => first | assumption | exact Or.inl rfl | exact Or.inr ⟨_, by assumption, by assumption, rfl⟩); (case x22 => (first | assumption | exact if_pos rfl | (refine (if_neg (by decide)).trans ?_; first | assumption | exact if_pos rfl | (refine (if_neg (by decide)).trans ?_; first | assumption | exact if_pos rfl | (refine (if_neg (by decide)).trans ?_; first | assumption | exact if_pos rfl | (refine (if_neg (by decide)).trans ?_; first | assumption | exact if_pos rfl)))))); (case x23 => assumption); (case x24 => assumption); (case x25 => (first | assumption | exact if_pos rfl | (refine (if_neg (by decide)).trans ?_; first | assumption | exact if_pos rfl | (refine (if_neg (by decide)).trans ?_; first | assumption | exact if_pos rfl | (refine (if_neg (by decide)).trans ?_; first | assumption | exact if_pos rfl | (refine (if_neg (by decide)).trans ?_; first | assumption | exact if_pos rfl)))))); (case x26 => assumption); (case x27 => assumption)))) | ((with_reducible show wpAny _ _ (compareOp CmpOp.NotEq (Value.int _ _) (Value.int _ _)) _ _ _); (k_here; k_dflt (refine' ne_int_same ?e ?_; (case e => assumption)))) | ((with_reducible show wpAny _ _ (compareOp CmpOp.NotEq (Value.ref _) (Value.ref _)) _ _ _); first | (k_here; k_dflt (refine' ne_ints_nil ?N ?m1 ?m2 ?hi ?hu ?_; (case N => k_asm); (case m1 => k_mem); (case m2 => k_mem); (case hi => exact IntsAre.cons _ _ IntsAre.nil); (case hu => ktr_units)); (try simp only [ne_eq, reduceCtorEq, not_false_eq_true, decide_true])) | (k_here; k_dflt (refine' ne_strs_nil ?N ?m1 ?m2 ?hi ?hx ?hu ?_; (case N => k_asm); (case m1 => k_mem); (case m2 => k_mem); (case hi => exact StrsAre.nil); (case hx => exact List.forall_mem_nil _); (case hu => ktr_units)); (try simp only [ne_eq, not_true_eq_false, decide_false]))) | ((with_reducible show wpAny _ _ (newList _) _ _ _); (k_here; k_dflt (refine' newlist_K ?F ?N ?sz ?_; (case F => k_asm); (case N => k_asm); (case sz => decide)); (intro D9 h9 F9 N9 l9); (try simp only [List.cons_append, List.nil_append] at N9); (try dsimp only); (try k_fold); (try k_sweep))) | ((with_reducible show wpAny _ _ (exec (Stmt.Assign (_ :: _) (Expr.ListComp _ _ _ _) _) _) _ _ _); (k_here; k_dflt (refine Assign_fit (by k_asm) (by rfl) (by with_unfolding_all rfl) (by with_unfolding_all rfl) (by decide) (by rfl) (by decide) (by rfl) (by decide) (by rfl) (by rfl) ?_))) | ((with_reducible show wpAny _ _ (binaryOp Operator.Mod (Value.int _ _) (Value.int _ _)) _ _ _); (k_here; k_dflt (refine' mod_pos ?hb ?_; (case hb => decide)); intro t9; (try dsimp only))) | ((with_reducible show wpAny _ _ (subscriptTail _ _ _ _) _ _ _); first | (k_here; (with_reducible show wpAny _ _ (subscriptTail _ _ (Value.ref _) (Value.int _ _)) _ _ _); k_dflt (refine' item_tab ?N ?m ?i ?h0 ?hk ?fit ?_ ?hs ?hg; (case N => k_asm); (case m => k_mem); (case i => assumption); (case h0 => first | assumption | omega); (case fit => decide); (case hk => first | assumption | omega | (show _ < (20 : Int); omega) | (show _ < (19 : Int); omega)); (case hs => with_unfolding_all rfl); (case hg => intro _; with_unfolding_all rfl)); intro t9; (try dsimp only)) | (k_here; (with_reducible show wpAny _ _ (subscriptTail _ _ (Value.ref _) (Value.int 0 _)) _ _ _); k_dflt (refine' item_int ?N ?m ?_ ?hs ?hg; (case N => k_asm); (case m => k_mem); (case hs => with_unfolding_all rfl); (case hg => intro _; with_unfolding_all rfl)); intro t9; (try dsimp only)) | (k_here; (with_reducible show wpAny _ _ (subscriptTail _ _ (Value.ref _) (Value.int _ _)) _ _ _); (with_unfolding_all refine' item_anyK ?k1 ?k2 ?k3 ?k4 ?k5 ?_ ?k6; (case k1 => exact News.isList (by k_asm) (by k_mem)); (case k2 => assumption); (case k3 => decide); (case k4 => first | assumption | omega); (case k5 => decide); (case k6 => with_unfolding_all rfl); k_whole); intro t9; (try dsimp only))) | ((with_reducible show wpAny _ _ (eval (Expr.Name _ _) _) _ _ _); first | (k_here; refine' nameX_C ?N ?c ?m ?d ?_ ?k ?x ?b; (case k => exact rfl); (case x => exact rfl); (case b => decide); (case c => exact rfl); (case N => k_asm); (case m => k_mem); (case d => assumption)) | (k_here; refine' nameX_L ?F ?v ?_ ?k ?x ?d; (case k => exact rfl); (case x => exact rfl); (case d => decide); (case F => k_asm); (case v => (first | assumption | exact if_pos rfl | (refine (if_neg (by decide)).trans ?_; first | assumption | exact if_pos rfl | (refine (if_neg (by decide)).trans ?_; first | assumption | exact if_pos rfl | (refine (if_neg (by decide)).trans ?_; first | assumption | exact if_pos rfl | (refine (if_neg (by decide)).trans ?_; first | assumption | exact if_pos rfl)))))))) | ((with_reducible show wpAny _ _ (eval (Expr.Call (Expr.Name _ _) _ _ _) _) _ _ _); (k_here; refine Call_ ?_)) | walk1 | dsimp only | (leave1; try dsimp only))
  all_goals
    have hr := rs13 (a := (nd - 4 - p) % 13) (by omega) (by omega)
    obtain ⟨y, hy, hyv, hyu⟩ := fit0 p nd i ⟨hnd, hnd2, hi0, hi1⟩
    have hval : 584283 + p + (tcF nd i - tcF (tDay (584283 + p - 584283)) (tNam (584283 + p - 584283))) % 260 = 584283 + p + ((nd - 4 - p) % 13 + (y : Int) * 13) := by
      rw [show (584283 : Int) + p - 584283 = p by omega, hyv]
    refine' ⟨_, _, _, _, _, _, _, 20, pre ++ _, (fun x => tzS ((p + ((nd - 4 - p) % 13 + (x : Int) * 13) + 19) % 20) == tzS i), rfl, rfl, ?F, ?N, ?R, hr.2, hr.1, ?le, ?turn, ?fin⟩
    case F => k_asm
    case N =>  ktr_rel
    case R => assumption
    case le => decide
    case turn =>
      intro x hx t I oI C oC D oD m₂ h tk E' hC hx' F' N'
      w_top off
      repeat' (first | (k_unfold; (try dsimp only)) | (k_end; wrow_close) | ((with_reducible show wpAny _ _ (call (Value.ref _) _) _ _ _); first | (k_here; (with_reducible show wpAny _ _ (call (Value.ref 135) [Value.int 0 _, _, _, Value.int _ _]) _ _ _); k_dflt (refine' CutA.use (a0_ok _ _ _ _ _ _ _ _ _ _ _ _ _ _) ?k1 ?k2 ?k3 ?k4 ?k6 ?k9 ?k7 ?k8 ?k5 ?kK ?kp ?kd ?ku ?kI ?kT ?_; (case k1 => k_asm); (case k2 => k_asm); (case k3 => k_asm); (case k4 => k_asm); (case k5 => k_asm); (case k7 => assumption); (case k6 => tb_rel); (case k9 => tb_start); (case k8 => assumption); (case kK => exact rfl); (case kp => (refine' ⟨?p0, ?p1, ?p2, ?p3, ?p4, ?p5⟩; (case p5 => assumption); (case p0 => first | assumption | omega); (case p1 => first | assumption | omega); (case p2 => first | assumption | omega); (case p3 => first | assumption | omega); (case p4 => first | assumption | omega))); (case kd => ktr_room); (case ku => ktr_units); (case kI => assumption); (case kT => assumption)); (intro v9 tl9 cc9 h9 g9 d9 tk9 r9 l9 hc9 F9 N9 G9); (obtain ⟨e9, t9, e8⟩ := r9); subst e9; subst e8; (simp only [List.cons_append, List.nil_append] at N9); clear l9; (try dsimp only); (try k_fold); (try k_sweep)) | (k_here; (first | (with_reducible show wpAny _ _ (call (Value.ref 128) []) _ _ _) | ((with_reducible show wpAny _ _ (call (Value.ref 128) ([] ++ [])) _ _ _); show wpAny _ _ (call (Value.ref 128) []) _ _ _)); k_dflt (refine' CutN.use (n_moons _ _ _ _) ?B ?F ?X ?N ?T ?k ?d ?u ?_; (case B => k_asm); (case F => k_asm); (case X => k_asm); (case N => k_asm); (case T => k_asm); (case k => exact rfl); (case d => ktr_room); (case u => ktr_units)); (intro D9 vs9 c9 h9 tk9 st9 l9 F9 N9); (try dsimp only); (try k_fold); (try k_sweep)) | (k_here; (first | (with_reducible show wpAny _ _ (call (Value.ref 121) []) _ _ _) | ((with_reducible show wpAny _ _ (call (Value.ref 121) ([] ++ [])) _ _ _); show wpAny _ _ (call (Value.ref 121) []) _ _ _)); k_dflt (refine' CutN.use (n_names _ _ _ _) ?B ?F ?X ?N ?T ?k ?d ?u ?_; (case B => k_asm); (case F => k_asm); (case X => k_asm); (case N => k_asm); (case T => k_asm); (case k => exact rfl); (case d => ktr_room); (case u => ktr_units)); (intro D9 vs9 c9 h9 tk9 st9 l9 F9 N9); (try dsimp only); (try k_fold); (try k_sweep))) | ((with_reducible show wpAny _ _ (execs (_ :: _) _) _ _ _); (k_here; (with_reducible show wpAny _ _ (execs [_, _, _, _, _] _) _ _ _); k_dflt (refine' seg27 _ _ _ _ _ _ _ _ _ _ _ _ _ _ _ _ _ _ _ _ _ _ _ _ _ _ _ _ _ _ _ _ _ _ _ _ _ _ _ _ _ _ _ _ _ _ _ _ _ _ _ _ _ _ _ _ ?hd ?hu ?hB ?hF ?hK ?hN ?hO ?hC ?hG ?hT ?hQ ?x0 ?x1 ?x2 ?x3 ?x4 ?x5 ?x6 ?x7 ?x8 ?x9 ?x10 ?x11 ?x12 ?x13 ?x14 ?x15 ?x16 ?x17 ?x18 ?x19 ?x20 ?x21 ?x22 ?x23 ?x24 ?x25 ?x26 ?x27; (case hF => k_asm); (case hN =>  ktr_rel); (case hC => assumption); (case hO => assumption); (case hB => assumption); (case hK => assumption); (case hG => assumption); (case hT => assumption); (case hQ => assumption); (case hd => assumption); (case hu => assumption); (case x0 => assumption); (case x1 => assumption); (case x2 => assumption); (case x3 => assumption); (case x4 => (first | assumption | exact if_pos rfl | (refine (if_neg (by decide)).trans ?_; first | assumption | exact if_pos rfl | (refine (if_neg (by decide)).trans ?_; first | assumption | exact if_pos rfl | (refine (if_neg (by decide)).trans ?_; first | assumption | exact if_pos rfl | (refine (if_neg (by decide)).trans ?_; first | assumption | exact if_pos rfl)))))); (case x5 => (first | assumption | exact if_pos rfl | (refine (if_neg (by decide)).trans ?_; first | assumption | exact if_pos rfl | (refine (if_neg (by decide)).trans ?_; first | assumption | exact if_pos rfl | (refine (if_neg (by decide)).trans ?_; first | assumption | exact if_pos rfl | (refine (if_neg (by decide)).trans ?_; first | assumption | exact if_pos rfl)))))); (case x6 => (first | assumption | exact if_pos rfl | (refine (if_neg (by decide)).trans ?_; first | assumption | exact if_pos rfl | (refine (if_neg (by decide)).trans ?_; first | assumption | exact if_pos rfl | (refine (if_neg (by decide)).trans ?_; first | assumption | exact if_pos rfl | (refine (if_neg (by decide)).trans ?_; first | assumption | exact if_pos rfl)))))); (case x7 => (first | assumption | exact if_pos rfl | (refine (if_neg (by decide)).trans ?_; first | assumption | exact if_pos rfl | (refine (if_neg (by decide)).trans ?_; first | assumption | exact if_pos rfl | (refine (if_neg (by decide)).trans ?_; first | assumption | exact if_pos rfl | (refine (if_neg (by decide)).trans ?_; first | assumption | exact if_pos rfl)))))); (case x8 => (first | assumption | exact if_pos rfl | (refine (if_neg (by decide)).trans ?_; first | assumption | exact if_pos rfl | (refine (if_neg (by decide)).trans ?_; first | assumption | exact if_pos rfl | (refine (if_neg (by decide)).trans ?_; first | assumption | exact if_pos rfl | (refine (if_neg (by decide)).trans ?_; first | assumption | exact if_pos rfl)))))); (case x9 => (first | assumption | exact if_pos rfl | (refine (if_neg (by decide)).trans ?_; first | assumption | exact if_pos rfl | (refine (if_neg (by decide)).trans ?_; first | assumption | exact if_pos rfl | (refine (if_neg (by decide)).trans ?_; first | assumption | exact if_pos rfl | (refine (if_neg (by decide)).trans ?_; first | assumption | exact if_pos rfl)))))); (case x10 => (first | assumption | exact if_pos rfl | (refine (if_neg (by decide)).trans ?_; first | assumption | exact if_pos rfl | (refine (if_neg (by decide)).trans ?_; first | assumption | exact if_pos rfl | (refine (if_neg (by decide)).trans ?_; first | assumption | exact if_pos rfl | (refine (if_neg (by decide)).trans ?_; first | assumption | exact if_pos rfl)))))); (case x11 => (first | assumption | exact if_pos rfl | (refine (if_neg (by decide)).trans ?_; first | assumption | exact if_pos rfl | (refine (if_neg (by decide)).trans ?_; first | assumption | exact if_pos rfl | (refine (if_neg (by decide)).trans ?_; first | assumption | exact if_pos rfl | (refine (if_neg (by decide)).trans ?_; first | assumption | exact if_pos rfl)))))); (case x12 => assumption); (case x13 => assumption); (case x14 => assumption); (case x15 => assumption); (case x16 => assumption); (case x17 => assumption); (case x18 => assumption); (case x19 => assumption); (case x20 => first | assumption | exact Or.inl rfl | exact Or.inr ⟨_, by assumption, by assumption, rfl⟩); (case x21 => first | assumption | exact Or.inl rfl | exact Or.inr ⟨_, by assumption, by assumption, rfl⟩); (case x22 => (first | assumption | exact if_pos rfl | (refine (if_neg (by decide)).trans ?_; first | assumption | exact if_pos rfl | (refine (if_neg (by decide)).trans ?_; first | assumption | exact if_pos rfl | (refine (if_neg (by decide)).trans ?_; first | assumption | exact if_pos rfl | (refine (if_neg (by decide)).trans ?_; first | assumption | exact if_pos rfl)))))); (case x23 => assumption); (case x24 => assumption); (case x25 => (first | assumption | exact if_pos rfl | (refine (if_neg (by decide)).trans ?_; first | assumption | exact if_pos rfl | (refine (if_neg (by decide)).trans ?_; first | assumption | exact if_pos rfl | (refine (if_neg (by decide)).trans ?_; first | assumption | exact if_pos rfl | (refine (if_neg (by decide)).trans ?_; first | assumption | exact if_pos rfl)))))); (case x26 => assumption); (case x27 => assumption)))) | ((with_reducible show wpAny _ _ (compareOp CmpOp.NotEq (Value.int _ _) (Value.int _ _)) _ _ _); (k_here; k_dflt (refine' ne_int_same ?e ?_; (case e => assumption)))) | ((with_reducible show wpAny _ _ (compareOp CmpOp.NotEq (Value.ref _) (Value.ref _)) _ _ _); first | (k_here; k_dflt (refine' ne_ints_nil ?N ?m1 ?m2 ?hi ?hu ?_; (case N => k_asm); (case m1 => k_mem); (case m2 => k_mem); (case hi => exact IntsAre.cons _ _ IntsAre.nil); (case hu => ktr_units)); (try simp only [ne_eq, reduceCtorEq, not_false_eq_true, decide_true])) | (k_here; k_dflt (refine' ne_strs_nil ?N ?m1 ?m2 ?hi ?hx ?hu ?_; (case N => k_asm); (case m1 => k_mem); (case m2 => k_mem); (case hi => exact StrsAre.nil); (case hx => exact List.forall_mem_nil _); (case hu => ktr_units)); (try simp only [ne_eq, not_true_eq_false, decide_false]))) | ((with_reducible show wpAny _ _ (newList _) _ _ _); (k_here; k_dflt (refine' newlist_K ?F ?N ?sz ?_; (case F => k_asm); (case N => k_asm); (case sz => decide)); (intro D9 h9 F9 N9 l9); (try simp only [List.cons_append, List.nil_append] at N9); (try dsimp only); (try k_fold); (try k_sweep))) | ((with_reducible show wpAny _ _ (exec (Stmt.Assign (_ :: _) (Expr.ListComp _ _ _ _) _) _) _ _ _); (k_here; k_dflt (refine Assign_fit (by k_asm) (by rfl) (by with_unfolding_all rfl) (by with_unfolding_all rfl) (by decide) (by rfl) (by decide) (by rfl) (by decide) (by rfl) (by rfl) ?_))) | ((with_reducible show wpAny _ _ (binaryOp Operator.Mod (Value.int _ _) (Value.int _ _)) _ _ _); (k_here; k_dflt (refine' mod_pos ?hb ?_; (case hb => decide)); intro t9; (try dsimp only))) | ((with_reducible show wpAny _ _ (subscriptTail _ _ _ _) _ _ _); first | (k_here; (with_reducible show wpAny _ _ (subscriptTail _ _ (Value.ref _) (Value.int _ _)) _ _ _); k_dflt (refine' item_tab ?N ?m ?i ?h0 ?hk ?fit ?_ ?hs ?hg; (case N => k_asm); (case m => k_mem); (case i => assumption); (case h0 => first | assumption | omega); (case fit => decide); (case hk => first | assumption | omega | (show _ < (20 : Int); omega) | (show _ < (19 : Int); omega)); (case hs => with_unfolding_all rfl); (case hg => intro _; with_unfolding_all rfl)); intro t9; (try dsimp only)) | (k_here; (with_reducible show wpAny _ _ (subscriptTail _ _ (Value.ref _) (Value.int 0 _)) _ _ _); k_dflt (refine' item_int ?N ?m ?_ ?hs ?hg; (case N => k_asm); (case m => k_mem); (case hs => with_unfolding_all rfl); (case hg => intro _; with_unfolding_all rfl)); intro t9; (try dsimp only)) | (k_here; (with_reducible show wpAny _ _ (subscriptTail _ _ (Value.ref _) (Value.int _ _)) _ _ _); (with_unfolding_all refine' item_anyK ?k1 ?k2 ?k3 ?k4 ?k5 ?_ ?k6; (case k1 => exact News.isList (by k_asm) (by k_mem)); (case k2 => assumption); (case k3 => decide); (case k4 => first | assumption | omega); (case k5 => decide); (case k6 => with_unfolding_all rfl); k_whole); intro t9; (try dsimp only))) | ((with_reducible show wpAny _ _ (eval (Expr.Name _ _) _) _ _ _); first | (k_here; refine' nameX_C ?N ?c ?m ?d ?_ ?k ?x ?b; (case k => exact rfl); (case x => exact rfl); (case b => decide); (case c => exact rfl); (case N => k_asm); (case m => k_mem); (case d => assumption)) | (k_here; refine' nameX_L ?F ?v ?_ ?k ?x ?d; (case k => exact rfl); (case x => exact rfl); (case d => decide); (case F => k_asm); (case v => (first | assumption | exact if_pos rfl | (refine (if_neg (by decide)).trans ?_; first | assumption | exact if_pos rfl | (refine (if_neg (by decide)).trans ?_; first | assumption | exact if_pos rfl | (refine (if_neg (by decide)).trans ?_; first | assumption | exact if_pos rfl | (refine (if_neg (by decide)).trans ?_; first | assumption | exact if_pos rfl)))))))) | ((with_reducible show wpAny _ _ (eval (Expr.Call (Expr.Name _ _) _ _ _) _) _ _ _); (k_here; refine Call_ ?_)) | walk1 | dsimp only | (leave1; try dsimp only))
      all_goals (first | assumption | exact (by ktr_rel))
    case fin =>
      intro D ys ns' h tk hys hns F' N'
      rw [pass_one hy hyu] at hns
      subst hns
      cases hys with
      | cons a t hys =>
        cases hys
        (try dsimp only at F' N')
        w_top off
        repeat' (first | (k_unfold; (try dsimp only)) | (k_end; wrow_close) | ((with_reducible show wpAny _ _ (call (Value.ref _) _) _ _ _); first | (k_here; (with_reducible show wpAny _ _ (call (Value.ref 135) [Value.int 0 _, _, _, Value.int _ _]) _ _ _); k_dflt (refine' CutA.use (a0_ok _ _ _ _ _ _ _ _ _ _ _ _ _ _) ?k1 ?k2 ?k3 ?k4 ?k6 ?k9 ?k7 ?k8 ?k5 ?kK ?kp ?kd ?ku ?kI ?kT ?_; (case k1 => k_asm); (case k2 => k_asm); (case k3 => k_asm); (case k4 => k_asm); (case k5 => k_asm); (case k7 => assumption); (case k6 => tb_rel); (case k9 => tb_start); (case k8 => assumption); (case kK => exact rfl); (case kp => (refine' ⟨?p0, ?p1, ?p2, ?p3, ?p4, ?p5⟩; (case p5 => assumption); (case p0 => first | assumption | omega); (case p1 => first | assumption | omega); (case p2 => first | assumption | omega); (case p3 => first | assumption | omega); (case p4 => first | assumption | omega))); (case kd => ktr_room); (case ku => ktr_units); (case kI => assumption); (case kT => assumption)); (intro v9 tl9 cc9 h9 g9 d9 tk9 r9 l9 hc9 F9 N9 G9); (obtain ⟨e9, t9, e8⟩ := r9); subst e9; subst e8; (simp only [List.cons_append, List.nil_append] at N9); clear l9; (try dsimp only); (try k_fold); (try k_sweep)) | (k_here; (first | (with_reducible show wpAny _ _ (call (Value.ref 128) []) _ _ _) | ((with_reducible show wpAny _ _ (call (Value.ref 128) ([] ++ [])) _ _ _); show wpAny _ _ (call (Value.ref 128) []) _ _ _)); k_dflt (refine' CutN.use (n_moons _ _ _ _) ?B ?F ?X ?N ?T ?k ?d ?u ?_; (case B => k_asm); (case F => k_asm); (case X => k_asm); (case N => k_asm); (case T => k_asm); (case k => exact rfl); (case d => ktr_room); (case u => ktr_units)); (intro D9 vs9 c9 h9 tk9 st9 l9 F9 N9); (try dsimp only); (try k_fold); (try k_sweep)) | (k_here; (first | (with_reducible show wpAny _ _ (call (Value.ref 121) []) _ _ _) | ((with_reducible show wpAny _ _ (call (Value.ref 121) ([] ++ [])) _ _ _); show wpAny _ _ (call (Value.ref 121) []) _ _ _)); k_dflt (refine' CutN.use (n_names _ _ _ _) ?B ?F ?X ?N ?T ?k ?d ?u ?_; (case B => k_asm); (case F => k_asm); (case X => k_asm); (case N => k_asm); (case T => k_asm); (case k => exact rfl); (case d => ktr_room); (case u => ktr_units)); (intro D9 vs9 c9 h9 tk9 st9 l9 F9 N9); (try dsimp only); (try k_fold); (try k_sweep))) | ((with_reducible show wpAny _ _ (execs (_ :: _) _) _ _ _); (k_here; (with_reducible show wpAny _ _ (execs [_, _, _, _, _] _) _ _ _); k_dflt (refine' seg27 _ _ _ _ _ _ _ _ _ _ _ _ _ _ _ _ _ _ _ _ _ _ _ _ _ _ _ _ _ _ _ _ _ _ _ _ _ _ _ _ _ _ _ _ _ _ _ _ _ _ _ _ _ _ _ _ ?hd ?hu ?hB ?hF ?hK ?hN ?hO ?hC ?hG ?hT ?hQ ?x0 ?x1 ?x2 ?x3 ?x4 ?x5 ?x6 ?x7 ?x8 ?x9 ?x10 ?x11 ?x12 ?x13 ?x14 ?x15 ?x16 ?x17 ?x18 ?x19 ?x20 ?x21 ?x22 ?x23 ?x24 ?x25 ?x26 ?x27; (case hF => k_asm); (case hN =>  ktr_rel); (case hC => assumption); (case hO => assumption); (case hB => assumption); (case hK => assumption); (case hG => assumption); (case hT => assumption); (case hQ => assumption); (case hd => assumption); (case hu => assumption); (case x0 => assumption); (case x1 => assumption); (case x2 => assumption); (case x3 => assumption); (case x4 => (first | assumption | exact if_pos rfl | (refine (if_neg (by decide)).trans ?_; first | assumption | exact if_pos rfl | (refine (if_neg (by decide)).trans ?_; first | assumption | exact if_pos rfl | (refine (if_neg (by decide)).trans ?_; first | assumption | exact if_pos rfl | (refine (if_neg (by decide)).trans ?_; first | assumption | exact if_pos rfl)))))); (case x5 => (first | assumption | exact if_pos rfl | (refine (if_neg (by decide)).trans ?_; first | assumption | exact if_pos rfl | (refine (if_neg (by decide)).trans ?_; first | assumption | exact if_pos rfl | (refine (if_neg (by decide)).trans ?_; first | assumption | exact if_pos rfl | (refine (if_neg (by decide)).trans ?_; first | assumption | exact if_pos rfl)))))); (case x6 => (first | assumption | exact if_pos rfl | (refine (if_neg (by decide)).trans ?_; first | assumption | exact if_pos rfl | (refine (if_neg (by decide)).trans ?_; first | assumption | exact if_pos rfl | (refine (if_neg (by decide)).trans ?_; first | assumption | exact if_pos rfl | (refine (if_neg (by decide)).trans ?_; first | assumption | exact if_pos rfl)))))); (case x7 => (first | assumption | exact if_pos rfl | (refine (if_neg (by decide)).trans ?_; first | assumption | exact if_pos rfl | (refine (if_neg (by decide)).trans ?_; first | assumption | exact if_pos rfl | (refine (if_neg (by decide)).trans ?_; first | assumption | exact if_pos rfl | (refine (if_neg (by decide)).trans ?_; first | assumption | exact if_pos rfl)))))); (case x8 => (first | assumption | exact if_pos rfl | (refine (if_neg (by decide)).trans ?_; first | assumption | exact if_pos rfl | (refine (if_neg (by decide)).trans ?_; first | assumption | exact if_pos rfl | (refine (if_neg (by decide)).trans ?_; first | assumption | exact if_pos rfl | (refine (if_neg (by decide)).trans ?_; first | assumption | exact if_pos rfl)))))); (case x9 => (first | assumption | exact if_pos rfl | (refine (if_neg (by decide)).trans ?_; first | assumption | exact if_pos rfl | (refine (if_neg (by decide)).trans ?_; first | assumption | exact if_pos rfl | (refine (if_neg (by decide)).trans ?_; first | assumption | exact if_pos rfl | (refine (if_neg (by decide)).trans ?_; first | assumption | exact if_pos rfl)))))); (case x10 => (first | assumption | exact if_pos rfl | (refine (if_neg (by decide)).trans ?_; first | assumption | exact if_pos rfl | (refine (if_neg (by decide)).trans ?_; first | assumption | exact if_pos rfl | (refine (if_neg (by decide)).trans ?_; first | assumption | exact if_pos rfl | (refine (if_neg (by decide)).trans ?_; first | assumption | exact if_pos rfl)))))); (case x11 => (first | assumption | exact if_pos rfl | (refine (if_neg (by decide)).trans ?_; first | assumption | exact if_pos rfl | (refine (if_neg (by decide)).trans ?_; first | assumption | exact if_pos rfl | (refine (if_neg (by decide)).trans ?_; first | assumption | exact if_pos rfl | (refine (if_neg (by decide)).trans ?_; first | assumption | exact if_pos rfl)))))); (case x12 => assumption); (case x13 => assumption); (case x14 => assumption); (case x15 => assumption); (case x16 => assumption); (case x17 => assumption); (case x18 => assumption); (case x19 => assumption); (case x20 => first | assumption | exact Or.inl rfl | exact Or.inr ⟨_, by assumption, by assumption, rfl⟩); (case x21 => first | assumption | exact Or.inl rfl | exact Or.inr ⟨_, by assumption, by assumption, rfl⟩); (case x22 => (first | assumption | exact if_pos rfl | (refine (if_neg (by decide)).trans ?_; first | assumption | exact if_pos rfl | (refine (if_neg (by decide)).trans ?_; first | assumption | exact if_pos rfl | (refine (if_neg (by decide)).trans ?_; first | assumption | exact if_pos rfl | (refine (if_neg (by decide)).trans ?_; first | assumption | exact if_pos rfl)))))); (case x23 => assumption); (case x24 => assumption); (case x25 => (first | assumption | exact if_pos rfl | (refine (if_neg (by decide)).trans ?_; first | assumption | exact if_pos rfl | (refine (if_neg (by decide)).trans ?_; first | assumption | exact if_pos rfl | (refine (if_neg (by decide)).trans ?_; first | assumption | exact if_pos rfl | (refine (if_neg (by decide)).trans ?_; first | assumption | exact if_pos rfl)))))); (case x26 => assumption); (case x27 => assumption)))) | ((with_reducible show wpAny _ _ (compareOp CmpOp.NotEq (Value.int _ _) (Value.int _ _)) _ _ _); (k_here; k_dflt (refine' ne_int_same ?e ?_; (case e => assumption)))) | ((with_reducible show wpAny _ _ (compareOp CmpOp.NotEq (Value.ref _) (Value.ref _)) _ _ _); first | (k_here; k_dflt (refine' ne_ints_nil ?N ?m1 ?m2 ?hi ?hu ?_; (case N => k_asm); (case m1 => k_mem); (case m2 => k_mem); (case hi => exact IntsAre.cons _ _ IntsAre.nil); (case hu => ktr_units)); (try simp only [ne_eq, reduceCtorEq, not_false_eq_true, decide_true])) | (k_here; k_dflt (refine' ne_strs_nil ?N ?m1 ?m2 ?hi ?hx ?hu ?_; (case N => k_asm); (case m1 => k_mem); (case m2 => k_mem); (case hi => exact StrsAre.nil); (case hx => exact List.forall_mem_nil _); (case hu => ktr_units)); (try simp only [ne_eq, not_true_eq_false, decide_false]))) | ((with_reducible show wpAny _ _ (newList _) _ _ _); (k_here; k_dflt (refine' newlist_K ?F ?N ?sz ?_; (case F => k_asm); (case N => k_asm); (case sz => decide)); (intro D9 h9 F9 N9 l9); (try simp only [List.cons_append, List.nil_append] at N9); (try dsimp only); (try k_fold); (try k_sweep))) | ((with_reducible show wpAny _ _ (exec (Stmt.Assign (_ :: _) (Expr.ListComp _ _ _ _) _) _) _ _ _); (k_here; k_dflt (refine Assign_fit (by k_asm) (by rfl) (by with_unfolding_all rfl) (by with_unfolding_all rfl) (by decide) (by rfl) (by decide) (by rfl) (by decide) (by rfl) (by rfl) ?_))) | ((with_reducible show wpAny _ _ (binaryOp Operator.Mod (Value.int _ _) (Value.int _ _)) _ _ _); (k_here; k_dflt (refine' mod_pos ?hb ?_; (case hb => decide)); intro t9; (try dsimp only))) | ((with_reducible show wpAny _ _ (subscriptTail _ _ _ _) _ _ _); first | (k_here; (with_reducible show wpAny _ _ (subscriptTail _ _ (Value.ref _) (Value.int _ _)) _ _ _); k_dflt (refine' item_tab ?N ?m ?i ?h0 ?hk ?fit ?_ ?hs ?hg; (case N => k_asm); (case m => k_mem); (case i => assumption); (case h0 => first | assumption | omega); (case fit => decide); (case hk => first | assumption | omega | (show _ < (20 : Int); omega) | (show _ < (19 : Int); omega)); (case hs => with_unfolding_all rfl); (case hg => intro _; with_unfolding_all rfl)); intro t9; (try dsimp only)) | (k_here; (with_reducible show wpAny _ _ (subscriptTail _ _ (Value.ref _) (Value.int 0 _)) _ _ _); k_dflt (refine' item_int ?N ?m ?_ ?hs ?hg; (case N => k_asm); (case m => k_mem); (case hs => with_unfolding_all rfl); (case hg => intro _; with_unfolding_all rfl)); intro t9; (try dsimp only)) | (k_here; (with_reducible show wpAny _ _ (subscriptTail _ _ (Value.ref _) (Value.int _ _)) _ _ _); (with_unfolding_all refine' item_anyK ?k1 ?k2 ?k3 ?k4 ?k5 ?_ ?k6; (case k1 => exact News.isList (by k_asm) (by k_mem)); (case k2 => assumption); (case k3 => decide); (case k4 => first | assumption | omega); (case k5 => decide); (case k6 => with_unfolding_all rfl); k_whole); intro t9; (try dsimp only))) | ((with_reducible show wpAny _ _ (eval (Expr.Name _ _) _) _ _ _); first | (k_here; refine' nameX_C ?N ?c ?m ?d ?_ ?k ?x ?b; (case k => exact rfl); (case x => exact rfl); (case b => decide); (case c => exact rfl); (case N => k_asm); (case m => k_mem); (case d => assumption)) | (k_here; refine' nameX_L ?F ?v ?_ ?k ?x ?d; (case k => exact rfl); (case x => exact rfl); (case d => decide); (case F => k_asm); (case v => (first | assumption | exact if_pos rfl | (refine (if_neg (by decide)).trans ?_; first | assumption | exact if_pos rfl | (refine (if_neg (by decide)).trans ?_; first | assumption | exact if_pos rfl | (refine (if_neg (by decide)).trans ?_; first | assumption | exact if_pos rfl | (refine (if_neg (by decide)).trans ?_; first | assumption | exact if_pos rfl)))))))) | ((with_reducible show wpAny _ _ (eval (Expr.Call (Expr.Name _ _) _ _ _) _) _ _ _); (k_here; refine Call_ ?_)) | walk1 | dsimp only | (leave1; try dsimp only))

end Mine
end
section
namespace Mine
set_option maxRecDepth 100000 in
set_option maxHeartbeats 8000000 in
theorem seg25 (w : World) (mean : ExcName → Option Value) (mg mb : Str → Option Value) (h₀ : Heap) (L c1 c2 : Addr) (ccd : Value) (m : Str → Option Value) (pre cc : List (Addr × Obj)) (s : Shared) (Q : Flow → Shared → Prop) (E : Value → Shared → Prop) (dp un : Nat) (gd : Option (List Code)) (o1 o2 : Obj) (D1 D2 D3 D4 Dn : Addr) (nd dd p : Int) (nn mm : Str) (u1 u2 u3 u4 u5 u6 u7 u8 tp tn tm td tl : Tok) (k1 k2 k3 k4 kn : Nat) (vs : List Value) (ns : List Int) (Da Db : Addr) (ka kb : Nat) (va vb : List Value)
    (hd1 : dp + 20 < recursionLimit) (hu1 : un + 200 < cLine) (hB : Below callerA h₀ [] h₀) (hF : Fr h₀ L s.heap m) (hK : (theK.heap_1 w.params).In h₀) (hN : News h₀ L s.heap (pre ++ cc)) (hO : PreOk pre) (hC : CC cc) (hG : AllBare s.gens) (hT : Top p0 lo0 mean mg mb h₀) (hQ : Done h₀ L s.os Q)
    (hc1 : (c1, o1) ∈ pre) (ho1 : o1.data = .cell (some (.int p tp))) (hc2 : (c2, o2) ∈ pre) (ho2 : o2.data = .cell (some (.ref D1))) (m1 : m "numbers" = some (.ref Dn)) (m2 : m "number" = some (.int (584283 + p) tn)) (m3 : m "haab" = some (.ref D2)) (m4 : m "month" = some (.str mm tm)) (m5 : m "day" = some (.int dd td)) (m6 : m "place" = some (.int ((348 + p) % 365) tl)) (m7 : m "here" = some (.ref D3)) (m8 : m "there" = some (.ref D4)) (n1 : (D1, tupO [.int nd u1, .str nn u2] k1) ∈ pre) (n2 : (D2, tupO [.int dd u3, .str mm u4] k2) ∈ pre) (n3 : (D3, tupO [.int (tDay p) u5, .str (tzS (tNam p)) u6] k3) ∈ pre) (n4 : (D4, tupO [.int (hDay p) u7, .str (haabS (hMon p)) u8] k4) ∈ pre) (nn0 : (Dn, W.listOf vs.toArray kn) ∈ pre) (hI : IntsAre vs ns) (hlen : (0 : Int) < ns.length) (hp : 0 ≤ p) (hnn : nn = "Nobody" ∨ ∃ i, 0 ≤ i ∧ i < 20 ∧ nn = tzS i) (hmm : mm = "Nobody" ∨ ∃ j, 0 ≤ j ∧ j < 19 ∧ mm = haabS j) (m9 : m "wrong_names" = some (.ref Da)) (na : (Da, W.listOf va.toArray ka) ∈ pre) (sa : StrsAre va (wnL nd nn)) (m10 : m "wrong_haab" = some (.ref Db)) (nb : (Db, W.listOf vb.toArray kb) ∈ pre) (sb : StrsAre vb (whL dd mm)) : Seg w 25 dp un gd L ccd [("names", c2), ("past", c1)] Q E s := by
  by_cases g2 : 1 ≤ nd ∧ nd ≤ 13
  · rcases hnn with hn | ⟨i, hi0, hi1, hn⟩
    · subst hn
      exact seg25_bad w mean mg mb h₀ L c1 c2 ccd m pre cc s Q E dp un gd o1 o2 D1 D2 D3 D4 Dn nd dd p _ mm u1 u2 u3 u4 u5 u6 u7 u8 tp tn tm td tl k1 k2 k3 k4 kn vs ns Da Db ka kb va vb "ValueError" _ hd1 hu1 hB hF hK hN hO hC hG hT hQ hc1 ho1 hc2 ho2 m1 m2 m3 m4 m5 m6 m7 m8 n1 n2 n3 n4 nn0 hI hlen hp (Or.inl rfl) hmm m9 na sa m10 nb sb (wn_ve rfl) (fun t => a0_nob w mean mg mb nd (.ref D2) D1 _ _ _ _ t _) ⟨by omega, g2.1, g2.2, n1⟩
    · exact seg25_ok w mean mg mb h₀ L c1 c2 ccd m pre cc s Q E dp un gd o1 o2 D1 D2 D3 D4 Dn nd dd p nn mm u1 u2 u3 u4 u5 u6 u7 u8 tp tn tm td tl k1 k2 k3 k4 kn vs ns Da Db ka kb va vb i hd1 hu1 hB hF hK hN hO hC hG hT hQ hc1 ho1 hc2 ho2 m1 m2 m3 m4 m5 m6 m7 m8 n1 n2 n3 n4 nn0 hI hlen hp hmm m9 na sa m10 nb sb g2.1 g2.2 hi0 hi1 hn
  · exact seg25_bad w mean mg mb h₀ L c1 c2 ccd m pre cc s Q E dp un gd o1 o2 D1 D2 D3 D4 Dn nd dd p nn mm u1 u2 u3 u4 u5 u6 u7 u8 tp tn tm td tl k1 k2 k3 k4 kn vs ns Da Db ka kb va vb "IndexError" _ hd1 hu1 hB hF hK hN hO hC hG hT hQ hc1 ho1 hc2 ho2 m1 m2 m3 m4 m5 m6 m7 m8 n1 n2 n3 n4 nn0 hI hlen hp hnn hmm m9 na sa m10 nb sb (wn_ie (by omega)) (fun t => a0_day w mean mg mb nd nn (.ref D2) D1 _ _ _ _ t _) ⟨by omega, by omega, n1⟩
end Mine
end
section
namespace Mine
/-- where a walk shall stop -/
def Stop (P : Prop) : Prop := P
theorem Stop.mk {P : Prop} (h : Stop P) : P := h
theorem Stop.out {P : Prop} (h : P) : Stop P := h
end Mine
end
section
namespace Mine
set_option maxRecDepth 100000 in
set_option maxHeartbeats 8000000 in
theorem seg24 (w : World) (mean : ExcName → Option Value) (mg mb : Str → Option Value) (h₀ : Heap) (L c1 c2 : Addr) (ccd : Value) (m : Str → Option Value) (pre cc : List (Addr × Obj)) (s : Shared) (Q : Flow → Shared → Prop) (E : Value → Shared → Prop) (dp un : Nat) (gd : Option (List Code)) (o1 o2 : Obj) (D1 D2 D3 D4 Dn : Addr) (nd dd p : Int) (nn mm : Str) (u1 u2 u3 u4 u5 u6 u7 u8 tp tn tm td tl : Tok) (k1 k2 k3 k4 kn : Nat) (vs : List Value) (ns : List Int) (Da : Addr) (ka : Nat) (va : List Value)
    (hd1 : dp + 20 < recursionLimit) (hu1 : un + 200 < cLine) (hB : Below callerA h₀ [] h₀) (hF : Fr h₀ L s.heap m) (hK : (theK.heap_1 w.params).In h₀) (hN : News h₀ L s.heap (pre ++ cc)) (hO : PreOk pre) (hC : CC cc) (hG : AllBare s.gens) (hT : Top p0 lo0 mean mg mb h₀) (hQ : Done h₀ L s.os Q)
    (hc1 : (c1, o1) ∈ pre) (ho1 : o1.data = .cell (some (.int p tp))) (hc2 : (c2, o2) ∈ pre) (ho2 : o2.data = .cell (some (.ref D1))) (m1 : m "numbers" = some (.ref Dn)) (m2 : m "number" = some (.int (584283 + p) tn)) (m3 : m "haab" = some (.ref D2)) (m4 : m "month" = some (.str mm tm)) (m5 : m "day" = some (.int dd td)) (m6 : m "place" = some (.int ((348 + p) % 365) tl)) (m7 : m "here" = some (.ref D3)) (m8 : m "there" = some (.ref D4)) (n1 : (D1, tupO [.int nd u1, .str nn u2] k1) ∈ pre) (n2 : (D2, tupO [.int dd u3, .str mm u4] k2) ∈ pre) (n3 : (D3, tupO [.int (tDay p) u5, .str (tzS (tNam p)) u6] k3) ∈ pre) (n4 : (D4, tupO [.int (hDay p) u7, .str (haabS (hMon p)) u8] k4) ∈ pre) (nn0 : (Dn, W.listOf vs.toArray kn) ∈ pre) (hI : IntsAre vs ns) (hlen : (0 : Int) < ns.length) (hp : 0 ≤ p) (hnn : nn = "Nobody" ∨ ∃ i, 0 ≤ i ∧ i < 20 ∧ nn = tzS i) (hmm : mm = "Nobody" ∨ ∃ j, 0 ≤ j ∧ j < 19 ∧ mm = haabS j) (m9 : m "wrong_names" = some (.ref Da)) (na : (Da, W.listOf va.toArray ka) ∈ pre) (sa : StrsAre va (wnL nd nn)) : Seg w 24 dp un gd L ccd [("names", c2), ("past", c1)] Q E s := by
  unfold Seg
  revert hK
  k_fill
  intro hK
  conv in (occs := *) (scopeAt w) => all_goals whnf
  refine wpAny_execs_cons ?_
  w_top off
  repeat' (first | (k_unfold; (try dsimp only)) | (k_end; wrow_close) | ((with_reducible show wpAny _ _ (binaryOp Operator.Add (Value.ref _) (Value.ref _)) _ _ _); (k_here; k_dflt (refine' add_lists_K ?F ?N ?m1 ?m2 ?sz ?_; (case F => k_asm); (case N => k_asm); (case m1 => k_mem); (case m2 => k_mem); (case sz => decide)); (intro D9 h9 F9 N9 l9); (try simp only [List.cons_append, List.nil_append] at N9); (try dsimp only); (try k_fold); (try k_sweep))) | ((with_reducible show wpAny _ _ (newList _) _ _ _); (k_here; k_dflt (refine' newlist_K ?F ?N ?sz ?_; (case F => k_asm); (case N => k_asm); (case sz => decide)); (intro D9 h9 F9 N9 l9); (try simp only [List.cons_append, List.nil_append] at N9); (try dsimp only); (try k_fold); (try k_sweep))) | ((with_reducible show wpAny _ _ (subscriptTail _ _ _ _) _ _ _); (k_here; (with_reducible show wpAny _ _ (subscriptTail _ _ (Value.ref _) (Value.int _ _)) _ _ _); (with_unfolding_all refine' item_anyK ?k1 ?k2 ?k3 ?k4 ?k5 ?_ ?k6; (case k1 => exact News.isList (by k_asm) (by k_mem)); (case k2 => assumption); (case k3 => decide); (case k4 => first | assumption | omega); (case k5 => decide); (case k6 => with_unfolding_all rfl); k_whole); intro t9; (try dsimp only))) | ((with_reducible show wpAny _ _ (eval (Expr.Name _ _) _) _ _ _); first | (k_here; refine' nameX_C ?N ?c ?m ?d ?_ ?k ?x ?b; (case k => exact rfl); (case x => exact rfl); (case b => decide); (case c => exact rfl); (case N => k_asm); (case m => k_mem); (case d => assumption)) | (k_here; refine' nameX_L ?F ?v ?_ ?k ?x ?d; (case k => exact rfl); (case x => exact rfl); (case d => decide); (case F => k_asm); (case v => (first | assumption | exact if_pos rfl | (refine (if_neg (by decide)).trans ?_; first | assumption | exact if_pos rfl | (refine (if_neg (by decide)).trans ?_; first | assumption | exact if_pos rfl | (refine (if_neg (by decide)).trans ?_; first | assumption | exact if_pos rfl | (refine (if_neg (by decide)).trans ?_; first | assumption | exact if_pos rfl)))))))) | ((with_reducible show wpAny _ _ (execs (_ :: _) _) _ _ _); (k_here; (with_reducible show wpAny _ _ (execs [_, _, _, _, _, _, _] _) _ _ _); (first | k_dflt (refine' seg25 _ _ _ _ _ _ _ _ _ _ (_ :: _) _ _ _ _ _ _ _ _ _ _ _ _ _ _ _ _ _ _ _ _ _ _ _ _ _ _ _ _ _ _ _ _ _ _ _ _ _ _ _ _ _ _ _ _ _ ?hd ?hu ?hB ?hF ?hK ?hN ?hO ?hC ?hG ?hT ?hQ ?x0 ?x1 ?x2 ?x3 ?x4 ?x5 ?x6 ?x7 ?x8 ?x9 ?x10 ?x11 ?x12 ?x13 ?x14 ?x15 ?x16 ?x17 ?x18 ?x19 ?x20 ?x21 ?x22 ?x23 ?x24 ?x25 ?x26 ?x27; (case x0 => first | assumption | exact List.Mem.tail _ (by assumption) | exact List.Mem.tail _ (List.Mem.tail _ (by assumption))); (case hF => k_asm); (case x25 => (first | assumption | exact if_pos rfl | (refine (if_neg (by decide)).trans ?_; first | assumption | exact if_pos rfl | (refine (if_neg (by decide)).trans ?_; first | assumption | exact if_pos rfl | (refine (if_neg (by decide)).trans ?_; first | assumption | exact if_pos rfl | (refine (if_neg (by decide)).trans ?_; first | assumption | exact if_pos rfl)))))); (case x26 => exact List.Mem.head _); (case hN =>  ktr_rel); (case hC => assumption); (case hO => tb_start); (case hB => assumption); (case hK => assumption); (case hG => assumption); (case hT => assumption); (case hQ => assumption); (case hd => assumption); (case hu => assumption); (case x1 => assumption); (case x2 => first | assumption | exact List.Mem.tail _ (by assumption) | exact List.Mem.tail _ (List.Mem.tail _ (by assumption))); (case x3 => assumption); (case x4 => (first | assumption | exact if_pos rfl | (refine (if_neg (by decide)).trans ?_; first | assumption | exact if_pos rfl | (refine (if_neg (by decide)).trans ?_; first | assumption | exact if_pos rfl | (refine (if_neg (by decide)).trans ?_; first | assumption | exact if_pos rfl | (refine (if_neg (by decide)).trans ?_; first | assumption | exact if_pos rfl)))))); (case x5 => (first | assumption | exact if_pos rfl | (refine (if_neg (by decide)).trans ?_; first | assumption | exact if_pos rfl | (refine (if_neg (by decide)).trans ?_; first | assumption | exact if_pos rfl | (refine (if_neg (by decide)).trans ?_; first | assumption | exact if_pos rfl | (refine (if_neg (by decide)).trans ?_; first | assumption | exact if_pos rfl)))))); (case x6 => (first | assumption | exact if_pos rfl | (refine (if_neg (by decide)).trans ?_; first | assumption | exact if_pos rfl | (refine (if_neg (by decide)).trans ?_; first | assumption | exact if_pos rfl | (refine (if_neg (by decide)).trans ?_; first | assumption | exact if_pos rfl | (refine (if_neg (by decide)).trans ?_; first | assumption | exact if_pos rfl)))))); (case x7 => (first | assumption | exact if_pos rfl | (refine (if_neg (by decide)).trans ?_; first | assumption | exact if_pos rfl | (refine (if_neg (by decide)).trans ?_; first | assumption | exact if_pos rfl | (refine (if_neg (by decide)).trans ?_; first | assumption | exact if_pos rfl | (refine (if_neg (by decide)).trans ?_; first | assumption | exact if_pos rfl)))))); (case x8 => (first | assumption | exact if_pos rfl | (refine (if_neg (by decide)).trans ?_; first | assumption | exact if_pos rfl | (refine (if_neg (by decide)).trans ?_; first | assumption | exact if_pos rfl | (refine (if_neg (by decide)).trans ?_; first | assumption | exact if_pos rfl | (refine (if_neg (by decide)).trans ?_; first | assumption | exact if_pos rfl)))))); (case x9 => (first | assumption | exact if_pos rfl | (refine (if_neg (by decide)).trans ?_; first | assumption | exact if_pos rfl | (refine (if_neg (by decide)).trans ?_; first | assumption | exact if_pos rfl | (refine (if_neg (by decide)).trans ?_; first | assumption | exact if_pos rfl | (refine (if_neg (by decide)).trans ?_; first | assumption | exact if_pos rfl)))))); (case x10 => (first | assumption | exact if_pos rfl | (refine (if_neg (by decide)).trans ?_; first | assumption | exact if_pos rfl | (refine (if_neg (by decide)).trans ?_; first | assumption | exact if_pos rfl | (refine (if_neg (by decide)).trans ?_; first | assumption | exact if_pos rfl | (refine (if_neg (by decide)).trans ?_; first | assumption | exact if_pos rfl)))))); (case x11 => (first | assumption | exact if_pos rfl | (refine (if_neg (by decide)).trans ?_; first | assumption | exact if_pos rfl | (refine (if_neg (by decide)).trans ?_; first | assumption | exact if_pos rfl | (refine (if_neg (by decide)).trans ?_; first | assumption | exact if_pos rfl | (refine (if_neg (by decide)).trans ?_; first | assumption | exact if_pos rfl)))))); (case x12 => first | assumption | exact List.Mem.tail _ (by assumption) | exact List.Mem.tail _ (List.Mem.tail _ (by assumption))); (case x13 => first | assumption | exact List.Mem.tail _ (by assumption) | exact List.Mem.tail _ (List.Mem.tail _ (by assumption))); (case x14 => first | assumption | exact List.Mem.tail _ (by assumption) | exact List.Mem.tail _ (List.Mem.tail _ (by assumption))); (case x15 => first | assumption | exact List.Mem.tail _ (by assumption) | exact List.Mem.tail _ (List.Mem.tail _ (by assumption))); (case x16 => first | assumption | exact List.Mem.tail _ (by assumption) | exact List.Mem.tail _ (List.Mem.tail _ (by assumption))); (case x17 => assumption); (case x18 => assumption); (case x19 => assumption); (case x20 => assumption); (case x21 => assumption); (case x22 => (first | assumption | exact if_pos rfl | (refine (if_neg (by decide)).trans ?_; first | assumption | exact if_pos rfl | (refine (if_neg (by decide)).trans ?_; first | assumption | exact if_pos rfl | (refine (if_neg (by decide)).trans ?_; first | assumption | exact if_pos rfl | (refine (if_neg (by decide)).trans ?_; first | assumption | exact if_pos rfl)))))); (case x23 => first | assumption | exact List.Mem.tail _ (by assumption) | exact List.Mem.tail _ (List.Mem.tail _ (by assumption))); (case x24 => assumption); (case x27 => (unfold whL; (first | rw [if_pos (by omega)] | rw [if_neg (by omega)]); (first | rw [if_pos (by first | assumption | exact eq_of_beq (by assumption))] | rw [if_neg (by first | assumption | exact ne_of_beq_false (by assumption))]); repeat constructor))) | refine Stop.mk ?_))) | ((with_reducible show wpAny _ _ (eval (Expr.Call (Expr.Name _ _) _ _ _) _) _ _ _); (k_here; refine Call_ ?_)) | walk1 | dsimp only | (leave1; try dsimp only))

end Mine
end
section
namespace Mine
set_option maxRecDepth 100000 in
set_option maxHeartbeats 8000000 in
theorem seg23 (w : World) (mean : ExcName → Option Value) (mg mb : Str → Option Value) (h₀ : Heap) (L c1 c2 : Addr) (ccd : Value) (m : Str → Option Value) (pre cc : List (Addr × Obj)) (s : Shared) (Q : Flow → Shared → Prop) (E : Value → Shared → Prop) (dp un : Nat) (gd : Option (List Code)) (o1 o2 : Obj) (D1 D2 D3 D4 Dn : Addr) (nd dd p : Int) (nn mm : Str) (u1 u2 u3 u4 u5 u6 u7 u8 tp tn tm td tl : Tok) (k1 k2 k3 k4 kn : Nat) (vs : List Value) (ns : List Int)
    (hd1 : dp + 20 < recursionLimit) (hu1 : un + 200 < cLine) (hB : Below callerA h₀ [] h₀) (hF : Fr h₀ L s.heap m) (hK : (theK.heap_1 w.params).In h₀) (hN : News h₀ L s.heap (pre ++ cc)) (hO : PreOk pre) (hC : CC cc) (hG : AllBare s.gens) (hT : Top p0 lo0 mean mg mb h₀) (hQ : Done h₀ L s.os Q)
    (hc1 : (c1, o1) ∈ pre) (ho1 : o1.data = .cell (some (.int p tp))) (hc2 : (c2, o2) ∈ pre) (ho2 : o2.data = .cell (some (.ref D1))) (m1 : m "numbers" = some (.ref Dn)) (m2 : m "number" = some (.int (584283 + p) tn)) (m3 : m "haab" = some (.ref D2)) (m4 : m "month" = some (.str mm tm)) (m5 : m "day" = some (.int dd td)) (m6 : m "place" = some (.int ((348 + p) % 365) tl)) (m7 : m "here" = some (.ref D3)) (m8 : m "there" = some (.ref D4)) (n1 : (D1, tupO [.int nd u1, .str nn u2] k1) ∈ pre) (n2 : (D2, tupO [.int dd u3, .str mm u4] k2) ∈ pre) (n3 : (D3, tupO [.int (tDay p) u5, .str (tzS (tNam p)) u6] k3) ∈ pre) (n4 : (D4, tupO [.int (hDay p) u7, .str (haabS (hMon p)) u8] k4) ∈ pre) (nn0 : (Dn, W.listOf vs.toArray kn) ∈ pre) (hI : IntsAre vs ns) (hlen : (0 : Int) < ns.length) (hp : 0 ≤ p) (hnn : nn = "Nobody" ∨ ∃ i, 0 ≤ i ∧ i < 20 ∧ nn = tzS i) (hmm : mm = "Nobody" ∨ ∃ j, 0 ≤ j ∧ j < 19 ∧ mm = haabS j) : Seg w 23 dp un gd L ccd [("names", c2), ("past", c1)] Q E s := by
  unfold Seg
  revert hK
  k_fill
  intro hK
  conv in (occs := *) (scopeAt w) => all_goals whnf
  refine wpAny_execs_cons ?_
  w_top off
  repeat' (first | (k_unfold; (try dsimp only)) | (k_end; wrow_close) | ((with_reducible show wpAny _ _ (binaryOp Operator.Add (Value.ref _) (Value.ref _)) _ _ _); (k_here; k_dflt (refine' add_lists_K ?F ?N ?m1 ?m2 ?sz ?_; (case F => k_asm); (case N => k_asm); (case m1 => k_mem); (case m2 => k_mem); (case sz => decide)); (intro D9 h9 F9 N9 l9); (try simp only [List.cons_append, List.nil_append] at N9); (try dsimp only); (try k_fold); (try k_sweep))) | ((with_reducible show wpAny _ _ (newList _) _ _ _); (k_here; k_dflt (refine' newlist_K ?F ?N ?sz ?_; (case F => k_asm); (case N => k_asm); (case sz => decide)); (intro D9 h9 F9 N9 l9); (try simp only [List.cons_append, List.nil_append] at N9); (try dsimp only); (try k_fold); (try k_sweep))) | ((with_reducible show wpAny _ _ (subscriptTail _ _ _ _) _ _ _); (k_here; (with_reducible show wpAny _ _ (subscriptTail _ _ (Value.ref _) (Value.int _ _)) _ _ _); (with_unfolding_all refine' item_anyK ?k1 ?k2 ?k3 ?k4 ?k5 ?_ ?k6; (case k1 => exact News.isList (by k_asm) (by k_mem)); (case k2 => assumption); (case k3 => decide); (case k4 => first | assumption | omega); (case k5 => decide); (case k6 => with_unfolding_all rfl); k_whole); intro t9; (try dsimp only))) | ((with_reducible show wpAny _ _ (eval (Expr.Name _ _) _) _ _ _); first | (k_here; refine' nameX_C ?N ?c ?m ?d ?_ ?k ?x ?b; (case k => exact rfl); (case x => exact rfl); (case b => decide); (case c => exact rfl); (case N => k_asm); (case m => k_mem); (case d => assumption)) | (k_here; refine' nameX_L ?F ?v ?_ ?k ?x ?d; (case k => exact rfl); (case x => exact rfl); (case d => decide); (case F => k_asm); (case v => (first | assumption | exact if_pos rfl | (refine (if_neg (by decide)).trans ?_; first | assumption | exact if_pos rfl | (refine (if_neg (by decide)).trans ?_; first | assumption | exact if_pos rfl | (refine (if_neg (by decide)).trans ?_; first | assumption | exact if_pos rfl | (refine (if_neg (by decide)).trans ?_; first | assumption | exact if_pos rfl)))))))) | ((with_reducible show wpAny _ _ (execs (_ :: _) _) _ _ _); (k_here; (with_reducible show wpAny _ _ (execs [_, _, _, _, _, _, _, _] _) _ _ _); (first | k_dflt (refine' seg24 _ _ _ _ _ _ _ _ _ _ (_ :: _) _ _ _ _ _ _ _ _ _ _ _ _ _ _ _ _ _ _ _ _ _ _ _ _ _ _ _ _ _ _ _ _ _ _ _ _ _ _ _ _ _ _ ?hd ?hu ?hB ?hF ?hK ?hN ?hO ?hC ?hG ?hT ?hQ ?x0 ?x1 ?x2 ?x3 ?x4 ?x5 ?x6 ?x7 ?x8 ?x9 ?x10 ?x11 ?x12 ?x13 ?x14 ?x15 ?x16 ?x17 ?x18 ?x19 ?x20 ?x21 ?x22 ?x23 ?x24; (case x0 => first | assumption | exact List.Mem.tail _ (by assumption) | exact List.Mem.tail _ (List.Mem.tail _ (by assumption))); (case hF => k_asm); (case x22 => (first | assumption | exact if_pos rfl | (refine (if_neg (by decide)).trans ?_; first | assumption | exact if_pos rfl | (refine (if_neg (by decide)).trans ?_; first | assumption | exact if_pos rfl | (refine (if_neg (by decide)).trans ?_; first | assumption | exact if_pos rfl | (refine (if_neg (by decide)).trans ?_; first | assumption | exact if_pos rfl)))))); (case x23 => exact List.Mem.head _); (case hN =>  ktr_rel); (case hC => assumption); (case hO => tb_start); (case hB => assumption); (case hK => assumption); (case hG => assumption); (case hT => assumption); (case hQ => assumption); (case hd => assumption); (case hu => assumption); (case x1 => assumption); (case x2 => first | assumption | exact List.Mem.tail _ (by assumption) | exact List.Mem.tail _ (List.Mem.tail _ (by assumption))); (case x3 => assumption); (case x4 => (first | assumption | exact if_pos rfl | (refine (if_neg (by decide)).trans ?_; first | assumption | exact if_pos rfl | (refine (if_neg (by decide)).trans ?_; first | assumption | exact if_pos rfl | (refine (if_neg (by decide)).trans ?_; first | assumption | exact if_pos rfl | (refine (if_neg (by decide)).trans ?_; first | assumption | exact if_pos rfl)))))); (case x5 => (first | assumption | exact if_pos rfl | (refine (if_neg (by decide)).trans ?_; first | assumption | exact if_pos rfl | (refine (if_neg (by decide)).trans ?_; first | assumption | exact if_pos rfl | (refine (if_neg (by decide)).trans ?_; first | assumption | exact if_pos rfl | (refine (if_neg (by decide)).trans ?_; first | assumption | exact if_pos rfl)))))); (case x6 => (first | assumption | exact if_pos rfl | (refine (if_neg (by decide)).trans ?_; first | assumption | exact if_pos rfl | (refine (if_neg (by decide)).trans ?_; first | assumption | exact if_pos rfl | (refine (if_neg (by decide)).trans ?_; first | assumption | exact if_pos rfl | (refine (if_neg (by decide)).trans ?_; first | assumption | exact if_pos rfl)))))); (case x7 => (first | assumption | exact if_pos rfl | (refine (if_neg (by decide)).trans ?_; first | assumption | exact if_pos rfl | (refine (if_neg (by decide)).trans ?_; first | assumption | exact if_pos rfl | (refine (if_neg (by decide)).trans ?_; first | assumption | exact if_pos rfl | (refine (if_neg (by decide)).trans ?_; first | assumption | exact if_pos rfl)))))); (case x8 => (first | assumption | exact if_pos rfl | (refine (if_neg (by decide)).trans ?_; first | assumption | exact if_pos rfl | (refine (if_neg (by decide)).trans ?_; first | assumption | exact if_pos rfl | (refine (if_neg (by decide)).trans ?_; first | assumption | exact if_pos rfl | (refine (if_neg (by decide)).trans ?_; first | assumption | exact if_pos rfl)))))); (case x9 => (first | assumption | exact if_pos rfl | (refine (if_neg (by decide)).trans ?_; first | assumption | exact if_pos rfl | (refine (if_neg (by decide)).trans ?_; first | assumption | exact if_pos rfl | (refine (if_neg (by decide)).trans ?_; first | assumption | exact if_pos rfl | (refine (if_neg (by decide)).trans ?_; first | assumption | exact if_pos rfl)))))); (case x10 => (first | assumption | exact if_pos rfl | (refine (if_neg (by decide)).trans ?_; first | assumption | exact if_pos rfl | (refine (if_neg (by decide)).trans ?_; first | assumption | exact if_pos rfl | (refine (if_neg (by decide)).trans ?_; first | assumption | exact if_pos rfl | (refine (if_neg (by decide)).trans ?_; first | assumption | exact if_pos rfl)))))); (case x11 => (first | assumption | exact if_pos rfl | (refine (if_neg (by decide)).trans ?_; first | assumption | exact if_pos rfl | (refine (if_neg (by decide)).trans ?_; first | assumption | exact if_pos rfl | (refine (if_neg (by decide)).trans ?_; first | assumption | exact if_pos rfl | (refine (if_neg (by decide)).trans ?_; first | assumption | exact if_pos rfl)))))); (case x12 => first | assumption | exact List.Mem.tail _ (by assumption) | exact List.Mem.tail _ (List.Mem.tail _ (by assumption))); (case x13 => first | assumption | exact List.Mem.tail _ (by assumption) | exact List.Mem.tail _ (List.Mem.tail _ (by assumption))); (case x14 => first | assumption | exact List.Mem.tail _ (by assumption) | exact List.Mem.tail _ (List.Mem.tail _ (by assumption))); (case x15 => first | assumption | exact List.Mem.tail _ (by assumption) | exact List.Mem.tail _ (List.Mem.tail _ (by assumption))); (case x16 => first | assumption | exact List.Mem.tail _ (by assumption) | exact List.Mem.tail _ (List.Mem.tail _ (by assumption))); (case x17 => assumption); (case x18 => assumption); (case x19 => assumption); (case x20 => assumption); (case x21 => assumption); (case x24 => (unfold wnL; (first | rw [if_pos (by omega)] | rw [if_neg (by omega)]); (first | rw [if_pos (by first | assumption | exact eq_of_beq (by assumption))] | rw [if_neg (by first | assumption | exact ne_of_beq_false (by assumption))]); repeat constructor))) | refine Stop.mk ?_))) | ((with_reducible show wpAny _ _ (eval (Expr.Call (Expr.Name _ _) _ _ _) _) _ _ _); (k_here; refine Call_ ?_)) | walk1 | dsimp only | (leave1; try dsimp only))

end Mine
end
section
set_option maxRecDepth 100000
namespace Mine
section
variable {prog : Program} {w : World} {A : Around} {E : Value → Shared → Prop} {s : Shared} {h₀ : Heap} {L : Addr} {m : Str → Option Value} {news : List (Addr × Obj)}
theorem str_small {n : Int} {t : Tok} {Q : Value → Shared → Prop} (h0 : 0 ≤ n) (h1 : n < 20) (h : ∀ t', Q (.str (dig n) t') { s with toks := s.toks + 1 }) : wpAny (model prog w) A (call (.type "str") [.int n t]) Q E s :=
  P.str_of_int (small_log h0 h1) (h _)
theorem add_str_n {x y : Str} {t u : Tok} {Q : Value → Shared → Prop} (n k : Nat) (hx : x.length ≤ n) (hy : y.length ≤ k) (hnk : n + k ≤ sizeLine) (h : (x ++ y).length ≤ n + k → ∀ t' tk, Q (.str (x ++ y) t') { s with toks := tk }) :
    wpAny (model prog w) A (binaryOp .Add (.str x t) (.str y u)) Q E s :=
  PyProof.Rows.add_str (hsz := Nat.le_trans (Nat.add_le_add hx hy) hnk) (h (by rw [PySem.Str.length_append]; exact Nat.add_le_add hx hy))
theorem ne_str_same {x y : Str} {t u : Tok} {Q : Value → Shared → Prop} (e : x = y) (h : Q (.bool false) s) : wpAny (model prog w) A (compareOp .NotEq (.str x t) (.str y u)) Q E s :=
  PyProof.Rows.ne_str (by rw [show (x != y) = false by simp [e]]; exact h)
end
theorem tDay_len (p : Int) : (dig (tDay p)).length ≤ 100 := small_len (by simp only [tDay]; omega) (by simp only [tDay]; omega)
theorem hDay_len (p : Int) : (dig (hDay p)).length ≤ 100 := small_len (by simp only [hDay, hPl]; omega) (by simp only [hDay, hPl]; omega)
theorem tNam_len (p : Int) : (tzS (tNam p)).length ≤ 100 := tzS_len (by simp only [tNam]; omega) (by simp only [tNam]; omega)
theorem hMon_len (p : Int) : (haabS (hMon p)).length ≤ 100 := haabS_len (by simp only [hMon, hPl]; omega) (by simp only [hMon, hPl]; omega)
theorem sp_len : sp.length ≤ 100 := by decide
end Mine
end
section
namespace Mine
set_option maxRecDepth 100000 in
set_option maxHeartbeats 8000000 in
theorem seg22 (w : World) (mean : ExcName → Option Value) (mg mb : Str → Option Value) (h₀ : Heap) (L c1 c2 : Addr) (ccd : Value) (m : Str → Option Value) (pre cc : List (Addr × Obj)) (s : Shared) (Q : Flow → Shared → Prop) (E : Value → Shared → Prop) (dp un : Nat) (gd : Option (List Code)) (o1 o2 : Obj) (D1 D2 D3 D4 Dn : Addr) (nd dd p : Int) (nn mm : Str) (u1 u2 u3 u4 u5 u6 u7 u8 tp tn tm td tl : Tok) (k1 k2 k3 k4 kn : Nat) (vs : List Value) (ns : List Int) (v1 v2 v3 v4 v5 : Tok)
    (hd1 : dp + 20 < recursionLimit) (hu1 : un + 200 < cLine) (hB : Below callerA h₀ [] h₀) (hF : Fr h₀ L s.heap m) (hK : (theK.heap_1 w.params).In h₀) (hN : News h₀ L s.heap (pre ++ cc)) (hO : PreOk pre) (hC : CC cc) (hG : AllBare s.gens) (hT : Top p0 lo0 mean mg mb h₀) (hQ : Done h₀ L s.os Q)
    (hc1 : (c1, o1) ∈ pre) (ho1 : o1.data = .cell (some (.int p tp))) (hc2 : (c2, o2) ∈ pre) (ho2 : o2.data = .cell (some (.ref D1))) (m1 : m "numbers" = some (.ref Dn)) (m2 : m "number" = some (.int (584283 + p) tn)) (m3 : m "haab" = some (.ref D2)) (m4 : m "month" = some (.str mm tm)) (m5 : m "day" = some (.int dd td)) (m6 : m "place" = some (.int ((348 + p) % 365) tl)) (m7 : m "here" = some (.ref D3)) (m8 : m "there" = some (.ref D4)) (n1 : (D1, tupO [.int nd u1, .str nn u2] k1) ∈ pre) (n2 : (D2, tupO [.int dd u3, .str mm u4] k2) ∈ pre) (n3 : (D3, tupO [.int (tDay p) u5, .str (tzS (tNam p)) u6] k3) ∈ pre) (n4 : (D4, tupO [.int (hDay p) u7, .str (haabS (hMon p)) u8] k4) ∈ pre) (nn0 : (Dn, W.listOf vs.toArray kn) ∈ pre) (hI : IntsAre vs ns) (hlen : (0 : Int) < ns.length) (hp : 0 ≤ p) (hnn : nn = "Nobody" ∨ ∃ i, 0 ≤ i ∧ i < 20 ∧ nn = tzS i) (hmm : mm = "Nobody" ∨ ∃ j, 0 ≤ j ∧ j < 19 ∧ mm = haabS j) (q1 : m "baktun" = some (.int (p / 20 / 18 / 20 / 20) v1)) (q2 : m "katun" = some (.int (p / 20 / 18 / 20 % 20) v2)) (q3 : m "tun" = some (.int (p / 20 / 18 % 20) v3)) (q4 : m "uinal" = some (.int (p / 20 % 18) v4)) (q5 : m "kin" = some (.int (p % 20) v5)) : Seg w 22 dp un gd L ccd [("names", c2), ("past", c1)] Q E s := by
  unfold Seg
  revert hK
  k_fill
  intro hK
  conv in (occs := *) (scopeAt w) => all_goals whnf
  refine wpAny_execs_cons ?_
  have hLC : 584283 + p / 20 / 18 / 20 / 20 * 144000 + p / 20 / 18 / 20 % 20 * 7200 + p / 20 / 18 % 20 * 360 + p / 20 % 18 * 20 + p % 20 = 584283 + p := by omega
  have hnum : (584283 : Int) + p - 584283 = p := by omega
  have y1 := tDay_len p
  have y2 := hDay_len p
  have y3 := tNam_len p
  have y4 := hMon_len p
  obtain ⟨z1, z2, _, _, z3, z4, _, _⟩ := hm_b p
  have z4 : tDay p < 20 := by omega
  have z3 : 0 ≤ tDay p := by omega
  w_top off
  repeat' (first | (k_unfold; (try dsimp only)) | (k_end; wrow_close) | ((with_reducible show wpAny _ _ (compareOp CmpOp.NotEq (Value.str _ _) (Value.str _ _)) _ _ _); (k_here; k_dflt (refine' ne_str_same ?e ?_; (case e => exact congrArg text4 (by omega))))) | ((with_reducible show wpAny _ _ (binaryOp Operator.Add (Value.str _ _) (Value.str _ _)) _ _ _); (k_here; k_dflt (refine' add_str_n _ _ ?hx ?hy ?hnk ?_; (case hx => first | assumption | exact sp_len); (case hy => first | assumption | exact sp_len); (case hnk => decide)); intro l9 t9 tk9; (try dsimp only))) | ((with_reducible show wpAny _ _ (call (Value.type _) _) _ _ _); (k_here; k_dflt (refine' str_small ?h0 ?h1 ?_; (case h0 => assumption); (case h1 => assumption)); intro t9; (try dsimp only))) | ((with_reducible show wpAny _ _ (call (Value.ref _) _) _ _ _); (k_here; (with_reducible show wpAny _ _ (call (Value.ref 79) [Value.int _ _, Value.int _ _, Value.int _ _, Value.int _ _, Value.int _ _]) _ _ _); k_dflt (refine' Cut.use (c_lcht _ _ _ _ _ _ _ _ _ _ _ _ _ _) ?k1 ?k2 ?k3 ?k4 ?k6 ?k9 ?k7 ?k8 ?k5 ?kK ?kp ?kd ?ku ?_; (case k1 => k_asm); (case k2 => k_asm); (case k3 => k_asm); (case k4 => k_asm); (case k5 => k_asm); (case k7 => assumption); (case k6 => tb_rel); (case k9 => tb_start); (case k8 => assumption); (case kK => first | exact rfl | assumption); (case kp => omega); (case kd => ktr_room); (case ku => ktr_units)); (intro v9 tl9 cc9 h9 g9 d9 tk9 r9 l9 hc9 F9 N9 G9); (obtain ⟨e9, t9, e8⟩ := r9); subst e9; subst e8; (simp only [List.cons_append, List.nil_append] at N9); clear l9; (try dsimp only); (try k_fold); (try k_sweep))) | ((with_reducible show wpAny _ _ (execs (_ :: _) _) _ _ _); (k_here; (with_reducible show wpAny _ _ (execs [_, _, _, _, _, _, _, _, _] _) _ _ _); (first | k_dflt (refine' seg23 _ _ _ _ _ _ _ _ _ _ _ _ _ _ _ _ _ _ _ _ _ _ _ _ _ _ _ _ _ _ _ _ _ _ _ _ _ _ _ _ _ _ _ _ _ _ _ _ _ _ ?hd ?hu ?hB ?hF ?hK ?hN ?hO ?hC ?hG ?hT ?hQ ?x0 ?x1 ?x2 ?x3 ?x4 ?x5 ?x6 ?x7 ?x8 ?x9 ?x10 ?x11 ?x12 ?x13 ?x14 ?x15 ?x16 ?x17 ?x18 ?x19 ?x20 ?x21; (case hF => k_asm); (case hN =>  ktr_rel); (case hC => assumption); (case hO => assumption); (case hB => assumption); (case hK => assumption); (case hG => assumption); (case hT => assumption); (case hQ => assumption); (case hd => assumption); (case hu => assumption); (case x0 => assumption); (case x1 => assumption); (case x2 => assumption); (case x3 => assumption); (case x4 => (first | assumption | exact if_pos rfl | (refine (if_neg (by decide)).trans ?_; first | assumption | exact if_pos rfl | (refine (if_neg (by decide)).trans ?_; first | assumption | exact if_pos rfl | (refine (if_neg (by decide)).trans ?_; first | assumption | exact if_pos rfl | (refine (if_neg (by decide)).trans ?_; first | assumption | exact if_pos rfl)))))); (case x5 => (first | assumption | exact if_pos rfl | (refine (if_neg (by decide)).trans ?_; first | assumption | exact if_pos rfl | (refine (if_neg (by decide)).trans ?_; first | assumption | exact if_pos rfl | (refine (if_neg (by decide)).trans ?_; first | assumption | exact if_pos rfl | (refine (if_neg (by decide)).trans ?_; first | assumption | exact if_pos rfl)))))); (case x6 => (first | assumption | exact if_pos rfl | (refine (if_neg (by decide)).trans ?_; first | assumption | exact if_pos rfl | (refine (if_neg (by decide)).trans ?_; first | assumption | exact if_pos rfl | (refine (if_neg (by decide)).trans ?_; first | assumption | exact if_pos rfl | (refine (if_neg (by decide)).trans ?_; first | assumption | exact if_pos rfl)))))); (case x7 => (first | assumption | exact if_pos rfl | (refine (if_neg (by decide)).trans ?_; first | assumption | exact if_pos rfl | (refine (if_neg (by decide)).trans ?_; first | assumption | exact if_pos rfl | (refine (if_neg (by decide)).trans ?_; first | assumption | exact if_pos rfl | (refine (if_neg (by decide)).trans ?_; first | assumption | exact if_pos rfl)))))); (case x8 => (first | assumption | exact if_pos rfl | (refine (if_neg (by decide)).trans ?_; first | assumption | exact if_pos rfl | (refine (if_neg (by decide)).trans ?_; first | assumption | exact if_pos rfl | (refine (if_neg (by decide)).trans ?_; first | assumption | exact if_pos rfl | (refine (if_neg (by decide)).trans ?_; first | assumption | exact if_pos rfl)))))); (case x9 => (first | assumption | exact if_pos rfl | (refine (if_neg (by decide)).trans ?_; first | assumption | exact if_pos rfl | (refine (if_neg (by decide)).trans ?_; first | assumption | exact if_pos rfl | (refine (if_neg (by decide)).trans ?_; first | assumption | exact if_pos rfl | (refine (if_neg (by decide)).trans ?_; first | assumption | exact if_pos rfl)))))); (case x10 => (first | assumption | exact if_pos rfl | (refine (if_neg (by decide)).trans ?_; first | assumption | exact if_pos rfl | (refine (if_neg (by decide)).trans ?_; first | assumption | exact if_pos rfl | (refine (if_neg (by decide)).trans ?_; first | assumption | exact if_pos rfl | (refine (if_neg (by decide)).trans ?_; first | assumption | exact if_pos rfl)))))); (case x11 => (first | assumption | exact if_pos rfl | (refine (if_neg (by decide)).trans ?_; first | assumption | exact if_pos rfl | (refine (if_neg (by decide)).trans ?_; first | assumption | exact if_pos rfl | (refine (if_neg (by decide)).trans ?_; first | assumption | exact if_pos rfl | (refine (if_neg (by decide)).trans ?_; first | assumption | exact if_pos rfl)))))); (case x12 => assumption); (case x13 => assumption); (case x14 => assumption); (case x15 => assumption); (case x16 => assumption); (case x17 => assumption); (case x18 => assumption); (case x19 => assumption); (case x20 => assumption); (case x21 => assumption)) | refine Stop.mk ?_))) | ((with_reducible show wpAny _ _ (compareOp CmpOp.NotEq (Value.int _ _) (Value.int _ _)) _ _ _); (k_here; k_dflt (refine' ne_int_same ?e ?_; (case e => omega)))) | ((with_reducible show wpAny _ _ (subscriptTail _ _ _ _) _ _ _); (k_here; (with_reducible show wpAny _ _ (subscriptTail _ _ (Value.ref _) (Value.int _ _)) _ _ _); (with_unfolding_all refine' item_anyK ?k1 ?k2 ?k3 ?k4 ?k5 ?_ ?k6; (case k1 => exact News.isList (by k_asm) (by k_mem)); (case k2 => assumption); (case k3 => decide); (case k4 => first | assumption | omega); (case k5 => decide); (case k6 => with_unfolding_all rfl); k_whole); intro t9; (try dsimp only))) | ((with_reducible show wpAny _ _ (eval (Expr.Name _ _) _) _ _ _); first | (k_here; refine' nameX_C ?N ?c ?m ?d ?_ ?k ?x ?b; (case k => exact rfl); (case x => exact rfl); (case b => decide); (case c => exact rfl); (case N => k_asm); (case m => k_mem); (case d => assumption)) | (k_here; refine' nameX_L ?F ?v ?_ ?k ?x ?d; (case k => exact rfl); (case x => exact rfl); (case d => decide); (case F => k_asm); (case v => (first | assumption | exact if_pos rfl | (refine (if_neg (by decide)).trans ?_; first | assumption | exact if_pos rfl | (refine (if_neg (by decide)).trans ?_; first | assumption | exact if_pos rfl | (refine (if_neg (by decide)).trans ?_; first | assumption | exact if_pos rfl | (refine (if_neg (by decide)).trans ?_; first | assumption | exact if_pos rfl)))))))) | ((with_reducible show wpAny _ _ (eval (Expr.Call (Expr.Name _ _) _ _ _) _) _ _ _); (k_here; refine Call_ ?_)) | walk1 | dsimp only | (leave1; try dsimp only))
  done
end Mine
end
section
namespace Mine
set_option maxRecDepth 100000 in
set_option maxHeartbeats 8000000 in
theorem seg21 (w : World) (mean : ExcName → Option Value) (mg mb : Str → Option Value) (h₀ : Heap) (L c1 c2 : Addr) (ccd : Value) (m : Str → Option Value) (pre cc : List (Addr × Obj)) (s : Shared) (Q : Flow → Shared → Prop) (E : Value → Shared → Prop) (dp un : Nat) (gd : Option (List Code)) (o1 o2 : Obj) (D1 D2 D3 D4 Dn : Addr) (nd dd p : Int) (nn mm : Str) (u1 u2 u3 u4 u5 u6 u7 u8 tp tn tm td tl : Tok) (k1 k2 k3 k4 kn : Nat) (vs : List Value) (ns : List Int) (v1 v2 v3 v4 v5 : Tok)
    (hd1 : dp + 20 < recursionLimit) (hu1 : un + 200 < cLine) (hB : Below callerA h₀ [] h₀) (hF : Fr h₀ L s.heap m) (hK : (theK.heap_1 w.params).In h₀) (hN : News h₀ L s.heap (pre ++ cc)) (hO : PreOk pre) (hC : CC cc) (hG : AllBare s.gens) (hT : Top p0 lo0 mean mg mb h₀) (hQ : Done h₀ L s.os Q)
    (hc1 : (c1, o1) ∈ pre) (ho1 : o1.data = .cell (some (.int p tp))) (hc2 : (c2, o2) ∈ pre) (ho2 : o2.data = .cell (some (.ref D1))) (m1 : m "numbers" = some (.ref Dn)) (m2 : m "number" = some (.int (584283 + p) tn)) (m3 : m "haab" = some (.ref D2)) (m4 : m "month" = some (.str mm tm)) (m5 : m "day" = some (.int dd td)) (m6 : m "place" = some (.int ((348 + p) % 365) tl)) (m7 : m "here" = some (.ref D3)) (m8 : m "there" = some (.ref D4)) (n1 : (D1, tupO [.int nd u1, .str nn u2] k1) ∈ pre) (n2 : (D2, tupO [.int dd u3, .str mm u4] k2) ∈ pre) (n3 : (D3, tupO [.int (tDay p) u5, .str (tzS (tNam p)) u6] k3) ∈ pre) (n4 : (D4, tupO [.int (hDay p) u7, .str (haabS (hMon p)) u8] k4) ∈ pre) (nn0 : (Dn, W.listOf vs.toArray kn) ∈ pre) (hI : IntsAre vs ns) (hlen : (0 : Int) < ns.length) (hp : 0 ≤ p) (hnn : nn = "Nobody" ∨ ∃ i, 0 ≤ i ∧ i < 20 ∧ nn = tzS i) (hmm : mm = "Nobody" ∨ ∃ j, 0 ≤ j ∧ j < 19 ∧ mm = haabS j) (q1 : m "baktun" = some (.int (p / 20 / 18 / 20 / 20) v1)) (q2 : m "katun" = some (.int (p / 20 / 18 / 20 % 20) v2)) (q3 : m "tun" = some (.int (p / 20 / 18 % 20) v3)) (q4 : m "uinal" = some (.int (p / 20 % 18) v4)) (q5 : m "kin" = some (.int (p % 20) v5)) : Seg w 21 dp un gd L ccd [("names", c2), ("past", c1)] Q E s := by
  unfold Seg
  revert hK
  k_fill
  intro hK
  conv in (occs := *) (scopeAt w) => all_goals whnf
  refine wpAny_execs_cons ?_
  have hLC : 584283 + p / 20 / 18 / 20 / 20 * 144000 + p / 20 / 18 / 20 % 20 * 7200 + p / 20 / 18 % 20 * 360 + p / 20 % 18 * 20 + p % 20 = 584283 + p := by omega
  have hnum : (584283 : Int) + p - 584283 = p := by omega
  w_top off
  repeat' (first | (k_unfold; (try dsimp only)) | (k_end; wrow_close) | ((with_reducible show wpAny _ _ (compareOp CmpOp.NotEq (Value.ref _) (Value.ref _)) _ _ _); (k_here; k_dflt (refine' ne_pair_same ?N ?m1 ?m2 ?hx ?e1 ?e2 ?hu ?_; (case N => k_asm); (case m1 => k_mem); (case m2 => k_mem); (case hx => first | exact tz_ok _ | exact hb_ok _); (case e1 => first | exact congrArg tDay (by omega) | exact congrArg hDay (by omega)); (case e2 => first | exact congrArg (fun x => tzS (tNam x)) (by omega) | exact congrArg (fun x => haabS (hMon x)) (by omega)); (case hu => ktr_units)))) | ((with_reducible show wpAny _ _ (call (Value.ref _) _) _ _ _); first | (k_here; (with_reducible show wpAny _ _ (call (Value.ref 72) [Value.int _ _, Value.int _ _, Value.int _ _, Value.int _ _, Value.int _ _]) _ _ _); k_dflt (refine' Cut.use (c_lc_to_tzolkin _ _ _ _ _ _ _ _ _ _ _ _ _ _) ?k1 ?k2 ?k3 ?k4 ?k6 ?k9 ?k7 ?k8 ?k5 ?kK ?kp ?kd ?ku ?_; (case k1 => k_asm); (case k2 => k_asm); (case k3 => k_asm); (case k4 => k_asm); (case k5 => k_asm); (case k7 => assumption); (case k6 => tb_rel); (case k9 => tb_start); (case k8 => assumption); (case kK => first | exact rfl | assumption); (case kp => omega); (case kd => ktr_room); (case ku => ktr_units)); (intro v9 tl9 cc9 h9 g9 d9 tk9 r9 l9 hc9 F9 N9 G9); (obtain ⟨D9, t90, t91, c9, e9, e8⟩ := r9); subst e9; subst e8; (simp only [List.cons_append, List.nil_append] at N9); (replace l9 := fun q hq => l9 q hq _ (List.Mem.head _)); (try dsimp only at l9); (try k_lt l9); (try dsimp only); (try k_fold); (try k_sweep)) | (k_here; (with_reducible show wpAny _ _ (call (Value.ref 65) [Value.int _ _, Value.int _ _, Value.int _ _, Value.int _ _, Value.int _ _]) _ _ _); k_dflt (refine' Cut.use (c_lc_to_haab _ _ _ _ _ _ _ _ _ _ _ _ _ _) ?k1 ?k2 ?k3 ?k4 ?k6 ?k9 ?k7 ?k8 ?k5 ?kK ?kp ?kd ?ku ?_; (case k1 => k_asm); (case k2 => k_asm); (case k3 => k_asm); (case k4 => k_asm); (case k5 => k_asm); (case k7 => assumption); (case k6 => tb_rel); (case k9 => tb_start); (case k8 => assumption); (case kK => first | exact rfl | assumption); (case kp => omega); (case kd => ktr_room); (case ku => ktr_units)); (intro v9 tl9 cc9 h9 g9 d9 tk9 r9 l9 hc9 F9 N9 G9); (obtain ⟨D9, t90, t91, c9, e9, e8⟩ := r9); subst e9; subst e8; (simp only [List.cons_append, List.nil_append] at N9); (replace l9 := fun q hq => l9 q hq _ (List.Mem.head _)); (try dsimp only at l9); (try k_lt l9); (try dsimp only); (try k_fold); (try k_sweep))) | ((with_reducible show wpAny _ _ (execs (_ :: _) _) _ _ _); (k_here; (with_reducible show wpAny _ _ (execs [_, _, _, _, _, _, _, _, _, _] _) _ _ _); (first | k_dflt (refine' seg22 _ _ _ _ _ _ _ _ _ _ _ _ _ _ _ _ _ _ _ _ _ _ _ _ _ _ _ _ _ _ _ _ _ _ _ _ _ _ _ _ _ _ _ _ _ _ _ _ _ _ _ _ _ _ _ ?hd ?hu ?hB ?hF ?hK ?hN ?hO ?hC ?hG ?hT ?hQ ?x0 ?x1 ?x2 ?x3 ?x4 ?x5 ?x6 ?x7 ?x8 ?x9 ?x10 ?x11 ?x12 ?x13 ?x14 ?x15 ?x16 ?x17 ?x18 ?x19 ?x20 ?x21 ?x22 ?x23 ?x24 ?x25 ?x26; (case hF => k_asm); (case hN =>  ktr_rel); (case hC => assumption); (case hO => assumption); (case hB => assumption); (case hK => assumption); (case hG => assumption); (case hT => assumption); (case hQ => assumption); (case hd => assumption); (case hu => assumption); (case x0 => assumption); (case x1 => assumption); (case x2 => assumption); (case x3 => assumption); (case x4 => (first | assumption | exact if_pos rfl | (refine (if_neg (by decide)).trans ?_; first | assumption | exact if_pos rfl | (refine (if_neg (by decide)).trans ?_; first | assumption | exact if_pos rfl | (refine (if_neg (by decide)).trans ?_; first | assumption | exact if_pos rfl | (refine (if_neg (by decide)).trans ?_; first | assumption | exact if_pos rfl)))))); (case x5 => (first | assumption | exact if_pos rfl | (refine (if_neg (by decide)).trans ?_; first | assumption | exact if_pos rfl | (refine (if_neg (by decide)).trans ?_; first | assumption | exact if_pos rfl | (refine (if_neg (by decide)).trans ?_; first | assumption | exact if_pos rfl | (refine (if_neg (by decide)).trans ?_; first | assumption | exact if_pos rfl)))))); (case x6 => (first | assumption | exact if_pos rfl | (refine (if_neg (by decide)).trans ?_; first | assumption | exact if_pos rfl | (refine (if_neg (by decide)).trans ?_; first | assumption | exact if_pos rfl | (refine (if_neg (by decide)).trans ?_; first | assumption | exact if_pos rfl | (refine (if_neg (by decide)).trans ?_; first | assumption | exact if_pos rfl)))))); (case x7 => (first | assumption | exact if_pos rfl | (refine (if_neg (by decide)).trans ?_; first | assumption | exact if_pos rfl | (refine (if_neg (by decide)).trans ?_; first | assumption | exact if_pos rfl | (refine (if_neg (by decide)).trans ?_; first | assumption | exact if_pos rfl | (refine (if_neg (by decide)).trans ?_; first | assumption | exact if_pos rfl)))))); (case x8 => (first | assumption | exact if_pos rfl | (refine (if_neg (by decide)).trans ?_; first | assumption | exact if_pos rfl | (refine (if_neg (by decide)).trans ?_; first | assumption | exact if_pos rfl | (refine (if_neg (by decide)).trans ?_; first | assumption | exact if_pos rfl | (refine (if_neg (by decide)).trans ?_; first | assumption | exact if_pos rfl)))))); (case x9 => (first | assumption | exact if_pos rfl | (refine (if_neg (by decide)).trans ?_; first | assumption | exact if_pos rfl | (refine (if_neg (by decide)).trans ?_; first | assumption | exact if_pos rfl | (refine (if_neg (by decide)).trans ?_; first | assumption | exact if_pos rfl | (refine (if_neg (by decide)).trans ?_; first | assumption | exact if_pos rfl)))))); (case x10 => (first | assumption | exact if_pos rfl | (refine (if_neg (by decide)).trans ?_; first | assumption | exact if_pos rfl | (refine (if_neg (by decide)).trans ?_; first | assumption | exact if_pos rfl | (refine (if_neg (by decide)).trans ?_; first | assumption | exact if_pos rfl | (refine (if_neg (by decide)).trans ?_; first | assumption | exact if_pos rfl)))))); (case x11 => (first | assumption | exact if_pos rfl | (refine (if_neg (by decide)).trans ?_; first | assumption | exact if_pos rfl | (refine (if_neg (by decide)).trans ?_; first | assumption | exact if_pos rfl | (refine (if_neg (by decide)).trans ?_; first | assumption | exact if_pos rfl | (refine (if_neg (by decide)).trans ?_; first | assumption | exact if_pos rfl)))))); (case x12 => assumption); (case x13 => assumption); (case x14 => assumption); (case x15 => assumption); (case x16 => assumption); (case x17 => assumption); (case x18 => assumption); (case x19 => assumption); (case x20 => assumption); (case x21 => assumption); (case x22 => (first | assumption | exact if_pos rfl | (refine (if_neg (by decide)).trans ?_; first | assumption | exact if_pos rfl | (refine (if_neg (by decide)).trans ?_; first | assumption | exact if_pos rfl | (refine (if_neg (by decide)).trans ?_; first | assumption | exact if_pos rfl | (refine (if_neg (by decide)).trans ?_; first | assumption | exact if_pos rfl)))))); (case x23 => (first | assumption | exact if_pos rfl | (refine (if_neg (by decide)).trans ?_; first | assumption | exact if_pos rfl | (refine (if_neg (by decide)).trans ?_; first | assumption | exact if_pos rfl | (refine (if_neg (by decide)).trans ?_; first | assumption | exact if_pos rfl | (refine (if_neg (by decide)).trans ?_; first | assumption | exact if_pos rfl)))))); (case x24 => (first | assumption | exact if_pos rfl | (refine (if_neg (by decide)).trans ?_; first | assumption | exact if_pos rfl | (refine (if_neg (by decide)).trans ?_; first | assumption | exact if_pos rfl | (refine (if_neg (by decide)).trans ?_; first | assumption | exact if_pos rfl | (refine (if_neg (by decide)).trans ?_; first | assumption | exact if_pos rfl)))))); (case x25 => (first | assumption | exact if_pos rfl | (refine (if_neg (by decide)).trans ?_; first | assumption | exact if_pos rfl | (refine (if_neg (by decide)).trans ?_; first | assumption | exact if_pos rfl | (refine (if_neg (by decide)).trans ?_; first | assumption | exact if_pos rfl | (refine (if_neg (by decide)).trans ?_; first | assumption | exact if_pos rfl)))))); (case x26 => (first | assumption | exact if_pos rfl | (refine (if_neg (by decide)).trans ?_; first | assumption | exact if_pos rfl | (refine (if_neg (by decide)).trans ?_; first | assumption | exact if_pos rfl | (refine (if_neg (by decide)).trans ?_; first | assumption | exact if_pos rfl | (refine (if_neg (by decide)).trans ?_; first | assumption | exact if_pos rfl))))))) | refine Stop.mk ?_))) | ((with_reducible show wpAny _ _ (compareOp CmpOp.NotEq (Value.int _ _) (Value.int _ _)) _ _ _); (k_here; k_dflt (refine' ne_int_same ?e ?_; (case e => omega)))) | ((with_reducible show wpAny _ _ (subscriptTail _ _ _ _) _ _ _); (k_here; (with_reducible show wpAny _ _ (subscriptTail _ _ (Value.ref _) (Value.int _ _)) _ _ _); (with_unfolding_all refine' item_anyK ?k1 ?k2 ?k3 ?k4 ?k5 ?_ ?k6; (case k1 => exact News.isList (by k_asm) (by k_mem)); (case k2 => assumption); (case k3 => decide); (case k4 => first | assumption | omega); (case k5 => decide); (case k6 => with_unfolding_all rfl); k_whole); intro t9; (try dsimp only))) | ((with_reducible show wpAny _ _ (eval (Expr.Name _ _) _) _ _ _); first | (k_here; refine' nameX_C ?N ?c ?m ?d ?_ ?k ?x ?b; (case k => exact rfl); (case x => exact rfl); (case b => decide); (case c => exact rfl); (case N => k_asm); (case m => k_mem); (case d => assumption)) | (k_here; refine' nameX_L ?F ?v ?_ ?k ?x ?d; (case k => exact rfl); (case x => exact rfl); (case d => decide); (case F => k_asm); (case v => (first | assumption | exact if_pos rfl | (refine (if_neg (by decide)).trans ?_; first | assumption | exact if_pos rfl | (refine (if_neg (by decide)).trans ?_; first | assumption | exact if_pos rfl | (refine (if_neg (by decide)).trans ?_; first | assumption | exact if_pos rfl | (refine (if_neg (by decide)).trans ?_; first | assumption | exact if_pos rfl)))))))) | ((with_reducible show wpAny _ _ (eval (Expr.Call (Expr.Name _ _) _ _ _) _) _ _ _); (k_here; refine Call_ ?_)) | walk1 | dsimp only | (leave1; try dsimp only))
  done
end Mine
end
section
namespace Mine
set_option maxRecDepth 100000 in
set_option maxHeartbeats 8000000 in
theorem seg20 (w : World) (mean : ExcName → Option Value) (mg mb : Str → Option Value) (h₀ : Heap) (L c1 c2 : Addr) (ccd : Value) (m : Str → Option Value) (pre cc : List (Addr × Obj)) (s : Shared) (Q : Flow → Shared → Prop) (E : Value → Shared → Prop) (dp un : Nat) (gd : Option (List Code)) (o1 o2 : Obj) (D1 D2 D3 D4 Dn : Addr) (nd dd p : Int) (nn mm : Str) (u1 u2 u3 u4 u5 u6 u7 u8 tp tn tm td tl : Tok) (k1 k2 k3 k4 kn : Nat) (vs : List Value) (ns : List Int) (v1 v2 v3 v4 v5 : Tok)
    (hd1 : dp + 20 < recursionLimit) (hu1 : un + 200 < cLine) (hB : Below callerA h₀ [] h₀) (hF : Fr h₀ L s.heap m) (hK : (theK.heap_1 w.params).In h₀) (hN : News h₀ L s.heap (pre ++ cc)) (hO : PreOk pre) (hC : CC cc) (hG : AllBare s.gens) (hT : Top p0 lo0 mean mg mb h₀) (hQ : Done h₀ L s.os Q)
    (hc1 : (c1, o1) ∈ pre) (ho1 : o1.data = .cell (some (.int p tp))) (hc2 : (c2, o2) ∈ pre) (ho2 : o2.data = .cell (some (.ref D1))) (m1 : m "numbers" = some (.ref Dn)) (m2 : m "number" = some (.int (584283 + p) tn)) (m3 : m "haab" = some (.ref D2)) (m4 : m "month" = some (.str mm tm)) (m5 : m "day" = some (.int dd td)) (m6 : m "place" = some (.int ((348 + p) % 365) tl)) (m7 : m "here" = some (.ref D3)) (m8 : m "there" = some (.ref D4)) (n1 : (D1, tupO [.int nd u1, .str nn u2] k1) ∈ pre) (n2 : (D2, tupO [.int dd u3, .str mm u4] k2) ∈ pre) (n3 : (D3, tupO [.int (tDay p) u5, .str (tzS (tNam p)) u6] k3) ∈ pre) (n4 : (D4, tupO [.int (hDay p) u7, .str (haabS (hMon p)) u8] k4) ∈ pre) (nn0 : (Dn, W.listOf vs.toArray kn) ∈ pre) (hI : IntsAre vs ns) (hlen : (0 : Int) < ns.length) (hp : 0 ≤ p) (hnn : nn = "Nobody" ∨ ∃ i, 0 ≤ i ∧ i < 20 ∧ nn = tzS i) (hmm : mm = "Nobody" ∨ ∃ j, 0 ≤ j ∧ j < 19 ∧ mm = haabS j) (q1 : m "baktun" = some (.int (p / 20 / 18 / 20 / 20) v1)) (q2 : m "katun" = some (.int (p / 20 / 18 / 20 % 20) v2)) (q3 : m "tun" = some (.int (p / 20 / 18 % 20) v3)) (q4 : m "uinal" = some (.int (p / 20 % 18) v4)) (q5 : m "kin" = some (.int (p % 20) v5)) : Seg w 20 dp un gd L ccd [("names", c2), ("past", c1)] Q E s := by
  unfold Seg
  revert hK
  k_fill
  intro hK
  conv in (occs := *) (scopeAt w) => all_goals whnf
  refine wpAny_execs_cons ?_
  have hLC : 584283 + p / 20 / 18 / 20 / 20 * 144000 + p / 20 / 18 / 20 % 20 * 7200 + p / 20 / 18 % 20 * 360 + p / 20 % 18 * 20 + p % 20 = 584283 + p := by omega
  have hnum : (584283 : Int) + p - 584283 = p := by omega
  w_top off
  repeat' (first | (k_unfold; (try dsimp only)) | (k_end; wrow_close) | ((with_reducible show wpAny _ _ (compareOp CmpOp.NotEq (Value.ref _) (Value.ref _)) _ _ _); (k_here; k_dflt (refine' ne_pair_same ?N ?m1 ?m2 ?hx ?e1 ?e2 ?hu ?_; (case N => k_asm); (case m1 => k_mem); (case m2 => k_mem); (case hx => first | exact tz_ok _ | exact hb_ok _); (case e1 => first | exact congrArg tDay (by omega) | exact congrArg hDay (by omega)); (case e2 => first | exact congrArg (fun x => tzS (tNam x)) (by omega) | exact congrArg (fun x => haabS (hMon x)) (by omega)); (case hu => ktr_units)))) | ((with_reducible show wpAny _ _ (call (Value.ref _) _) _ _ _); first | (k_here; (with_reducible show wpAny _ _ (call (Value.ref 58) [Value.int _ _]) _ _ _); k_dflt (refine' Cut.use (c_to_tzolkin _ _ _ _ _ _) ?k1 ?k2 ?k3 ?k4 ?k6 ?k9 ?k7 ?k8 ?k5 ?kK ?kp ?kd ?ku ?_; (case k1 => k_asm); (case k2 => k_asm); (case k3 => k_asm); (case k4 => k_asm); (case k5 => k_asm); (case k7 => assumption); (case k6 => tb_rel); (case k9 => tb_start); (case k8 => assumption); (case kK => first | exact rfl | assumption); (case kp => (first | trivial | assumption | omega | l_fact)); (case kd => ktr_room); (case ku => ktr_units)); (intro v9 tl9 cc9 h9 g9 d9 tk9 r9 l9 hc9 F9 N9 G9); (obtain ⟨D9, t90, t91, c9, e9, e8⟩ := r9); subst e9; subst e8; (simp only [List.cons_append, List.nil_append] at N9); (replace l9 := fun q hq => l9 q hq _ (List.Mem.head _)); (try dsimp only at l9); (try k_lt l9); (try dsimp only); (try k_fold); (try k_sweep)) | (k_here; (with_reducible show wpAny _ _ (call (Value.ref 51) [Value.int _ _]) _ _ _); k_dflt (refine' Cut.use (c_to_haab _ _ _ _ _ _) ?k1 ?k2 ?k3 ?k4 ?k6 ?k9 ?k7 ?k8 ?k5 ?kK ?kp ?kd ?ku ?_; (case k1 => k_asm); (case k2 => k_asm); (case k3 => k_asm); (case k4 => k_asm); (case k5 => k_asm); (case k7 => assumption); (case k6 => tb_rel); (case k9 => tb_start); (case k8 => assumption); (case kK => first | exact rfl | assumption); (case kp => (first | trivial | assumption | omega | l_fact)); (case kd => ktr_room); (case ku => ktr_units)); (intro v9 tl9 cc9 h9 g9 d9 tk9 r9 l9 hc9 F9 N9 G9); (obtain ⟨D9, t90, t91, c9, e9, e8⟩ := r9); subst e9; subst e8; (simp only [List.cons_append, List.nil_append] at N9); (replace l9 := fun q hq => l9 q hq _ (List.Mem.head _)); (try dsimp only at l9); (try k_lt l9); (try dsimp only); (try k_fold); (try k_sweep))) | ((with_reducible show wpAny _ _ (execs (_ :: _) _) _ _ _); (k_here; (with_reducible show wpAny _ _ (execs [_, _, _, _, _, _, _, _, _, _, _] _) _ _ _); (first | k_dflt (refine' seg21 _ _ _ _ _ _ _ _ _ _ _ _ _ _ _ _ _ _ _ _ _ _ _ _ _ _ _ _ _ _ _ _ _ _ _ _ _ _ _ _ _ _ _ _ _ _ _ _ _ _ _ _ _ _ _ ?hd ?hu ?hB ?hF ?hK ?hN ?hO ?hC ?hG ?hT ?hQ ?x0 ?x1 ?x2 ?x3 ?x4 ?x5 ?x6 ?x7 ?x8 ?x9 ?x10 ?x11 ?x12 ?x13 ?x14 ?x15 ?x16 ?x17 ?x18 ?x19 ?x20 ?x21 ?x22 ?x23 ?x24 ?x25 ?x26; (case hF => k_asm); (case hN =>  ktr_rel); (case hC => assumption); (case hO => assumption); (case hB => assumption); (case hK => assumption); (case hG => assumption); (case hT => assumption); (case hQ => assumption); (case hd => assumption); (case hu => assumption); (case x0 => assumption); (case x1 => assumption); (case x2 => assumption); (case x3 => assumption); (case x4 => (first | assumption | exact if_pos rfl | (refine (if_neg (by decide)).trans ?_; first | assumption | exact if_pos rfl | (refine (if_neg (by decide)).trans ?_; first | assumption | exact if_pos rfl | (refine (if_neg (by decide)).trans ?_; first | assumption | exact if_pos rfl | (refine (if_neg (by decide)).trans ?_; first | assumption | exact if_pos rfl)))))); (case x5 => (first | assumption | exact if_pos rfl | (refine (if_neg (by decide)).trans ?_; first | assumption | exact if_pos rfl | (refine (if_neg (by decide)).trans ?_; first | assumption | exact if_pos rfl | (refine (if_neg (by decide)).trans ?_; first | assumption | exact if_pos rfl | (refine (if_neg (by decide)).trans ?_; first | assumption | exact if_pos rfl)))))); (case x6 => (first | assumption | exact if_pos rfl | (refine (if_neg (by decide)).trans ?_; first | assumption | exact if_pos rfl | (refine (if_neg (by decide)).trans ?_; first | assumption | exact if_pos rfl | (refine (if_neg (by decide)).trans ?_; first | assumption | exact if_pos rfl | (refine (if_neg (by decide)).trans ?_; first | assumption | exact if_pos rfl)))))); (case x7 => (first | assumption | exact if_pos rfl | (refine (if_neg (by decide)).trans ?_; first | assumption | exact if_pos rfl | (refine (if_neg (by decide)).trans ?_; first | assumption | exact if_pos rfl | (refine (if_neg (by decide)).trans ?_; first | assumption | exact if_pos rfl | (refine (if_neg (by decide)).trans ?_; first | assumption | exact if_pos rfl)))))); (case x8 => (first | assumption | exact if_pos rfl | (refine (if_neg (by decide)).trans ?_; first | assumption | exact if_pos rfl | (refine (if_neg (by decide)).trans ?_; first | assumption | exact if_pos rfl | (refine (if_neg (by decide)).trans ?_; first | assumption | exact if_pos rfl | (refine (if_neg (by decide)).trans ?_; first | assumption | exact if_pos rfl)))))); (case x9 => (first | assumption | exact if_pos rfl | (refine (if_neg (by decide)).trans ?_; first | assumption | exact if_pos rfl | (refine (if_neg (by decide)).trans ?_; first | assumption | exact if_pos rfl | (refine (if_neg (by decide)).trans ?_; first | assumption | exact if_pos rfl | (refine (if_neg (by decide)).trans ?_; first | assumption | exact if_pos rfl)))))); (case x10 => (first | assumption | exact if_pos rfl | (refine (if_neg (by decide)).trans ?_; first | assumption | exact if_pos rfl | (refine (if_neg (by decide)).trans ?_; first | assumption | exact if_pos rfl | (refine (if_neg (by decide)).trans ?_; first | assumption | exact if_pos rfl | (refine (if_neg (by decide)).trans ?_; first | assumption | exact if_pos rfl)))))); (case x11 => (first | assumption | exact if_pos rfl | (refine (if_neg (by decide)).trans ?_; first | assumption | exact if_pos rfl | (refine (if_neg (by decide)).trans ?_; first | assumption | exact if_pos rfl | (refine (if_neg (by decide)).trans ?_; first | assumption | exact if_pos rfl | (refine (if_neg (by decide)).trans ?_; first | assumption | exact if_pos rfl)))))); (case x12 => assumption); (case x13 => assumption); (case x14 => assumption); (case x15 => assumption); (case x16 => assumption); (case x17 => assumption); (case x18 => assumption); (case x19 => assumption); (case x20 => assumption); (case x21 => assumption); (case x22 => (first | assumption | exact if_pos rfl | (refine (if_neg (by decide)).trans ?_; first | assumption | exact if_pos rfl | (refine (if_neg (by decide)).trans ?_; first | assumption | exact if_pos rfl | (refine (if_neg (by decide)).trans ?_; first | assumption | exact if_pos rfl | (refine (if_neg (by decide)).trans ?_; first | assumption | exact if_pos rfl)))))); (case x23 => (first | assumption | exact if_pos rfl | (refine (if_neg (by decide)).trans ?_; first | assumption | exact if_pos rfl | (refine (if_neg (by decide)).trans ?_; first | assumption | exact if_pos rfl | (refine (if_neg (by decide)).trans ?_; first | assumption | exact if_pos rfl | (refine (if_neg (by decide)).trans ?_; first | assumption | exact if_pos rfl)))))); (case x24 => (first | assumption | exact if_pos rfl | (refine (if_neg (by decide)).trans ?_; first | assumption | exact if_pos rfl | (refine (if_neg (by decide)).trans ?_; first | assumption | exact if_pos rfl | (refine (if_neg (by decide)).trans ?_; first | assumption | exact if_pos rfl | (refine (if_neg (by decide)).trans ?_; first | assumption | exact if_pos rfl)))))); (case x25 => (first | assumption | exact if_pos rfl | (refine (if_neg (by decide)).trans ?_; first | assumption | exact if_pos rfl | (refine (if_neg (by decide)).trans ?_; first | assumption | exact if_pos rfl | (refine (if_neg (by decide)).trans ?_; first | assumption | exact if_pos rfl | (refine (if_neg (by decide)).trans ?_; first | assumption | exact if_pos rfl)))))); (case x26 => (first | assumption | exact if_pos rfl | (refine (if_neg (by decide)).trans ?_; first | assumption | exact if_pos rfl | (refine (if_neg (by decide)).trans ?_; first | assumption | exact if_pos rfl | (refine (if_neg (by decide)).trans ?_; first | assumption | exact if_pos rfl | (refine (if_neg (by decide)).trans ?_; first | assumption | exact if_pos rfl))))))) | refine Stop.mk ?_))) | ((with_reducible show wpAny _ _ (compareOp CmpOp.NotEq (Value.int _ _) (Value.int _ _)) _ _ _); (k_here; k_dflt (refine' ne_int_same ?e ?_; (case e => omega)))) | ((with_reducible show wpAny _ _ (subscriptTail _ _ _ _) _ _ _); (k_here; (with_reducible show wpAny _ _ (subscriptTail _ _ (Value.ref _) (Value.int _ _)) _ _ _); (with_unfolding_all refine' item_anyK ?k1 ?k2 ?k3 ?k4 ?k5 ?_ ?k6; (case k1 => exact News.isList (by k_asm) (by k_mem)); (case k2 => assumption); (case k3 => decide); (case k4 => first | assumption | omega); (case k5 => decide); (case k6 => with_unfolding_all rfl); k_whole); intro t9; (try dsimp only))) | ((with_reducible show wpAny _ _ (eval (Expr.Name _ _) _) _ _ _); first | (k_here; refine' nameX_C ?N ?c ?m ?d ?_ ?k ?x ?b; (case k => exact rfl); (case x => exact rfl); (case b => decide); (case c => exact rfl); (case N => k_asm); (case m => k_mem); (case d => assumption)) | (k_here; refine' nameX_L ?F ?v ?_ ?k ?x ?d; (case k => exact rfl); (case x => exact rfl); (case d => decide); (case F => k_asm); (case v => (first | assumption | exact if_pos rfl | (refine (if_neg (by decide)).trans ?_; first | assumption | exact if_pos rfl | (refine (if_neg (by decide)).trans ?_; first | assumption | exact if_pos rfl | (refine (if_neg (by decide)).trans ?_; first | assumption | exact if_pos rfl | (refine (if_neg (by decide)).trans ?_; first | assumption | exact if_pos rfl)))))))) | ((with_reducible show wpAny _ _ (eval (Expr.Call (Expr.Name _ _) _ _ _) _) _ _ _); (k_here; refine Call_ ?_)) | walk1 | dsimp only | (leave1; try dsimp only))
  done
end Mine
end
section
namespace Mine
set_option maxRecDepth 100000 in
set_option maxHeartbeats 8000000 in
theorem seg19 (w : World) (mean : ExcName → Option Value) (mg mb : Str → Option Value) (h₀ : Heap) (L c1 c2 : Addr) (ccd : Value) (m : Str → Option Value) (pre cc : List (Addr × Obj)) (s : Shared) (Q : Flow → Shared → Prop) (E : Value → Shared → Prop) (dp un : Nat) (gd : Option (List Code)) (o1 o2 : Obj) (D1 D2 D3 D4 Dn : Addr) (nd dd p : Int) (nn mm : Str) (u1 u2 u3 u4 u5 u6 u7 u8 tp tn tm td tl : Tok) (k1 k2 k3 k4 kn : Nat) (vs : List Value) (ns : List Int) (v1 v2 v3 v4 v5 : Tok)
    (hd1 : dp + 20 < recursionLimit) (hu1 : un + 200 < cLine) (hB : Below callerA h₀ [] h₀) (hF : Fr h₀ L s.heap m) (hK : (theK.heap_1 w.params).In h₀) (hN : News h₀ L s.heap (pre ++ cc)) (hO : PreOk pre) (hC : CC cc) (hG : AllBare s.gens) (hT : Top p0 lo0 mean mg mb h₀) (hQ : Done h₀ L s.os Q)
    (hc1 : (c1, o1) ∈ pre) (ho1 : o1.data = .cell (some (.int p tp))) (hc2 : (c2, o2) ∈ pre) (ho2 : o2.data = .cell (some (.ref D1))) (m1 : m "numbers" = some (.ref Dn)) (m2 : m "number" = some (.int (584283 + p) tn)) (m3 : m "haab" = some (.ref D2)) (m4 : m "month" = some (.str mm tm)) (m5 : m "day" = some (.int dd td)) (m6 : m "place" = some (.int ((348 + p) % 365) tl)) (m7 : m "here" = some (.ref D3)) (m8 : m "there" = some (.ref D4)) (n1 : (D1, tupO [.int nd u1, .str nn u2] k1) ∈ pre) (n2 : (D2, tupO [.int dd u3, .str mm u4] k2) ∈ pre) (n3 : (D3, tupO [.int (tDay p) u5, .str (tzS (tNam p)) u6] k3) ∈ pre) (n4 : (D4, tupO [.int (hDay p) u7, .str (haabS (hMon p)) u8] k4) ∈ pre) (nn0 : (Dn, W.listOf vs.toArray kn) ∈ pre) (hI : IntsAre vs ns) (hlen : (0 : Int) < ns.length) (hp : 0 ≤ p) (hnn : nn = "Nobody" ∨ ∃ i, 0 ≤ i ∧ i < 20 ∧ nn = tzS i) (hmm : mm = "Nobody" ∨ ∃ j, 0 ≤ j ∧ j < 19 ∧ mm = haabS j) (q1 : m "baktun" = some (.int (p / 20 / 18 / 20 / 20) v1)) (q2 : m "katun" = some (.int (p / 20 / 18 / 20 % 20) v2)) (q3 : m "tun" = some (.int (p / 20 / 18 % 20) v3)) (q4 : m "uinal" = some (.int (p / 20 % 18) v4)) (q5 : m "kin" = some (.int (p % 20) v5)) : Seg w 19 dp un gd L ccd [("names", c2), ("past", c1)] Q E s := by
  unfold Seg
  revert hK
  k_fill
  intro hK
  conv in (occs := *) (scopeAt w) => all_goals whnf
  refine wpAny_execs_cons ?_
  have hLC : 584283 + p / 20 / 18 / 20 / 20 * 144000 + p / 20 / 18 / 20 % 20 * 7200 + p / 20 / 18 % 20 * 360 + p / 20 % 18 * 20 + p % 20 = 584283 + p := by omega
  have hnum : (584283 : Int) + p - 584283 = p := by omega
  w_top off
  repeat' (first | (k_unfold; (try dsimp only)) | (k_end; wrow_close) | ((with_reducible show wpAny _ _ (compareOp CmpOp.NotEq (Value.ref _) (Value.ref _)) _ _ _); (k_here; k_dflt (refine' ne_five_same ?N ?m1 ?m2 ?e1 ?e2 ?e3 ?e4 ?e5 ?hu ?_; (case N => k_asm); (case m1 => k_mem); (case m2 => k_mem); (case e1 => omega); (case e2 => omega); (case e3 => omega); (case e4 => omega); (case e5 => omega); (case hu => ktr_units)))) | ((with_reducible show wpAny _ _ (call (Value.ref _) _) _ _ _); first | (k_here; (with_reducible show wpAny _ _ (call (Value.ref 37) [Value.int _ _, Value.int _ _, Value.int _ _, Value.int _ _, Value.int _ _]) _ _ _); k_dflt (refine' Cut.use (c_to_jd _ _ _ _ _ _ _ _ _ _ _ _ _ _) ?k1 ?k2 ?k3 ?k4 ?k6 ?k9 ?k7 ?k8 ?k5 ?kK ?kp ?kd ?ku ?_; (case k1 => k_asm); (case k2 => k_asm); (case k3 => k_asm); (case k4 => k_asm); (case k5 => k_asm); (case k7 => assumption); (case k6 => tb_rel); (case k9 => tb_start); (case k8 => assumption); (case kK => first | exact rfl | assumption); (case kp => (first | trivial | assumption | omega | l_fact)); (case kd => ktr_room); (case ku => ktr_units)); (intro v9 tl9 cc9 h9 g9 d9 tk9 r9 l9 hc9 F9 N9 G9); (obtain ⟨e9, t9, e8⟩ := r9); subst e9; subst e8; (simp only [List.cons_append, List.nil_append] at N9); clear l9; (try dsimp only); (try k_fold); (try k_sweep)) | (k_here; (with_reducible show wpAny _ _ (call (Value.ref 44) [Value.int _ _]) _ _ _); k_dflt (refine' Cut.use (c_from_jd _ _ _ _ _ _) ?k1 ?k2 ?k3 ?k4 ?k6 ?k9 ?k7 ?k8 ?k5 ?kK ?kp ?kd ?ku ?_; (case k1 => k_asm); (case k2 => k_asm); (case k3 => k_asm); (case k4 => k_asm); (case k5 => k_asm); (case k7 => assumption); (case k6 => tb_rel); (case k9 => tb_start); (case k8 => assumption); (case kK => first | exact rfl | assumption); (case kp => (first | trivial | assumption | omega | l_fact)); (case kd => ktr_room); (case ku => ktr_units)); (intro v9 tl9 cc9 h9 g9 d9 tk9 r9 l9 hc9 F9 N9 G9); (obtain ⟨D9, t90, t91, t92, t93, t94, c9, e9, e8⟩ := r9); subst e9; subst e8; (simp only [List.cons_append, List.nil_append] at N9); (replace l9 := fun q hq => l9 q hq _ (List.Mem.head _)); (try dsimp only at l9); (try k_lt l9); (try dsimp only); (try k_fold); (try k_sweep))) | ((with_reducible show wpAny _ _ (execs (_ :: _) _) _ _ _); (k_here; (with_reducible show wpAny _ _ (execs [_, _, _, _, _, _, _, _, _, _, _, _] _) _ _ _); (first | k_dflt (refine' seg20 _ _ _ _ _ _ _ _ _ _ _ _ _ _ _ _ _ _ _ _ _ _ _ _ _ _ _ _ _ _ _ _ _ _ _ _ _ _ _ _ _ _ _ _ _ _ _ _ _ _ _ _ _ _ _ ?hd ?hu ?hB ?hF ?hK ?hN ?hO ?hC ?hG ?hT ?hQ ?x0 ?x1 ?x2 ?x3 ?x4 ?x5 ?x6 ?x7 ?x8 ?x9 ?x10 ?x11 ?x12 ?x13 ?x14 ?x15 ?x16 ?x17 ?x18 ?x19 ?x20 ?x21 ?x22 ?x23 ?x24 ?x25 ?x26; (case hF => k_asm); (case hN =>  ktr_rel); (case hC => assumption); (case hO => assumption); (case hB => assumption); (case hK => assumption); (case hG => assumption); (case hT => assumption); (case hQ => assumption); (case hd => assumption); (case hu => assumption); (case x0 => assumption); (case x1 => assumption); (case x2 => assumption); (case x3 => assumption); (case x4 => (first | assumption | exact if_pos rfl | (refine (if_neg (by decide)).trans ?_; first | assumption | exact if_pos rfl | (refine (if_neg (by decide)).trans ?_; first | assumption | exact if_pos rfl | (refine (if_neg (by decide)).trans ?_; first | assumption | exact if_pos rfl | (refine (if_neg (by decide)).trans ?_; first | assumption | exact if_pos rfl)))))); (case x5 => (first | assumption | exact if_pos rfl | (refine (if_neg (by decide)).trans ?_; first | assumption | exact if_pos rfl | (refine (if_neg (by decide)).trans ?_; first | assumption | exact if_pos rfl | (refine (if_neg (by decide)).trans ?_; first | assumption | exact if_pos rfl | (refine (if_neg (by decide)).trans ?_; first | assumption | exact if_pos rfl)))))); (case x6 => (first | assumption | exact if_pos rfl | (refine (if_neg (by decide)).trans ?_; first | assumption | exact if_pos rfl | (refine (if_neg (by decide)).trans ?_; first | assumption | exact if_pos rfl | (refine (if_neg (by decide)).trans ?_; first | assumption | exact if_pos rfl | (refine (if_neg (by decide)).trans ?_; first | assumption | exact if_pos rfl)))))); (case x7 => (first | assumption | exact if_pos rfl | (refine (if_neg (by decide)).trans ?_; first | assumption | exact if_pos rfl | (refine (if_neg (by decide)).trans ?_; first | assumption | exact if_pos rfl | (refine (if_neg (by decide)).trans ?_; first | assumption | exact if_pos rfl | (refine (if_neg (by decide)).trans ?_; first | assumption | exact if_pos rfl)))))); (case x8 => (first | assumption | exact if_pos rfl | (refine (if_neg (by decide)).trans ?_; first | assumption | exact if_pos rfl | (refine (if_neg (by decide)).trans ?_; first | assumption | exact if_pos rfl | (refine (if_neg (by decide)).trans ?_; first | assumption | exact if_pos rfl | (refine (if_neg (by decide)).trans ?_; first | assumption | exact if_pos rfl)))))); (case x9 => (first | assumption | exact if_pos rfl | (refine (if_neg (by decide)).trans ?_; first | assumption | exact if_pos rfl | (refine (if_neg (by decide)).trans ?_; first | assumption | exact if_pos rfl | (refine (if_neg (by decide)).trans ?_; first | assumption | exact if_pos rfl | (refine (if_neg (by decide)).trans ?_; first | assumption | exact if_pos rfl)))))); (case x10 => (first | assumption | exact if_pos rfl | (refine (if_neg (by decide)).trans ?_; first | assumption | exact if_pos rfl | (refine (if_neg (by decide)).trans ?_; first | assumption | exact if_pos rfl | (refine (if_neg (by decide)).trans ?_; first | assumption | exact if_pos rfl | (refine (if_neg (by decide)).trans ?_; first | assumption | exact if_pos rfl)))))); (case x11 => (first | assumption | exact if_pos rfl | (refine (if_neg (by decide)).trans ?_; first | assumption | exact if_pos rfl | (refine (if_neg (by decide)).trans ?_; first | assumption | exact if_pos rfl | (refine (if_neg (by decide)).trans ?_; first | assumption | exact if_pos rfl | (refine (if_neg (by decide)).trans ?_; first | assumption | exact if_pos rfl)))))); (case x12 => assumption); (case x13 => assumption); (case x14 => assumption); (case x15 => assumption); (case x16 => assumption); (case x17 => assumption); (case x18 => assumption); (case x19 => assumption); (case x20 => assumption); (case x21 => assumption); (case x22 => (first | assumption | exact if_pos rfl | (refine (if_neg (by decide)).trans ?_; first | assumption | exact if_pos rfl | (refine (if_neg (by decide)).trans ?_; first | assumption | exact if_pos rfl | (refine (if_neg (by decide)).trans ?_; first | assumption | exact if_pos rfl | (refine (if_neg (by decide)).trans ?_; first | assumption | exact if_pos rfl)))))); (case x23 => (first | assumption | exact if_pos rfl | (refine (if_neg (by decide)).trans ?_; first | assumption | exact if_pos rfl | (refine (if_neg (by decide)).trans ?_; first | assumption | exact if_pos rfl | (refine (if_neg (by decide)).trans ?_; first | assumption | exact if_pos rfl | (refine (if_neg (by decide)).trans ?_; first | assumption | exact if_pos rfl)))))); (case x24 => (first | assumption | exact if_pos rfl | (refine (if_neg (by decide)).trans ?_; first | assumption | exact if_pos rfl | (refine (if_neg (by decide)).trans ?_; first | assumption | exact if_pos rfl | (refine (if_neg (by decide)).trans ?_; first | assumption | exact if_pos rfl | (refine (if_neg (by decide)).trans ?_; first | assumption | exact if_pos rfl)))))); (case x25 => (first | assumption | exact if_pos rfl | (refine (if_neg (by decide)).trans ?_; first | assumption | exact if_pos rfl | (refine (if_neg (by decide)).trans ?_; first | assumption | exact if_pos rfl | (refine (if_neg (by decide)).trans ?_; first | assumption | exact if_pos rfl | (refine (if_neg (by decide)).trans ?_; first | assumption | exact if_pos rfl)))))); (case x26 => (first | assumption | exact if_pos rfl | (refine (if_neg (by decide)).trans ?_; first | assumption | exact if_pos rfl | (refine (if_neg (by decide)).trans ?_; first | assumption | exact if_pos rfl | (refine (if_neg (by decide)).trans ?_; first | assumption | exact if_pos rfl | (refine (if_neg (by decide)).trans ?_; first | assumption | exact if_pos rfl))))))) | refine Stop.mk ?_))) | ((with_reducible show wpAny _ _ (compareOp CmpOp.NotEq (Value.int _ _) (Value.int _ _)) _ _ _); (k_here; k_dflt (refine' ne_int_same ?e ?_; (case e => omega)))) | ((with_reducible show wpAny _ _ (subscriptTail _ _ _ _) _ _ _); (k_here; (with_reducible show wpAny _ _ (subscriptTail _ _ (Value.ref _) (Value.int _ _)) _ _ _); (with_unfolding_all refine' item_anyK ?k1 ?k2 ?k3 ?k4 ?k5 ?_ ?k6; (case k1 => exact News.isList (by k_asm) (by k_mem)); (case k2 => assumption); (case k3 => decide); (case k4 => first | assumption | omega); (case k5 => decide); (case k6 => with_unfolding_all rfl); k_whole); intro t9; (try dsimp only))) | ((with_reducible show wpAny _ _ (eval (Expr.Name _ _) _) _ _ _); first | (k_here; refine' nameX_C ?N ?c ?m ?d ?_ ?k ?x ?b; (case k => exact rfl); (case x => exact rfl); (case b => decide); (case c => exact rfl); (case N => k_asm); (case m => k_mem); (case d => assumption)) | (k_here; refine' nameX_L ?F ?v ?_ ?k ?x ?d; (case k => exact rfl); (case x => exact rfl); (case d => decide); (case F => k_asm); (case v => (first | assumption | exact if_pos rfl | (refine (if_neg (by decide)).trans ?_; first | assumption | exact if_pos rfl | (refine (if_neg (by decide)).trans ?_; first | assumption | exact if_pos rfl | (refine (if_neg (by decide)).trans ?_; first | assumption | exact if_pos rfl | (refine (if_neg (by decide)).trans ?_; first | assumption | exact if_pos rfl)))))))) | ((with_reducible show wpAny _ _ (eval (Expr.Call (Expr.Name _ _) _ _ _) _) _ _ _); (k_here; refine Call_ ?_)) | walk1 | dsimp only | (leave1; try dsimp only))
  done
end Mine
end
section
set_option maxRecDepth 100000
set_option maxHeartbeats 4000000
namespace Mine
open LCg
/-- a list of pairs, the j-th of them what val says -/
def Filled (val : Nat → Int × Str) (ys : List Value) (tl : List (Addr × Obj)) (k : Nat) : Prop :=
  ys.length = k ∧ (∀ j, j < k → ∃ D t1 t2 c, ys[j]? = some (.ref D) ∧ ((D, tupO [.int (val j).1 t1, .str (val j).2 t2] c) ∈ tl)) ∧ PreOk tl
theorem Filled.nil {val : Nat → Int × Str} : Filled val [] [] 0 := ⟨rfl, fun _ h => absurd h (Nat.not_lt_zero _), PreOk.nil⟩
theorem Filled.snoc {val : Nat → Int × Str} {ys : List Value} {tl : List (Addr × Obj)} {k : Nat} {D : Addr} {t1 t2 : Tok} {c : Nat} (h : Filled val ys tl k) : Filled val (ys ++ [.ref D]) ((D, tupO [.int (val k).1 t1, .str (val k).2 t2] c) :: tl) (k + 1) := by
  refine ⟨by rw [List.length_append, h.1]; rfl, fun j hj => ?_, PreOk.cons rfl h.2.2⟩
  by_cases e : j = k
  · subst e
    exact ⟨D, t1, t2, c, by rw [List.getElem?_append_right (by rw [h.1]; exact Nat.le_refl _), h.1]; simp, .head _⟩
  · obtain ⟨D', a, b, c', h1, h2⟩ := h.2.1 j (by omega)
    exact ⟨D', a, b, c', by rw [List.getElem?_append_left (by rw [h.1]; omega)]; exact h1, .tail _ h2⟩
/-- off these three -/
def Off (I C D : Addr) (l : List (Addr × Obj)) : Prop := ∀ p ∈ l, p.1 ≠ I ∧ p.1 ≠ C ∧ p.1 ≠ D
section
variable {prog : Program} {w : World} {A : Around} {E : Value → Shared → Prop} {s : Shared} {h₀ : Heap} {L : Addr} {m : Str → Option Value} {env : Env}
/-- what an inner turn keeps -/
structure NInv (h₀ : Heap) (L : Addr) (m : Str → Option Value) (I C D : Addr) (news : List (Addr × Obj)) (val : Nat → Int × Str) (h : Heap) (ys : List Value) (tl : List (Addr × Obj)) (k : Nat) : Prop where
  fr : Fr h₀ L h m
  acc : h.get? D = some (lst ys)
  nw : News h₀ L h (tl ++ news)
  off : Off I C D (tl ++ news)
  fill : Filled val ys tl k
theorem NInv.keepI {I C D : Addr} {news : List (Addr × Obj)} {val : Nat → Int × Str} {h h' : Heap} {ys : List Value} {tl : List (Addr × Obj)} {k : Nat} {X : Addr} (v : NInv h₀ L m I C D news val h ys tl k) (hs : ∀ b o, b ≠ X → h.get? b = some o → h'.get? b = some o)
    (hX : h₀.get? X = none) (hXL : X ≠ L) (hXD : X ≠ D) (ho : ∀ p ∈ tl ++ news, p.1 ≠ X) : NInv h₀ L m I C D news val h' ys tl k :=
  ⟨⟨v.fr.ns.at' fun o e => hs L o (Ne.symm hXL) e, fun b o e => hs b o (fun q => by rw [q, hX] at e; cases e) (v.fr.keep b o e), v.fr.above⟩, hs D _ (Ne.symm hXD) v.acc, fun p hp => ⟨hs _ _ (ho p hp) (v.nw p hp).1, (v.nw p hp).2⟩, v.off, v.fill⟩
theorem fresh_none {h : Heap} (F : Fr h₀ L h m) {a : Addr} (ha : h.objs.size ≤ a) : h₀.get? a = none := by
  cases e : h₀.get? a with
  | none => rfl
  | some o => exact absurd (Heap.lt_size (F.keep a o e)) (Nat.not_lt.mpr ha)
/-- the inner loop: a range's numbers, a pair for each -/
theorem inner_loop {elt t0 i0 i1 : Expr} {x0 x1 : Str} {px1 : Pos} {scope : Scope} {cl : List (Str × Addr)} {pos : Pos} {I C D I2 : Addr} {news : List (Addr × Obj)} {val : Nat → Int × Str} {x : Str} {t : Tok} {cnt k0 : Nat} {R : Result → Shared → Prop} {g : Array GenState} {dr : Drawn} {os : OsState} {lI : Addr} {iI : Nat}
    (hh : A.handled = none) (hx1 : scope.names.lookup x1 = some .local) (hkind : scope.kind = .function) (hx01 : x0 ≠ x1)
    (hCL : C ≠ L) (hDL : D ≠ L) (hI2L : I2 ≠ L) (hC₀ : h₀.get? C = none) (hD₀ : h₀.get? D = none) (hI2₀ : h₀.get? I2 = none) (hCD : C ≠ D) (hI2C : I2 ≠ C) (hI2D : I2 ≠ D) (hI2I : I2 ≠ I) (hIC : I ≠ C) (hID : I ≠ D)
    (hval : ∀ j, j < cnt → val (k0 + j) = ((j : Int), x)) (hsz : k0 + cnt ≤ sizeLine)
    (helt : ∀ (oC : Obj) m₂ h tk nw (n : Int) (t' : Tok) (Q E : Value → Shared → Prop), Fr h₀ L h m → News h₀ L h nw → (C, oC) ∈ nw → NsObj oC m₂ → m₂ x0 = some (.str x t) → m₂ x1 = some (.int n t') →
      (∀ D' h' tk' c, Fr h₀ L h' m → News h₀ L h' ((D', tupO [.int n t', .str x t] c) :: nw) → (∀ b o, h.get? b = some o → h'.get? b = some o) → h.objs.size ≤ D' → Q (.ref D') ⟨h', g, dr, tk', os⟩) →
      wpAny (model prog w) A (eval elt (compEnvC scope cl C env)) Q E ⟨h, g, dr, tk, os⟩)
    (hR : ∀ h tk m' ys tl, NInv h₀ L m I C D news val h ys tl (k0 + cnt) → h.Ns C m' → h.IsListIter I lI iI → R (.ok .next) ⟨h, g, dr, tk, os⟩)
    (h : Heap) (tk : Nat) (m' : Str → Option Value) (ys : List Value) (tl : List (Addr × Obj)) (v : NInv h₀ L m I C D news val h ys tl k0) (hn : h.Ns C m') (hx0 : m' x0 = some (.str x t)) (hit : IsRangeIter h I2 0 (cnt : Int) 1) (hI : h.IsListIter I lI iI) (ho2 : ∀ p ∈ tl ++ news, p.1 ≠ I2) :
    codeAny (model prog w) A (.compLoop (comp2 elt t0 i0 (.Name x1 px1) i1 scope pos) 1 (.ref I2) (.ref D) (compEnvC scope cl C env)) R ⟨h, g, dr, tk, os⟩ := by
  refine loop_nest1 (fun k s' => ∃ h' tk' j ys' tl' m'', s' = ⟨h', g, dr, tk', os⟩ ∧ j ≤ cnt ∧ k = cnt + 1 - j ∧ NInv h₀ L m I C D news val h' ys' tl' (k0 + j) ∧ h'.Ns C m'' ∧ m'' x0 = some (.str x t) ∧
    IsRangeIter h' I2 (j : Int) ((cnt : Int) - j) 1 ∧ h'.IsListIter I lI iI ∧ (∀ p ∈ tl' ++ news, p.1 ≠ I2)) ?_ (cnt + 1)
    ⟨h, tk, 0, ys, tl, m', rfl, Nat.zero_le _, rfl, v, hn, hx0, by simpa using hit, hI, ho2⟩
  rintro k s' ⟨h', tk', j, ys', tl', m'', rfl, hj, rfl, v', hn', hx0', hit', hI', ho2'⟩
  by_cases hlt : j < cnt
  · refine wpAny_pyNext_range_item hit' (by omega) fun h₂ hit₂ hs₂ => ?_
    have v₂ := v'.keepI (X := I2) (fun b o nb e => hs₂.extBut b o nb e) hI2₀ hI2L hI2D ho2'
    have hn₂ : h₂.Ns C m'' := hn'.at' fun o e => hs₂.extBut _ o (Ne.symm hI2C) e
    refine wpAny_assign_Name (wpAny_storeName_local (lookup_relabel_local hx1) hn₂ (fun h₃ hn₃ hs₃ => ?_) (by simp [compEnvC, relabel, hkind]))
    have hs₃ : Heap.SameBut C h₂ h₃ := hs₃
    have v₃ := v₂.keepI (X := C) (fun b o nb e => hs₃.extBut b o nb e) hC₀ hCL hCD fun p hp => (v₂.off p hp).2.1
    obtain ⟨oC, heC, hoC⟩ := ns_obj hn₃
    have heC : h₃.get? C = some oC := heC
    have hit₃ : IsRangeIter h₃ I2 ((j : Int) + 1) ((cnt : Int) - j - 1) 1 := hs₃.extBut _ _ hI2C hit₂
    have hI₃ : h₃.IsListIter I lI iI := (hI'.at fun o e => hs₂.extBut _ o (Ne.symm hI2I) e).at fun o e => hs₃.extBut _ o hIC e
    have N₃ : News h₀ L h₃ ((C, oC) :: (tl' ++ news)) := fun p hp => by
      rcases List.mem_cons.mp hp with rfl | hp
      · exact ⟨heC, hCL, hC₀⟩
      · exact v₃.nw p hp
    refine helt oC _ h₃ _ ((C, oC) :: (tl' ++ news)) j tk' _ _ v₃.fr N₃ (.head _) hoC (by simp [hx0', hx01]) (by simp) fun D' h₄ tk₄ c F₄ N₄ k₄ hD' => ?_
    have dI : D' ≠ I := fun q => by obtain ⟨o, e, _⟩ := hI₃; exact absurd (Heap.lt_size e) (Nat.not_lt.mpr (q ▸ hD'))
    have dC : D' ≠ C := fun q => absurd (Heap.lt_size heC) (Nat.not_lt.mpr (q ▸ hD'))
    have dD : D' ≠ D := fun q => absurd (Heap.lt_size v₃.acc) (Nat.not_lt.mpr (q ▸ hD'))
    have d2 : D' ≠ I2 := fun q => absurd (Heap.lt_size hit₃) (Nat.not_lt.mpr (q ▸ hD'))
    refine append_at (hsz := by show ys'.toArray.size ≤ sizeLine; rw [List.size_toArray, v'.fill.1]; omega) (k₄ _ _ v₃.acc) fun h₅ hs₅ hD₅ => ?_
    have off₅ : Off I C D (((D', tupO [.int (j : Int) tk', .str x t] c) :: tl') ++ news) := fun p hp => by
      rcases List.mem_cons.mp hp with rfl | hp
      · exact ⟨dI, dC, dD⟩
      · exact v'.off p hp
    refine ⟨cnt + 1 - (j + 1), by omega, h₅, tk₄, j + 1, ys' ++ [.ref D'], (D', tupO [.int (j : Int) tk', .str x t] c) :: tl', _, rfl, hlt, rfl, ⟨F₄.change hs₅ hDL hD₀, hD₅.trans (congrArg some (lst_snoc ys' _)), ?_, off₅, ?_⟩, (hoC.ns (k₄ _ _ heC)).sameBut hs₅ hCD, by simp [hx0', hx01], ?_, (hI₃.at fun o e => k₄ _ o e).at fun o e => hs₅.extBut _ o hID e, ?_⟩
    · intro p hp
      have z : h₄.get? p.1 = some p.2 ∧ p.1 ≠ L ∧ h₀.get? p.1 = none := by
        rcases List.mem_cons.mp hp with rfl | hp
        · exact N₄ _ (.head _)
        · exact N₄ p (.tail _ (.tail _ hp))
      exact ⟨hs₅.extBut _ _ (off₅ p hp).2.2 z.1, z.2⟩
    · have := (v'.fill).snoc (D := D') (t1 := tk') (t2 := t) (c := c)
      rw [hval j hlt] at this
      exact this
    · rw [show ((j + 1 : Nat) : Int) = (j : Int) + 1 by push_cast; rfl, show (cnt : Int) - ((j : Int) + 1) = (cnt : Int) - j - 1 by omega]
      exact hs₅.extBut _ _ hI2D (k₄ _ _ hit₃)
    · intro p hp
      rcases List.mem_cons.mp hp with rfl | hp
      · exact d2
      · exact ho2' p hp
  · obtain rfl : j = cnt := Nat.le_antisymm hj (Nat.not_lt.mp hlt)
    refine wpAny_pyNext_range_end hh hit' (by omega) fun h₂ he₂ => ?_
    have v₂ := v'.keepI (X := I2) (fun b o nb e => he₂ b o nb e) hI2₀ hI2L hI2D ho2'
    exact hR h₂ _ m'' ys' tl' v₂ (hn'.at' fun o e => he₂ _ o (Ne.symm hI2C) e) (hI'.at fun o e => he₂ _ o (Ne.symm hI2I) e)
end
end Mine
end
section
set_option maxRecDepth 100000
set_option maxHeartbeats 4000000
namespace Mine
open LCg
/-- the list of texts that the outer loop goes over, a range for each, a pair for each number -/
structure YearSrc (prog : Program) (w : World) (A : Around) (h₀ : Heap) (L : Addr) (m : Str → Option Value) (env : Env) (elt i1 : Expr) (x0 x1 y : Str) (scope : Scope) (Q : Flow → Shared → Prop) (ax : Addr) (vs : List Value) (ks : Nat) (xs : List Str) (news : List (Addr × Obj)) (cnt off : Nat → Nat) (val : Nat → Int × Str) (s₁ : Shared) : Prop where
  hh : A.handled = none
  fr : Fr h₀ L s₁.heap m
  nw : News h₀ L s₁.heap news
  src : (ax, W.listOf vs.toArray ks) ∈ news
  txs : StrsAre vs xs
  off0 : off 0 = 0
  offS : ∀ i, i < xs.length → off (i + 1) = off i + cnt i
  size : off xs.length ≤ sizeLine
  bound : ∀ i, i < xs.length → off i + cnt i ≤ sizeLine
  hval : ∀ i x, xs[i]? = some x → ∀ j, j < cnt i → val (off i + j) = ((j : Int), x)
  rng : ∀ i x, xs[i]? = some x → ∀ (C : Addr) (oC : Obj) m₂ h tk nw (t : Tok) (Q' E : Value → Shared → Prop), Fr h₀ L h m → News h₀ L h nw → (C, oC) ∈ nw → NsObj oC m₂ → m₂ x0 = some (.str x t) →
    (∀ r h' tk' t u v, IsRange h' r 0 (cnt i : Int) 1 t u v → Fr h₀ L h' m → News h₀ L h' nw → (∀ b o, h.get? b = some o → h'.get? b = some o) → Q' (.ref r) { s₁ with heap := h', toks := tk' }) →
    wpAny (model prog w) A (eval i1 (compEnvC scope [] C env)) Q' E { s₁ with heap := h, toks := tk }
  helt : ∀ (C : Addr) (oC : Obj) m₂ h tk nw (x : Str) (t : Tok) (n : Int) (t' : Tok) (Q' E : Value → Shared → Prop), Fr h₀ L h m → News h₀ L h nw → (C, oC) ∈ nw → NsObj oC m₂ → m₂ x0 = some (.str x t) → m₂ x1 = some (.int n t') →
    (∀ D' h' tk' c, Fr h₀ L h' m → News h₀ L h' ((D', tupO [.int n t', .str x t] c) :: nw) → (∀ b o, h.get? b = some o → h'.get? b = some o) → h.objs.size ≤ D' → Q' (.ref D') { s₁ with heap := h', toks := tk' }) →
    wpAny (model prog w) A (eval elt (compEnvC scope [] C env)) Q' E { s₁ with heap := h, toks := tk }
  fin : ∀ D ys tl h tk, Filled val ys tl (off xs.length) → Fr h₀ L h (fun z => if z = y then some (.ref D) else m z) → News h₀ L h ((D, lst ys) :: (tl ++ news)) → Q .next { s₁ with heap := h, toks := tk }
theorem rsize1 (c : Nat) : Builtin.Range.rangeSize 0 (c : Int) 1 = ((c : Nat) : Int) := by
  unfold Builtin.Range.rangeSize
  rw [if_pos (by decide)]
  split <;> omega
theorem fits_long {i : Int} (h0 : 0 ≤ i) (h1 : i ≤ 16777216) : Builtin.Range.rangeFitsLong i = true := by
  unfold Builtin.Range.rangeFitsLong
  rw [Bool.and_eq_true, decide_eq_true_eq, decide_eq_true_eq]
  omega
theorem rsmall1 {c : Nat} (h : c ≤ sizeLine) : Builtin.Range.small 0 (c : Int) 1 = true := by
  have hs : sizeLine = 16777216 := by decide
  rw [hs] at h
  have a := fits_long (i := 0) (by omega) (by omega)
  have b := fits_long (i := (c : Int)) (by omega) (by omega)
  have d := fits_long (i := 1) (by omega) (by omega)
  have e := fits_long (i := (c : Int) + (1 - 1)) (by omega) (by omega)
  unfold Builtin.Range.small
  rw [rsize1, a, b, d, if_pos (by decide), e]
  cases ((c : Int) == 0) <;> rfl
section
variable {prog : Program} {w : World} {A : Around} {E : Value → Shared → Prop} {s : Shared} {h₀ : Heap} {L : Addr} {m : Str → Option Value} {env : Env}
theorem outer_loop {elt i0 i1 : Expr} {x0 x1 y : Str} {px0 px1 : Pos} {scope : Scope} {pos : Pos} {Q : Flow → Shared → Prop} {I C D : Addr} {news : List (Addr × Obj)} {val : Nat → Int × Str} {cnt off : Nat → Nat} {ax : Addr} {vs : List Value} {ks : Nat} {xs : List Str} {s₁ : Shared} {R : Result → Shared → Prop}
    (Y : YearSrc prog w A h₀ L m env elt i1 x0 x1 y scope Q ax vs ks xs news cnt off val s₁)
    (hx0 : scope.names.lookup x0 = some .local) (hx1 : scope.names.lookup x1 = some .local) (hkind : scope.kind = .function) (hx01 : x0 ≠ x1) (hs : ∀ C x, foldedSetIterable i1 (compEnvC scope [] C env) x = pure x)
    (hCL : C ≠ L) (hDL : D ≠ L) (hIL : I ≠ L) (hC₀ : h₀.get? C = none) (hD₀ : h₀.get? D = none) (hI₀ : h₀.get? I = none) (hCD : C ≠ D) (hIC : I ≠ C) (hID : I ≠ D)
    (hR : ∀ h tk m' ys tl, NInv h₀ L m I C D news val h ys tl (off xs.length) → h.Ns C m' → R (.ok .next) { s₁ with heap := h, toks := tk })
    (h : Heap) (tk : Nat) (m' : Str → Option Value) (v : NInv h₀ L m I C D news val h [] [] 0) (hn : h.Ns C m') (hit : h.IsListIter I ax 0) :
    codeAny (model prog w) A (.compLoop (comp2 elt (.Name x0 px0) i0 (.Name x1 px1) i1 scope pos) 0 (.ref I) (.ref D) (compEnvC scope [] C env)) R { s₁ with heap := h, toks := tk } := by
  have hvl : vs.length = xs.length := Y.txs.len_eq
  refine loop_nest0 (fun k s' => ∃ h' tk' i ys' tl' m'', s' = { s₁ with heap := h', toks := tk' } ∧ i ≤ xs.length ∧ k = xs.length + 1 - i ∧ NInv h₀ L m I C D news val h' ys' tl' (off i) ∧ h'.Ns C m'' ∧ h'.IsListIter I ax i) ?_ (xs.length + 1)
    ⟨h, tk, 0, [], [], m', rfl, Nat.zero_le _, rfl, by rw [Y.off0]; exact v, hn, hit⟩ (fun x => hs C x)
  rintro k s' ⟨h', tk', i, ys', tl', m'', rfl, hi, rfl, v', hn', hit'⟩
  have hl : h'.IsList ax vs.toArray := ⟨_, (v'.nw _ (List.mem_append_right _ Y.src)).1, rfl, _, rfl⟩
  have offI : ∀ p ∈ tl' ++ news, p.1 ≠ I := fun p hp => (v'.off p hp).1
  by_cases hlt : i < xs.length
  · obtain ⟨x, hx⟩ : ∃ x, xs[i]? = some x := ⟨_, List.getElem?_eq_getElem hlt⟩
    obtain ⟨t, ht⟩ := Y.txs.at hx
    refine wpAny_pyNext_list_item hit' hl (x := .str x t) (by simpa using ht) fun h₂ hit₂ hs₂ => ?_
    have v₂ := v'.keepI (X := I) (fun b o nb e => hs₂.extBut b o nb e) hI₀ hIL hID offI
    have hn₂ : h₂.Ns C m'' := hn'.at' fun o e => hs₂.extBut _ o (Ne.symm hIC) e
    refine wpAny_assign_Name (wpAny_storeName_local (lookup_relabel_local hx0) hn₂ (fun h₃ hn₃ hs₃ => ?_) (by simp [compEnvC, relabel, hkind]))
    have hs₃ : Heap.SameBut C h₂ h₃ := hs₃
    have v₃ := v₂.keepI (X := C) (fun b o nb e => hs₃.extBut b o nb e) hC₀ hCL hCD fun p hp => (v₂.off p hp).2.1
    obtain ⟨oC, heC, hoC⟩ := ns_obj hn₃
    have heC : h₃.get? C = some oC := heC
    obtain ⟨oI, heI, hdI⟩ := hit₂
    have heI₃ : h₃.get? I = some oI := hs₃.extBut _ _ hIC heI
    have N₃ : News h₀ L h₃ ((C, oC) :: (D, lst ys') :: (I, oI) :: (tl' ++ news)) := fun p hp => by
      rcases List.mem_cons.mp hp with rfl | hp
      · exact ⟨heC, hCL, hC₀⟩
      · rcases List.mem_cons.mp hp with rfl | hp
        · exact ⟨v₃.acc, hDL, hD₀⟩
        · rcases List.mem_cons.mp hp with rfl | hp
          · exact ⟨heI₃, hIL, hI₀⟩
          · exact v₃.nw p hp
    refine Y.rng i x hx C oC _ h₃ _ _ t _ _ v₃.fr N₃ (.head _) hoC (by simp) fun r h₄ tk₄ t1 t2 t3 hr F₄ N₄ k₄ => ?_
    refine wpAny_pyIter_range hr (rsmall1 (Nat.le_trans (Nat.le_add_left _ _) (Y.bound i hlt))) ?_
    rw [rsize1]
    have up : ∀ b o, h₄.get? b = some o → (h₄.push { cls := .type "range_iterator", data := .fields #[rawInt 0, rawInt (cnt i : Int), rawInt 1] }).get? b = some o := fun b o e => Heap.get?_push_of_some _ e
    have zC : h₄.get? C = some oC := k₄ _ _ heC
    have zD : h₄.get? D = some (lst ys') := k₄ _ _ v₃.acc
    have zI : h₄.get? I = some oI := k₄ _ _ heI₃
    have hit₅ : IsRangeIter (h₄.push { cls := .type "range_iterator", data := .fields #[rawInt 0, rawInt (cnt i : Int), rawInt 1] }) h₄.objs.size 0 (cnt i : Int) 1 := Heap.get?_push_size _ rfl
    have lL : L < h₄.objs.size := F₄.ns.lt
    have go : codeAny (model prog w) A (.compLoop (comp2 elt (.Name x0 px0) i0 (.Name x1 px1) i1 scope pos) 1 (.ref h₄.objs.size) (.ref D) (compEnvC scope [] C env)) (fun r s₅ => match r with | .ok _ => ∃ k9, k9 < xs.length + 1 - i ∧ ∃ h' tk' i ys' tl' m'', s₅ = { s₁ with heap := h', toks := tk' } ∧ i ≤ xs.length ∧ k9 = xs.length + 1 - i ∧ NInv h₀ L m I C D news val h' ys' tl' (off i) ∧ h'.Ns C m'' ∧ h'.IsListIter I ax i | .error _ => False)
        { s₁ with heap := h₄.push { cls := .type "range_iterator", data := .fields #[rawInt 0, rawInt (cnt i : Int), rawInt 1] }, toks := tk₄ } := by
      have sz : ∀ b o, h₄.get? b = some o → h₄.objs.size ≠ b := fun b o e q => Nat.lt_irrefl _ (q ▸ Heap.lt_size e)
      refine inner_loop (x := x) (t := t) (cnt := cnt i) (k0 := off i) (I2 := h₄.objs.size) (g := s₁.gens) (dr := s₁.drawn) (os := s₁.os) (lI := ax) (iI := i + 1) Y.hh hx1 hkind hx01 hCL hDL (Nat.ne_of_gt lL) hC₀ hD₀ (fresh_none F₄ (Nat.le_refl _)) hCD (sz _ _ zC) (sz _ _ zD) (sz _ _ zI) hIC hID
        (Y.hval i x hx) (Y.bound i hlt) (fun oC m₂ h tk nw n t' Q' E' F N hm hC h0 h1 k => Y.helt C oC m₂ h tk nw x t n t' Q' E' F N hm hC h0 h1 k) (fun h5 tk5 m5 ys5 tl5 v5 hn5 hit5 => ?_) _ tk₄ _ ys' tl'
        ⟨F₄.keeps up, up _ _ zD, fun p hp => ⟨up _ _ (N₄ p (.tail _ (.tail _ (.tail _ hp)))).1, (v'.nw p hp).2⟩, v'.off, v'.fill⟩ ((hoC.ns zC).at' fun o e => up _ o e) (by simp) hit₅ ⟨oI, up _ _ zI, hdI⟩ (fun p hp => Ne.symm (sz _ _ (N₄ p (.tail _ (.tail _ (.tail _ hp)))).1))
      exact ⟨xs.length + 1 - (i + 1), by omega, h5, tk5, i + 1, ys5, tl5, m5, rfl, hlt, rfl, by rw [Y.offS i hlt]; exact v5, hn5, hit5⟩
    exact start_nest1 go (wpAny_pyIter_rangeiter hit₅ go)
  · obtain rfl : i = xs.length := Nat.le_antisymm hi (Nat.not_lt.mp hlt)
    refine wpAny_pyNext_list_end Y.hh hit' hl (by simp [hvl]) fun h₂ he₂ => ?_
    exact hR h₂ _ m'' ys' tl' (v'.keepI (X := I) (fun b o nb e => he₂ b o nb e) hI₀ hIL hID offI) (hn'.at' fun o e => he₂ _ o (Ne.symm hIC) e)
end
end Mine
end
section
set_option maxRecDepth 100000
set_option maxHeartbeats 4000000
namespace Mine
open LCg
def YearIn (prog : Program) (w : World) (A : Around) (h₀ : Heap) (L : Addr) (m : Str → Option Value) (env : Env) (elt i1 : Expr) (x0 x1 y : Str) (scope : Scope) (Q : Flow → Shared → Prop) (xv : Value) (s₁ : Shared) : Prop :=
  ∃ ax vs ks xs news cnt off val, xv = .ref ax ∧ YearSrc prog w A h₀ L m env elt i1 x0 x1 y scope Q ax vs ks xs news cnt off val s₁
section
variable {prog : Program} {w : World} {A : Around} {E : Value → Shared → Prop} {s : Shared} {h₀ : Heap} {L : Addr} {m : Str → Option Value} {env : Env}
theorem Assign_year {elt i0 i1 : Expr} {x0 x1 y : Str} {px0 px1 py : Pos} {scope : Scope} {pos spos : Pos} {Q : Flow → Shared → Prop} (_F : Fr h₀ L s.heap m) (hLe : env.locals = L)
    (hsw : swapsWith (comp2 elt (.Name x0 px0) i0 (.Name x1 px1) i1 scope pos) (some (.Name y py)) spos.line env = pure true)
    (hclos : closureFor scope env = pure []) (hcell : ∀ z ∈ scope.names, z.2 ≠ .cell) (hkind : scope.kind = .function)
    (hnames : ∀ z ∈ scope.names, z.2 = .local → scope.names.lookup z.1 = some .local) (hx0 : scope.names.lookup x0 = some .local) (hx1 : scope.names.lookup x1 = some .local) (hx01 : x0 ≠ x1)
    (hy : env.kindOf y = some .local) (hp : (env.scope.kind == .class || (env.scope.kind == .module && env.locals != env.globals)) = false)
    (h : wpAny (model prog w) A (eval i0 env) (YearIn prog w A h₀ L m env elt i1 x0 x1 y scope Q) E s)
    (hs : ∀ x, foldedSetIterable i0 env x = pure x := by intro _; rfl) (hs1 : ∀ C x, foldedSetIterable i1 (compEnvC scope [] C env) x = pure x := by intro _ _; rfl) :
    wpAny (model prog w) A (exec (.Assign [.Name y py] (comp2 elt (.Name x0 px0) i0 (.Name x1 px1) i1 scope pos) spos) env) Q E s := by
  subst hLe
  rw [exec_Assign_Name_used _ _ _ _ hsw]
  refine wpAny_bind (wpAny_standAt (wpAny_bind ?_))
  show wpAny _ A (do let _ ← comprehension (comp2 elt (.Name x0 px0) i0 (.Name x1 px1) i1 scope pos) scope env _ (newList []) false (eval i0 env) (some (assign (.Name y py) env))) _ _ s
  refine wpAny_bind (wpAny_mono (wpAny_comprehension_free (use := some (assign (.Name y py) env)) (Q := fun _ s' => Q .next s') rfl hs hclos hkind hnames
    (wpAny_mono h (fun xv s₁ h₁ => ?_) fun _ _ e => e)) (fun _ s' hq => wpAny_pure (wpAny_pure hq)) fun _ _ e => e)
  obtain ⟨ax, vs, ks, xs, news, cnt, off, val, rfl, Y⟩ := h₁
  have F := Y.fr
  have N := Y.nw
  have hl : s₁.heap.IsList ax vs.toArray := N.isList Y.src
  have hlt : ax < s₁.heap.objs.size := by obtain ⟨_, e, _⟩ := hl; exact Heap.lt_size e
  refine wpAny_pyIter_list hl ?_
  refine wpAny_newObj_type (wpAny_newFunctionEnv hcell (by intro y hy; simp at hy) (fun h₁ hns₁ hsb₁ => ?_) hkind)
  dsimp only at hns₁ hsb₁ ⊢
  generalize hH1 : s₁.heap.push { cls := .type "list_iterator", data := .fields #[.ref ax, .int 0 0] } = H1 at hns₁ hsb₁ ⊢
  generalize hH2 : H1.push { cls := .type "list", dict := none, data := .seq ([] : List Value).toArray } = H2 at hns₁ hsb₁ ⊢
  have s1 : H1.objs.size = s₁.heap.objs.size + 1 := by rw [← hH1, Heap.size_push]
  have s2 : H2.objs.size = s₁.heap.objs.size + 1 + 1 := by rw [← hH2, Heap.size_push, s1]
  have up1 : ∀ b o, s₁.heap.get? b = some o → H1.get? b = some o := fun b o e => hH1 ▸ Heap.get?_push_of_some _ e
  have up2 : ∀ b o, H1.get? b = some o → H2.get? b = some o := fun b o e => hH2 ▸ Heap.get?_push_of_some _ e
  have up3 : ∀ b o, H2.get? b = some o → h₁.get? b = some o := fun b o e => hsb₁.extBut b o (Nat.ne_of_lt (Heap.lt_size e)) (Heap.get?_push_of_some _ e)
  have old : ∀ b o, s₁.heap.get? b = some o → h₁.get? b = some o := fun b o e => up3 _ _ (up2 _ _ (up1 _ _ e))
  have zI : H1.get? s₁.heap.objs.size = some { cls := .type "list_iterator", data := .fields #[.ref ax, .int 0 0] } := by rw [← hH1]; exact Heap.get?_push_size _ rfl
  have zD : H2.get? H1.objs.size = some (lst []) := by rw [← hH2]; exact Heap.get?_push_size _ rfl
  have lt : ∀ b o, s₁.heap.get? b = some o → b ≠ s₁.heap.objs.size ∧ b ≠ H1.objs.size ∧ b ≠ H2.objs.size := fun b o e => by
    have z : @LT.lt Nat _ b s₁.heap.objs.size := Heap.lt_size e
    have a : @LT.lt Nat _ b (s₁.heap.objs.size + 1) := Nat.lt_succ_of_lt z
    have c : @LT.lt Nat _ b (s₁.heap.objs.size + 1 + 1) := Nat.lt_succ_of_lt a
    rw [s1, s2]
    exact ⟨Nat.ne_of_lt z, Nat.ne_of_lt a, Nat.ne_of_lt c⟩
  have f0 : ∀ a, s₁.heap.objs.size ≤ a → h₀.get? a = none := fun a ha => fresh_none F ha
  obtain ⟨oL, _, _, hL, _⟩ := F.ns
  have nL := lt _ _ hL
  have hC₀ : h₀.get? H2.objs.size = none := f0 _ (by rw [s2]; exact Nat.le_succ_of_le (Nat.le_succ _))
  have hD₀ : h₀.get? H1.objs.size = none := f0 _ (by rw [s1]; exact Nat.le_succ _)
  have hI₀ : h₀.get? s₁.heap.objs.size = none := f0 _ (Nat.le_refl _)
  have hCD : H2.objs.size ≠ H1.objs.size := by rw [s1, s2]; exact Nat.ne_of_gt (Nat.lt_succ_self _)
  have hIC : s₁.heap.objs.size ≠ H2.objs.size := by rw [s2]; exact Nat.ne_of_lt (Nat.lt_succ_of_lt (Nat.lt_succ_self _))
  have hID : s₁.heap.objs.size ≠ H1.objs.size := by rw [s1]; exact Nat.ne_of_lt (Nat.lt_succ_self _)
  have off : ∀ p ∈ ([] : List (Addr × Obj)) ++ news, p.1 ≠ s₁.heap.objs.size ∧ p.1 ≠ H2.objs.size ∧ p.1 ≠ H1.objs.size := fun p hp => by
    have z := lt _ _ (N p hp).1
    exact ⟨z.1, z.2.2, z.2.1⟩
  have loop : ∀ s₃ : Shared, s₃ = { s₁ with heap := h₁, toks := s₁.toks + ([] : List (Str × Value)).length } →
      codeAny (model prog w) A (.compLoop (comp2 elt (.Name x0 px0) i0 (.Name x1 px1) i1 scope pos) 0 (.ref s₁.heap.objs.size) (.ref H1.objs.size) (compEnvC scope [] H2.objs.size env))
        (compPost (model prog w) A E (some (assign (.Name y py) env)) (fun _ s' => Q .next s') (.ref H1.objs.size) H2.objs.size) s₃ := by
    rintro s₃ rfl
    refine outer_loop (I := s₁.heap.objs.size) (C := H2.objs.size) (D := H1.objs.size) Y hx0 hx1 hkind hx01 hs1 (Ne.symm nL.2.2) (Ne.symm nL.2.1) (Ne.symm nL.1) hC₀ hD₀ hI₀ hCD hIC hID (fun h tk m' ys tl v hn => ?_) h₁ _ _
      ⟨F.keeps old, up3 _ _ zD, fun p hp => ⟨old _ _ (N p hp).1, (N p hp).2⟩, off, Filled.nil⟩ hns₁ ⟨_, up3 _ _ (up2 _ _ zI), rfl, rfl⟩
    show wpAny _ A (assign (.Name y py) env (.ref H1.objs.size)) _ _ _
    refine wpAny_assign_Name (wpAny_storeName_local hy v.fr.ns (fun h₂ hn₂ hs₂ => ?_) hp)
    have hL₀ : h₀.get? env.locals = none := Heap.get?_none_of_le v.fr.above
    have F₂ : Fr h₀ env.locals h₂ (fun z => if z = y then some (.ref H1.objs.size) else m z) := ⟨hn₂, fun b o e => hs₂.extBut b o (fun q => by rw [q, hL₀] at e; cases e) (v.fr.keep b o e), v.fr.above⟩
    refine ⟨m', hn.sameBut hs₂ (Ne.symm nL.2.2), fun h'' hs'' => Y.fin _ ys tl h'' _ v.fill (F₂.change hs'' (Ne.symm nL.2.2) hC₀) (fun p hp => ?_)⟩
    have z : h.get? p.1 = some p.2 ∧ p.1 ≠ env.locals ∧ h₀.get? p.1 = none ∧ p.1 ≠ H2.objs.size := by
      rcases List.mem_cons.mp hp with rfl | hp
      · exact ⟨v.acc, Ne.symm nL.2.1, hD₀, Ne.symm hCD⟩
      · exact ⟨(v.nw p hp).1, (v.nw p hp).2.1, (v.nw p hp).2.2, (v.off p hp).2.1⟩
    exact ⟨hs''.extBut _ _ z.2.2.2 (hs₂.extBut _ _ z.2.1 z.1), z.2.1, z.2.2.1⟩
  exact codeAny_compStart_list (loop _ rfl) (wpAny_pyIter_listiter ⟨_, up3 _ _ (up2 _ _ zI), rfl, rfl⟩ (loop _ rfl))
end
end Mine
end
section
set_option maxRecDepth 100000
namespace Mine
/-- the year's days -/
def yv (j : Nat) : Int × Str := (((j % 20 : Nat) : Int), haabS ((j / 20 : Nat) : Int))
theorem Filled.mono {val : Nat → Int × Str} {ys : List Value} {tl pre : List (Addr × Obj)} {k : Nat} (h : Filled val ys tl k) (hp : PreOk pre) (hs : ∀ p ∈ tl, p ∈ pre) : Filled val ys pre k :=
  ⟨h.1, fun j hj => let ⟨D, a, b, c, h1, h2⟩ := h.2.1 j hj; ⟨D, a, b, c, h1, hs _ h2⟩, hp⟩
section
variable {prog : Program} {w : World} {A : Around} {E : Value → Shared → Prop} {s : Shared} {h₀ : Heap} {L : Addr} {m : Str → Option Value} {news : List (Addr × Obj)}
theorem item_year {value slice : Expr} {D : Addr} {ys : List Value} {p : Int} {u : Tok} {pre : List (Addr × Obj)} {Q : Value → Shared → Prop} (N : News h₀ L s.heap news) (hm : (D, LCg.lst ys) ∈ news) (hf : Filled yv ys pre 365)
    (h : ∀ D' t1 t2 c, (D', tupO [.int (hDay p) t1, .str (haabS (hMon p)) t2] c) ∈ pre → Q (.ref D') s)
    (hs : subscripted slice false (.ref D) (.int ((348 + p) % 365) u) = operate [.ref D, .int ((348 + p) % 365) u] (getItem (.ref D) (.int ((348 + p) % 365) u))) (hg : ∀ r, letTemporaryGo value (.ref D) r = pure ()) :
    wpAny (model prog w) A (subscriptTail value slice (.ref D) (.int ((348 + p) % 365) u)) Q E s := by
  obtain ⟨D', t1, t2, c, h1, h2⟩ := hf.2.1 ((348 + p) % 365).toNat (by omega)
  refine item_listL (N.isList hm) (by omega) (by omega) (x := .ref D') h1 (h D' t1 t2 c ?_) hs hg
  have e1 : (yv ((348 + p) % 365).toNat).1 = hDay p := by simp only [yv, hDay, hPl]; omega
  have e2 : (yv ((348 + p) % 365).toNat).2 = haabS (hMon p) := congrArg haabS (by simp only [hMon, hPl]; omega)
  rw [e1, e2] at h2
  exact h2
end
end Mine
end
section
namespace Mine
set_option maxRecDepth 100000 in
set_option maxHeartbeats 8000000 in
theorem seg16 (w : World) (mean : ExcName → Option Value) (mg mb : Str → Option Value) (h₀ : Heap) (L c1 c2 : Addr) (ccd : Value) (m : Str → Option Value) (pre cc : List (Addr × Obj)) (s : Shared) (Q : Flow → Shared → Prop) (E : Value → Shared → Prop) (dp un : Nat) (gd : Option (List Code)) (o1 o2 : Obj) (D1 D2 Dn : Addr) (nd dd p : Int) (nn mm : Str) (u1 u2 u3 u4 tp tn tm td : Tok) (k1 k2 kn : Nat) (vs : List Value) (ns : List Int) (v1 v2 v3 v4 v5 : Tok) (Dy : Addr) (ys : List Value)
    (hd1 : dp + 20 < recursionLimit) (hu1 : un + 200 < cLine) (hB : Below callerA h₀ [] h₀) (hF : Fr h₀ L s.heap m) (hK : (theK.heap_1 w.params).In h₀) (hN : News h₀ L s.heap (pre ++ cc)) (hO : PreOk pre) (hC : CC cc) (hG : AllBare s.gens) (hT : Top p0 lo0 mean mg mb h₀) (hQ : Done h₀ L s.os Q)
    (hc1 : (c1, o1) ∈ pre) (ho1 : o1.data = .cell (some (.int p tp))) (hc2 : (c2, o2) ∈ pre) (ho2 : o2.data = .cell (some (.ref D1))) (m1 : m "numbers" = some (.ref Dn)) (m2 : m "number" = some (.int (584283 + p) tn)) (m3 : m "haab" = some (.ref D2)) (m4 : m "month" = some (.str mm tm)) (m5 : m "day" = some (.int dd td)) (n1 : (D1, tupO [.int nd u1, .str nn u2] k1) ∈ pre) (n2 : (D2, tupO [.int dd u3, .str mm u4] k2) ∈ pre) (nn0 : (Dn, W.listOf vs.toArray kn) ∈ pre) (hI : IntsAre vs ns) (hlen : (0 : Int) < ns.length) (hp : 0 ≤ p) (hnn : nn = "Nobody" ∨ ∃ i, 0 ≤ i ∧ i < 20 ∧ nn = tzS i) (hmm : mm = "Nobody" ∨ ∃ j, 0 ≤ j ∧ j < 19 ∧ mm = haabS j) (q1 : m "baktun" = some (.int (p / 20 / 18 / 20 / 20) v1)) (q2 : m "katun" = some (.int (p / 20 / 18 / 20 % 20) v2)) (q3 : m "tun" = some (.int (p / 20 / 18 % 20) v3)) (q4 : m "uinal" = some (.int (p / 20 % 18) v4)) (q5 : m "kin" = some (.int (p % 20) v5)) (my : m "year" = some (.ref Dy)) (ny : (Dy, LCg.lst ys) ∈ pre) (hf : Filled yv ys pre 365) : Seg w 16 dp un gd L ccd [("names", c2), ("past", c1)] Q E s := by
  unfold Seg
  revert hK
  k_fill
  intro hK
  conv in (occs := *) (scopeAt w) => all_goals whnf
  refine wpAny_execs_cons ?_
  w_top off
  repeat' (first | (k_unfold; (try dsimp only)) | (k_end; wrow_close) | ((with_reducible show wpAny _ _ (execs (_ :: _) _) _ _ _); (k_here; (with_reducible show wpAny _ _ (execs [_, _, _, _, _, _, _, _, _, _, _, _, _] _) _ _ _); (first | k_dflt (refine' seg19 _ _ _ _ _ _ _ _ _ _ (_ :: _) _ _ _ _ _ _ _ _ _ _ _ _ _ _ _ _ _ _ _ _ _ _ _ _ _ _ _ _ _ _ _ _ _ _ _ _ _ _ _ _ _ _ _ _ ?hd ?hu ?hB ?hF ?hK ?hN ?hO ?hC ?hG ?hT ?hQ ?x0 ?x1 ?x2 ?x3 ?x4 ?x5 ?x6 ?x7 ?x8 ?x9 ?x10 ?x11 ?x12 ?x13 ?x14 ?x15 ?x16 ?x17 ?x18 ?x19 ?x20 ?x21 ?x22 ?x23 ?x24 ?x25 ?x26; (case x0 => first | assumption | exact List.Mem.tail _ (by assumption) | exact List.Mem.tail _ (List.Mem.tail _ (by assumption))); (case hF => k_asm); (case x10 => (first | assumption | exact if_pos rfl | (refine (if_neg (by decide)).trans ?_; first | assumption | exact if_pos rfl | (refine (if_neg (by decide)).trans ?_; first | assumption | exact if_pos rfl | (refine (if_neg (by decide)).trans ?_; first | assumption | exact if_pos rfl | (refine (if_neg (by decide)).trans ?_; first | assumption | exact if_pos rfl)))))); (case x14 => exact List.Mem.head _); (case hN =>  ktr_rel); (case hC => assumption); (case hO => tb_start); (case hB => assumption); (case hK => assumption); (case hG => assumption); (case hT => assumption); (case hQ => assumption); (case hd => assumption); (case hu => assumption); (case x1 => assumption); (case x2 => first | assumption | exact List.Mem.tail _ (by assumption) | exact List.Mem.tail _ (List.Mem.tail _ (by assumption))); (case x3 => assumption); (case x4 => (first | assumption | exact if_pos rfl | (refine (if_neg (by decide)).trans ?_; first | assumption | exact if_pos rfl | (refine (if_neg (by decide)).trans ?_; first | assumption | exact if_pos rfl | (refine (if_neg (by decide)).trans ?_; first | assumption | exact if_pos rfl | (refine (if_neg (by decide)).trans ?_; first | assumption | exact if_pos rfl)))))); (case x5 => (first | assumption | exact if_pos rfl | (refine (if_neg (by decide)).trans ?_; first | assumption | exact if_pos rfl | (refine (if_neg (by decide)).trans ?_; first | assumption | exact if_pos rfl | (refine (if_neg (by decide)).trans ?_; first | assumption | exact if_pos rfl | (refine (if_neg (by decide)).trans ?_; first | assumption | exact if_pos rfl)))))); (case x6 => (first | assumption | exact if_pos rfl | (refine (if_neg (by decide)).trans ?_; first | assumption | exact if_pos rfl | (refine (if_neg (by decide)).trans ?_; first | assumption | exact if_pos rfl | (refine (if_neg (by decide)).trans ?_; first | assumption | exact if_pos rfl | (refine (if_neg (by decide)).trans ?_; first | assumption | exact if_pos rfl)))))); (case x7 => (first | assumption | exact if_pos rfl | (refine (if_neg (by decide)).trans ?_; first | assumption | exact if_pos rfl | (refine (if_neg (by decide)).trans ?_; first | assumption | exact if_pos rfl | (refine (if_neg (by decide)).trans ?_; first | assumption | exact if_pos rfl | (refine (if_neg (by decide)).trans ?_; first | assumption | exact if_pos rfl)))))); (case x8 => (first | assumption | exact if_pos rfl | (refine (if_neg (by decide)).trans ?_; first | assumption | exact if_pos rfl | (refine (if_neg (by decide)).trans ?_; first | assumption | exact if_pos rfl | (refine (if_neg (by decide)).trans ?_; first | assumption | exact if_pos rfl | (refine (if_neg (by decide)).trans ?_; first | assumption | exact if_pos rfl)))))); (case x9 => (first | assumption | exact if_pos rfl | (refine (if_neg (by decide)).trans ?_; first | assumption | exact if_pos rfl | (refine (if_neg (by decide)).trans ?_; first | assumption | exact if_pos rfl | (refine (if_neg (by decide)).trans ?_; first | assumption | exact if_pos rfl | (refine (if_neg (by decide)).trans ?_; first | assumption | exact if_pos rfl)))))); (case x11 => (first | assumption | exact if_pos rfl | (refine (if_neg (by decide)).trans ?_; first | assumption | exact if_pos rfl | (refine (if_neg (by decide)).trans ?_; first | assumption | exact if_pos rfl | (refine (if_neg (by decide)).trans ?_; first | assumption | exact if_pos rfl | (refine (if_neg (by decide)).trans ?_; first | assumption | exact if_pos rfl)))))); (case x12 => first | assumption | exact List.Mem.tail _ (by assumption) | exact List.Mem.tail _ (List.Mem.tail _ (by assumption))); (case x13 => first | assumption | exact List.Mem.tail _ (by assumption) | exact List.Mem.tail _ (List.Mem.tail _ (by assumption))); (case x15 => first | assumption | exact List.Mem.tail _ (by assumption) | exact List.Mem.tail _ (List.Mem.tail _ (by assumption))); (case x16 => first | assumption | exact List.Mem.tail _ (by assumption) | exact List.Mem.tail _ (List.Mem.tail _ (by assumption))); (case x17 => assumption); (case x18 => assumption); (case x19 => assumption); (case x20 => assumption); (case x21 => assumption); (case x22 => (first | assumption | exact if_pos rfl | (refine (if_neg (by decide)).trans ?_; first | assumption | exact if_pos rfl | (refine (if_neg (by decide)).trans ?_; first | assumption | exact if_pos rfl | (refine (if_neg (by decide)).trans ?_; first | assumption | exact if_pos rfl | (refine (if_neg (by decide)).trans ?_; first | assumption | exact if_pos rfl)))))); (case x23 => (first | assumption | exact if_pos rfl | (refine (if_neg (by decide)).trans ?_; first | assumption | exact if_pos rfl | (refine (if_neg (by decide)).trans ?_; first | assumption | exact if_pos rfl | (refine (if_neg (by decide)).trans ?_; first | assumption | exact if_pos rfl | (refine (if_neg (by decide)).trans ?_; first | assumption | exact if_pos rfl)))))); (case x24 => (first | assumption | exact if_pos rfl | (refine (if_neg (by decide)).trans ?_; first | assumption | exact if_pos rfl | (refine (if_neg (by decide)).trans ?_; first | assumption | exact if_pos rfl | (refine (if_neg (by decide)).trans ?_; first | assumption | exact if_pos rfl | (refine (if_neg (by decide)).trans ?_; first | assumption | exact if_pos rfl)))))); (case x25 => (first | assumption | exact if_pos rfl | (refine (if_neg (by decide)).trans ?_; first | assumption | exact if_pos rfl | (refine (if_neg (by decide)).trans ?_; first | assumption | exact if_pos rfl | (refine (if_neg (by decide)).trans ?_; first | assumption | exact if_pos rfl | (refine (if_neg (by decide)).trans ?_; first | assumption | exact if_pos rfl)))))); (case x26 => (first | assumption | exact if_pos rfl | (refine (if_neg (by decide)).trans ?_; first | assumption | exact if_pos rfl | (refine (if_neg (by decide)).trans ?_; first | assumption | exact if_pos rfl | (refine (if_neg (by decide)).trans ?_; first | assumption | exact if_pos rfl | (refine (if_neg (by decide)).trans ?_; first | assumption | exact if_pos rfl))))))) | refine Stop.mk ?_))) | ((with_reducible show wpAny _ _ (newTuple _) _ _ _); (k_here; k_dflt (refine' newtuple_K ?F ?N ?sz ?_; (case F => k_asm); (case N => k_asm); (case sz => decide)); (intro D9 h9 F9 N9 l9); (try simp only [List.cons_append, List.nil_append] at N9); (try dsimp only); (try k_fold); (try k_sweep))) | ((with_reducible show wpAny _ _ (call (Value.ref _) _) _ _ _); first | (k_here; (first | (with_reducible show wpAny _ _ (call (Value.ref 128) []) _ _ _) | ((with_reducible show wpAny _ _ (call (Value.ref 128) ([] ++ [])) _ _ _); show wpAny _ _ (call (Value.ref 128) []) _ _ _)); k_dflt (refine' CutN.use (n_moons _ _ _ _) ?B ?F ?X ?N ?T ?k ?d ?u ?_; (case B => k_asm); (case F => k_asm); (case X => k_asm); (case N => k_asm); (case T => k_asm); (case k => exact rfl); (case d => ktr_room); (case u => ktr_units)); (intro D9 vs9 c9 h9 tk9 st9 l9 F9 N9); (try dsimp only); (try k_fold); (try k_sweep)) | (k_here; (first | (with_reducible show wpAny _ _ (call (Value.ref 121) []) _ _ _) | ((with_reducible show wpAny _ _ (call (Value.ref 121) ([] ++ [])) _ _ _); show wpAny _ _ (call (Value.ref 121) []) _ _ _)); k_dflt (refine' CutN.use (n_names _ _ _ _) ?B ?F ?X ?N ?T ?k ?d ?u ?_; (case B => k_asm); (case F => k_asm); (case X => k_asm); (case N => k_asm); (case T => k_asm); (case k => exact rfl); (case d => ktr_room); (case u => ktr_units)); (intro D9 vs9 c9 h9 tk9 st9 l9 F9 N9); (try dsimp only); (try k_fold); (try k_sweep))) | ((with_reducible show wpAny _ _ (binaryOp Operator.Mod (Value.int _ _) (Value.int _ _)) _ _ _); (k_here; k_dflt (refine' mod_pos ?hb ?_; (case hb => decide)); intro t9; (try dsimp only))) | ((with_reducible show wpAny _ _ (subscriptTail _ _ _ _) _ _ _); first | (k_here; (with_reducible show wpAny _ _ (subscriptTail _ _ (Value.ref _) (Value.int ((348 + _) % 365) _)) _ _ _); k_dflt (refine' item_year ?N ?m ?f ?_ ?hs ?hg; (case N => k_asm); (case m => k_mem); (case f => assumption); (case hs => with_unfolding_all rfl); (case hg => intro _; with_unfolding_all rfl)); intro D9 t91 t92 c9 hm9; (try dsimp only)) | (k_here; (with_reducible show wpAny _ _ (subscriptTail _ _ (Value.ref _) (Value.int _ _)) _ _ _); k_dflt (refine' item_tab ?N ?m ?i ?h0 ?hk ?fit ?_ ?hs ?hg; (case N => k_asm); (case m => k_mem); (case i => assumption); (case h0 => first | assumption | omega); (case fit => decide); (case hk => first | assumption | omega | (show _ < (20 : Int); omega) | (show _ < (19 : Int); omega)); (case hs => with_unfolding_all rfl); (case hg => intro _; with_unfolding_all rfl)); intro t9; (try dsimp only)) | (k_here; (with_reducible show wpAny _ _ (subscriptTail _ _ (Value.ref _) (Value.int _ _)) _ _ _); (with_unfolding_all refine' item_anyK ?k1 ?k2 ?k3 ?k4 ?k5 ?_ ?k6; (case k1 => exact News.isList (by k_asm) (by k_mem)); (case k2 => assumption); (case k3 => decide); (case k4 => first | assumption | omega); (case k5 => decide); (case k6 => with_unfolding_all rfl); k_whole); intro t9; (try dsimp only))) | ((with_reducible show wpAny _ _ (eval (Expr.Name _ _) _) _ _ _); first | (k_here; refine' nameX_C ?N ?c ?m ?d ?_ ?k ?x ?b; (case k => exact rfl); (case x => exact rfl); (case b => decide); (case c => exact rfl); (case N => k_asm); (case m => k_mem); (case d => assumption)) | (k_here; refine' nameX_L ?F ?v ?_ ?k ?x ?d; (case k => exact rfl); (case x => exact rfl); (case d => decide); (case F => k_asm); (case v => (first | assumption | exact if_pos rfl | (refine (if_neg (by decide)).trans ?_; first | assumption | exact if_pos rfl | (refine (if_neg (by decide)).trans ?_; first | assumption | exact if_pos rfl | (refine (if_neg (by decide)).trans ?_; first | assumption | exact if_pos rfl | (refine (if_neg (by decide)).trans ?_; first | assumption | exact if_pos rfl)))))))) | ((with_reducible show wpAny _ _ (eval (Expr.Call (Expr.Name _ _) _ _ _) _) _ _ _); (k_here; refine Call_ ?_)) | walk1 | dsimp only | (leave1; try dsimp only))
  done
end Mine
end
section
set_option maxRecDepth 100000
namespace Mine
section
variable {prog : Program} {w : World} {A : Around} {E : Value → Shared → Prop} {s : Shared} {h₀ : Heap} {L : Addr} {m : Str → Option Value} {news : List (Addr × Obj)}
theorem newtuple_Y {vs : List Value} {Q : Value → Shared → Prop} (F : Fr h₀ L s.heap m) (N : News h₀ L s.heap news) (hsz : vs.length ≤ sizeLine)
    (h : ∀ D h', Fr h₀ L h' m → News h₀ L h' ((D, tupO vs 0) :: news) → (∀ b o, s.heap.get? b = some o → h'.get? b = some o) → s.heap.objs.size ≤ D → Q (.ref D) { s with heap := h' }) : wpAny (model prog w) A (newTuple vs) Q E s := by
  refine wpAny_newObj_type (h _ _ (F.push _) (N.push F _) (fun b o e => Heap.get?_push_of_some _ e) (Nat.le_refl _)) (by show vs.toArray.size ≤ sizeLine; rw [List.size_toArray]; exact hsz)
end
theorem news_sub {h₀ h : Heap} {L : Addr} {a b : List (Addr × Obj)} (N : News h₀ L h a) (hs : ∀ p ∈ b, p ∈ a) : News h₀ L h b := fun p hp => N p (hs p hp)
theorem PreOk.app {a b : List (Addr × Obj)} (ha : PreOk a) (hb : PreOk b) : PreOk (a ++ b) := fun p hp => by
  rcases List.mem_append.mp hp with hp | hp
  · exact ha p hp
  · exact hb p hp
abbrev ycnt (i : Nat) : Nat := if i < 18 then 20 else 5
abbrev yoff (i : Nat) : Nat := if i ≤ 18 then 20 * i else 365
theorem yoffS (i : Nat) (h : i < 19) : yoff (i + 1) = yoff i + ycnt i := by
  unfold yoff ycnt
  split <;> split <;> split <;> omega
theorem ybound (i : Nat) (h : i < 19) : yoff i + ycnt i ≤ sizeLine := by
  have hs : sizeLine = 16777216 := by decide
  rw [hs]
  unfold yoff ycnt
  split <;> split <;> omega
theorem yval (i : Nat) (x : Str) (hx : haabL[i]? = some x) (j : Nat) (hj : j < ycnt i) : yv (yoff i + j) = ((j : Int), x) := by
  have hi : i < 19 := by
    have : i < haabL.length := by
      rw [List.getElem?_eq_some_iff] at hx; exact hx.1
    exact this
  have hj20 : j < 20 := by unfold ycnt at hj; split at hj <;> omega
  have ho : yoff i = 20 * i := by unfold yoff; rw [if_pos (by omega)]
  unfold yv
  rw [ho]
  have a : (20 * i + j) % 20 = j := by omega
  have b : (20 * i + j) / 20 = i := by omega
  rw [a, b]
  have c : haabS (i : Int) = x := by
    show haabL.getD (i : Int).toNat Str.empty = x
    rw [Int.toNat_natCast, List.getD_eq_getElem?_getD, hx]
    rfl
  rw [c]
theorem ywayeb : ∀ i : _root_.Fin 19, haabL[i.val]? = some ("Wayeb'" : Str) → i.val = 18 := by decide
theorem ycnt_w {i : Nat} (hx : haabL[i]? = some ("Wayeb'" : Str)) : ycnt i = 5 := by
  have hi : i < haabL.length := by rw [List.getElem?_eq_some_iff] at hx; exact hx.1
  have := ywayeb ⟨i, hi⟩ hx
  dsimp only at this
  subst this
  rfl
theorem ycnt_n {i : Nat} {x : Str} (hx : haabL[i]? = some x) (hn : x ≠ "Wayeb'") : ycnt i = 20 := by
  have hi : i < haabL.length := by rw [List.getElem?_eq_some_iff] at hx; exact hx.1
  have hi : i < 19 := hi
  have : i ≠ 18 := fun z => by
    subst z
    exact hn (Option.some.inj hx).symm
  unfold ycnt
  rw [if_pos (by omega)]
end Mine
end
section
namespace Mine
set_option maxRecDepth 100000 in
set_option maxHeartbeats 8000000 in
theorem seg15 (w : World) (mean : ExcName → Option Value) (mg mb : Str → Option Value) (h₀ : Heap) (L c1 c2 : Addr) (ccd : Value) (m : Str → Option Value) (pre cc : List (Addr × Obj)) (s : Shared) (Q : Flow → Shared → Prop) (E : Value → Shared → Prop) (dp un : Nat) (gd : Option (List Code)) (o1 o2 : Obj) (D1 D2 Dn : Addr) (nd dd p : Int) (nn mm : Str) (u1 u2 u3 u4 tp tn tm td : Tok) (k1 k2 kn : Nat) (vs : List Value) (ns : List Int) (v1 v2 v3 v4 v5 : Tok)
    (hd1 : dp + 20 < recursionLimit) (hu1 : un + 200 < cLine) (hB : Below callerA h₀ [] h₀) (hF : Fr h₀ L s.heap m) (hK : (theK.heap_1 w.params).In h₀) (hN : News h₀ L s.heap (pre ++ cc)) (hO : PreOk pre) (hC : CC cc) (hG : AllBare s.gens) (hT : Top p0 lo0 mean mg mb h₀) (hQ : Done h₀ L s.os Q)
    (hc1 : (c1, o1) ∈ pre) (ho1 : o1.data = .cell (some (.int p tp))) (hc2 : (c2, o2) ∈ pre) (ho2 : o2.data = .cell (some (.ref D1))) (m1 : m "numbers" = some (.ref Dn)) (m2 : m "number" = some (.int (584283 + p) tn)) (m3 : m "haab" = some (.ref D2)) (m4 : m "month" = some (.str mm tm)) (m5 : m "day" = some (.int dd td)) (n1 : (D1, tupO [.int nd u1, .str nn u2] k1) ∈ pre) (n2 : (D2, tupO [.int dd u3, .str mm u4] k2) ∈ pre) (nn0 : (Dn, W.listOf vs.toArray kn) ∈ pre) (hI : IntsAre vs ns) (hlen : (0 : Int) < ns.length) (hp : 0 ≤ p) (hnn : nn = "Nobody" ∨ ∃ i, 0 ≤ i ∧ i < 20 ∧ nn = tzS i) (hmm : mm = "Nobody" ∨ ∃ j, 0 ≤ j ∧ j < 19 ∧ mm = haabS j) (q1 : m "baktun" = some (.int (p / 20 / 18 / 20 / 20) v1)) (q2 : m "katun" = some (.int (p / 20 / 18 / 20 % 20) v2)) (q3 : m "tun" = some (.int (p / 20 / 18 % 20) v3)) (q4 : m "uinal" = some (.int (p / 20 % 18) v4)) (q5 : m "kin" = some (.int (p % 20) v5)) : Seg w 15 dp un gd L ccd [("names", c2), ("past", c1)] Q E s := by
  unfold Seg
  revert hK
  k_fill
  intro hK
  conv in (occs := *) (scopeAt w) => all_goals whnf
  refine wpAny_execs_cons ?_
  w_top off
  repeat' (first | (k_unfold; (try dsimp only)) | (k_end; wrow_close) | ((with_reducible show wpAny _ _ (compareOp CmpOp.Eq (Value.str _ _) (Value.str _ _)) _ _ _); (k_here; k_dflt (refine' eq_str_no ?e ?_; (case e => assumption)))) | ((with_reducible show wpAny _ _ (newTuple _) _ _ _); (k_here; k_dflt (refine' newtuple_Y ?F ?N ?sz ?_; (case F => k_asm); (case N => k_asm); (case sz => exact Nat.le_of_ble_eq_true rfl)); (intro D9 h9 F9 N9 k9 l9); (try dsimp only))) | ((with_reducible show wpAny _ _ (exec (Stmt.Assign (_ :: _) (Expr.ListComp _ _ _ _) _) _) _ _ _); (k_here; k_dflt (refine Assign_year (by k_asm) (by rfl) (by with_unfolding_all rfl) (by with_unfolding_all rfl) (by decide) (by rfl) (by decide) (by rfl) (by rfl) (by decide) (by rfl) (by rfl) ?_))) | ((with_reducible show wpAny _ _ (call (Value.ref _) _) _ _ _); first | (k_here; (first | (with_reducible show wpAny _ _ (call (Value.ref 128) []) _ _ _) | ((with_reducible show wpAny _ _ (call (Value.ref 128) ([] ++ [])) _ _ _); show wpAny _ _ (call (Value.ref 128) []) _ _ _)); k_dflt (refine' CutN.use (n_moons _ _ _ _) ?B ?F ?X ?N ?T ?k ?d ?u ?_; (case B => k_asm); (case F => k_asm); (case X => k_asm); (case N => k_asm); (case T => k_asm); (case k => exact rfl); (case d => ktr_room); (case u => ktr_units)); (intro D9 vs9 c9 h9 tk9 st9 l9 F9 N9); (try dsimp only); (try k_fold); (try k_sweep)) | (k_here; (first | (with_reducible show wpAny _ _ (call (Value.ref 121) []) _ _ _) | ((with_reducible show wpAny _ _ (call (Value.ref 121) ([] ++ [])) _ _ _); show wpAny _ _ (call (Value.ref 121) []) _ _ _)); k_dflt (refine' CutN.use (n_names _ _ _ _) ?B ?F ?X ?N ?T ?k ?d ?u ?_; (case B => k_asm); (case F => k_asm); (case X => k_asm); (case N => k_asm); (case T => k_asm); (case k => exact rfl); (case d => ktr_room); (case u => ktr_units)); (intro D9 vs9 c9 h9 tk9 st9 l9 F9 N9); (try dsimp only); (try k_fold); (try k_sweep))) | ((with_reducible show wpAny _ _ (eval (Expr.Name _ _) _) _ _ _); first | (k_here; refine' nameX_C ?N ?c ?m ?d ?_ ?k ?x ?b; (case k => exact rfl); (case x => exact rfl); (case b => decide); (case c => exact rfl); (case N => k_asm); (case m => k_mem); (case d => assumption)) | (k_here; refine' nameX_L ?F ?v ?_ ?k ?x ?d; (case k => exact rfl); (case x => exact rfl); (case d => decide); (case F => k_asm); (case v => (first | assumption | exact if_pos rfl | (refine (if_neg (by decide)).trans ?_; first | assumption | exact if_pos rfl | (refine (if_neg (by decide)).trans ?_; first | assumption | exact if_pos rfl | (refine (if_neg (by decide)).trans ?_; first | assumption | exact if_pos rfl | (refine (if_neg (by decide)).trans ?_; first | assumption | exact if_pos rfl)))))))) | ((with_reducible show wpAny _ _ (eval (Expr.Call (Expr.Name _ _) _ _ _) _) _ _ _); (k_here; refine Call_ ?_)) | walk1 | dsimp only | (leave1; try dsimp only))
  refine ⟨D9, vs9, c9, haabL, (D9, W.listOf vs9.toArray c9) :: (pre ++ cc), ycnt, yoff, yv, rfl, ?_⟩
  refine' { hh := rfl, fr := ?_, nw := N9, src := List.Mem.head _, txs := st9, off0 := rfl, offS := fun i h => yoffS i h, size := ?_, bound := fun i h => ybound i h, hval := fun i x hx j hj => yval i x hx j hj, rng := ?_, helt := ?_, fin := ?_ }
  · k_asm
  · decide
  · intro i x hx C oC m₂ h tk nw t Q' E' F' N' hm hC h0 k
    by_cases hw : x = "Wayeb'"
    · subst hw
      rw [ycnt_w hx] at k
      w_top off
      repeat' (first | (k_unfold; (try dsimp only)) | (k_end; wrow_close) | ((with_reducible show wpAny _ _ (compareOp CmpOp.Eq (Value.str _ _) (Value.str _ _)) _ _ _); (k_here; k_dflt (refine' eq_str_no ?e ?_; (case e => assumption)))) | ((with_reducible show wpAny _ _ (newTuple _) _ _ _); (k_here; k_dflt (refine' newtuple_Y ?F ?N ?sz ?_; (case F => k_asm); (case N => k_asm); (case sz => exact Nat.le_of_ble_eq_true rfl)); (intro D9 h9 F9 N9 k9 l9); (try dsimp only))) | ((with_reducible show wpAny _ _ (exec (Stmt.Assign (_ :: _) (Expr.ListComp _ _ _ _) _) _) _ _ _); (k_here; k_dflt (refine Assign_year (by k_asm) (by rfl) (by with_unfolding_all rfl) (by with_unfolding_all rfl) (by decide) (by rfl) (by decide) (by rfl) (by rfl) (by decide) (by rfl) (by rfl) ?_))) | ((with_reducible show wpAny _ _ (call (Value.ref _) _) _ _ _); first | (k_here; (first | (with_reducible show wpAny _ _ (call (Value.ref 128) []) _ _ _) | ((with_reducible show wpAny _ _ (call (Value.ref 128) ([] ++ [])) _ _ _); show wpAny _ _ (call (Value.ref 128) []) _ _ _)); k_dflt (refine' CutN.use (n_moons _ _ _ _) ?B ?F ?X ?N ?T ?k ?d ?u ?_; (case B => k_asm); (case F => k_asm); (case X => k_asm); (case N => k_asm); (case T => k_asm); (case k => exact rfl); (case d => ktr_room); (case u => ktr_units)); (intro D9 vs9 c9 h9 tk9 st9 l9 F9 N9); (try dsimp only); (try k_fold); (try k_sweep)) | (k_here; (first | (with_reducible show wpAny _ _ (call (Value.ref 121) []) _ _ _) | ((with_reducible show wpAny _ _ (call (Value.ref 121) ([] ++ [])) _ _ _); show wpAny _ _ (call (Value.ref 121) []) _ _ _)); k_dflt (refine' CutN.use (n_names _ _ _ _) ?B ?F ?X ?N ?T ?k ?d ?u ?_; (case B => k_asm); (case F => k_asm); (case X => k_asm); (case N => k_asm); (case T => k_asm); (case k => exact rfl); (case d => ktr_room); (case u => ktr_units)); (intro D9 vs9 c9 h9 tk9 st9 l9 F9 N9); (try dsimp only); (try k_fold); (try k_sweep))) | ((with_reducible show wpAny _ _ (eval (Expr.Name _ _) _) _ _ _); first | (k_here; refine' nameX_C ?N ?c ?m ?d ?_ ?k ?x ?b; (case k => exact rfl); (case x => exact rfl); (case b => decide); (case c => exact rfl); (case N => k_asm); (case m => k_mem); (case d => assumption)) | (k_here; refine' nameX_L ?F ?v ?_ ?k ?x ?d; (case k => exact rfl); (case x => exact rfl); (case d => decide); (case F => k_asm); (case v => (first | assumption | exact if_pos rfl | (refine (if_neg (by decide)).trans ?_; first | assumption | exact if_pos rfl | (refine (if_neg (by decide)).trans ?_; first | assumption | exact if_pos rfl | (refine (if_neg (by decide)).trans ?_; first | assumption | exact if_pos rfl | (refine (if_neg (by decide)).trans ?_; first | assumption | exact if_pos rfl)))))))) | ((with_reducible show wpAny _ _ (eval (Expr.Call (Expr.Name _ _) _ _ _) _) _ _ _); (k_here; refine Call_ ?_)) | walk1 | dsimp only | (leave1; try dsimp only))
      all_goals exact k _ _ _ _ _ _ (by assumption) (by k_asm) (by k_asm) (by assumption)
    · rw [ycnt_n hx hw] at k
      w_top off
      repeat' (first | (k_unfold; (try dsimp only)) | (k_end; wrow_close) | ((with_reducible show wpAny _ _ (compareOp CmpOp.Eq (Value.str _ _) (Value.str _ _)) _ _ _); (k_here; k_dflt (refine' eq_str_no ?e ?_; (case e => assumption)))) | ((with_reducible show wpAny _ _ (newTuple _) _ _ _); (k_here; k_dflt (refine' newtuple_Y ?F ?N ?sz ?_; (case F => k_asm); (case N => k_asm); (case sz => exact Nat.le_of_ble_eq_true rfl)); (intro D9 h9 F9 N9 k9 l9); (try dsimp only))) | ((with_reducible show wpAny _ _ (exec (Stmt.Assign (_ :: _) (Expr.ListComp _ _ _ _) _) _) _ _ _); (k_here; k_dflt (refine Assign_year (by k_asm) (by rfl) (by with_unfolding_all rfl) (by with_unfolding_all rfl) (by decide) (by rfl) (by decide) (by rfl) (by rfl) (by decide) (by rfl) (by rfl) ?_))) | ((with_reducible show wpAny _ _ (call (Value.ref _) _) _ _ _); first | (k_here; (first | (with_reducible show wpAny _ _ (call (Value.ref 128) []) _ _ _) | ((with_reducible show wpAny _ _ (call (Value.ref 128) ([] ++ [])) _ _ _); show wpAny _ _ (call (Value.ref 128) []) _ _ _)); k_dflt (refine' CutN.use (n_moons _ _ _ _) ?B ?F ?X ?N ?T ?k ?d ?u ?_; (case B => k_asm); (case F => k_asm); (case X => k_asm); (case N => k_asm); (case T => k_asm); (case k => exact rfl); (case d => ktr_room); (case u => ktr_units)); (intro D9 vs9 c9 h9 tk9 st9 l9 F9 N9); (try dsimp only); (try k_fold); (try k_sweep)) | (k_here; (first | (with_reducible show wpAny _ _ (call (Value.ref 121) []) _ _ _) | ((with_reducible show wpAny _ _ (call (Value.ref 121) ([] ++ [])) _ _ _); show wpAny _ _ (call (Value.ref 121) []) _ _ _)); k_dflt (refine' CutN.use (n_names _ _ _ _) ?B ?F ?X ?N ?T ?k ?d ?u ?_; (case B => k_asm); (case F => k_asm); (case X => k_asm); (case N => k_asm); (case T => k_asm); (case k => exact rfl); (case d => ktr_room); (case u => ktr_units)); (intro D9 vs9 c9 h9 tk9 st9 l9 F9 N9); (try dsimp only); (try k_fold); (try k_sweep))) | ((with_reducible show wpAny _ _ (eval (Expr.Name _ _) _) _ _ _); first | (k_here; refine' nameX_C ?N ?c ?m ?d ?_ ?k ?x ?b; (case k => exact rfl); (case x => exact rfl); (case b => decide); (case c => exact rfl); (case N => k_asm); (case m => k_mem); (case d => assumption)) | (k_here; refine' nameX_L ?F ?v ?_ ?k ?x ?d; (case k => exact rfl); (case x => exact rfl); (case d => decide); (case F => k_asm); (case v => (first | assumption | exact if_pos rfl | (refine (if_neg (by decide)).trans ?_; first | assumption | exact if_pos rfl | (refine (if_neg (by decide)).trans ?_; first | assumption | exact if_pos rfl | (refine (if_neg (by decide)).trans ?_; first | assumption | exact if_pos rfl | (refine (if_neg (by decide)).trans ?_; first | assumption | exact if_pos rfl)))))))) | ((with_reducible show wpAny _ _ (eval (Expr.Call (Expr.Name _ _) _ _ _) _) _ _ _); (k_here; refine Call_ ?_)) | walk1 | dsimp only | (leave1; try dsimp only))
      all_goals exact k _ _ _ _ _ _ (by assumption) (by k_asm) (by k_asm) (by assumption)
  · intro C oC m₂ h tk nw x t n t' Q' E' F' N' hm hC h0 h1 k
    w_top off
    repeat' (first | (k_unfold; (try dsimp only)) | (k_end; wrow_close) | ((with_reducible show wpAny _ _ (compareOp CmpOp.Eq (Value.str _ _) (Value.str _ _)) _ _ _); (k_here; k_dflt (refine' eq_str_no ?e ?_; (case e => assumption)))) | ((with_reducible show wpAny _ _ (newTuple _) _ _ _); (k_here; k_dflt (refine' newtuple_Y ?F ?N ?sz ?_; (case F => k_asm); (case N => k_asm); (case sz => exact Nat.le_of_ble_eq_true rfl)); (intro D9 h9 F9 N9 k9 l9); (try dsimp only))) | ((with_reducible show wpAny _ _ (exec (Stmt.Assign (_ :: _) (Expr.ListComp _ _ _ _) _) _) _ _ _); (k_here; k_dflt (refine Assign_year (by k_asm) (by rfl) (by with_unfolding_all rfl) (by with_unfolding_all rfl) (by decide) (by rfl) (by decide) (by rfl) (by rfl) (by decide) (by rfl) (by rfl) ?_))) | ((with_reducible show wpAny _ _ (call (Value.ref _) _) _ _ _); first | (k_here; (first | (with_reducible show wpAny _ _ (call (Value.ref 128) []) _ _ _) | ((with_reducible show wpAny _ _ (call (Value.ref 128) ([] ++ [])) _ _ _); show wpAny _ _ (call (Value.ref 128) []) _ _ _)); k_dflt (refine' CutN.use (n_moons _ _ _ _) ?B ?F ?X ?N ?T ?k ?d ?u ?_; (case B => k_asm); (case F => k_asm); (case X => k_asm); (case N => k_asm); (case T => k_asm); (case k => exact rfl); (case d => ktr_room); (case u => ktr_units)); (intro D9 vs9 c9 h9 tk9 st9 l9 F9 N9); (try dsimp only); (try k_fold); (try k_sweep)) | (k_here; (first | (with_reducible show wpAny _ _ (call (Value.ref 121) []) _ _ _) | ((with_reducible show wpAny _ _ (call (Value.ref 121) ([] ++ [])) _ _ _); show wpAny _ _ (call (Value.ref 121) []) _ _ _)); k_dflt (refine' CutN.use (n_names _ _ _ _) ?B ?F ?X ?N ?T ?k ?d ?u ?_; (case B => k_asm); (case F => k_asm); (case X => k_asm); (case N => k_asm); (case T => k_asm); (case k => exact rfl); (case d => ktr_room); (case u => ktr_units)); (intro D9 vs9 c9 h9 tk9 st9 l9 F9 N9); (try dsimp only); (try k_fold); (try k_sweep))) | ((with_reducible show wpAny _ _ (eval (Expr.Name _ _) _) _ _ _); first | (k_here; refine' nameX_C ?N ?c ?m ?d ?_ ?k ?x ?b; (case k => exact rfl); (case x => exact rfl); (case b => decide); (case c => exact rfl); (case N => k_asm); (case m => k_mem); (case d => assumption)) | (k_here; refine' nameX_L ?F ?v ?_ ?k ?x ?d; (case k => exact rfl); (case x => exact rfl); (case d => decide); (case F => k_asm); (case v => (first | assumption | exact if_pos rfl | (refine (if_neg (by decide)).trans ?_; first | assumption | exact if_pos rfl | (refine (if_neg (by decide)).trans ?_; first | assumption | exact if_pos rfl | (refine (if_neg (by decide)).trans ?_; first | assumption | exact if_pos rfl | (refine (if_neg (by decide)).trans ?_; first | assumption | exact if_pos rfl)))))))) | ((with_reducible show wpAny _ _ (eval (Expr.Call (Expr.Name _ _) _ _ _) _) _ _ _); (k_here; refine Call_ ?_)) | walk1 | dsimp only | (leave1; try dsimp only))
    all_goals exact k _ _ _ _ (by k_asm) (by k_asm) (by assumption) (by assumption)
  · intro D ys tl h tk hfill F' N'
    have hO' : PreOk ((D, LCg.lst ys) :: (tl ++ pre)) := PreOk.cons rfl (PreOk.app hfill.2.2 hO)
    have inP : ∀ {q : Addr × Obj}, q ∈ pre → q ∈ (D, LCg.lst ys) :: (tl ++ pre) := fun hq => .tail _ (List.mem_append_right _ hq)
    exact seg16 w mean mg mb h₀ L c1 c2 ccd _ ((D, LCg.lst ys) :: (tl ++ pre)) cc _ Q E dp un gd o1 o2 D1 D2 Dn nd dd p nn mm u1 u2 u3 u4 tp tn tm td k1 k2 kn vs ns v1 v2 v3 v4 v5 D ys
      hd1 hu1 hB F' hK (news_sub N' fun q hq => by
        rcases List.mem_cons.mp hq with rfl | hq
        · exact .head _
        · rcases List.mem_append.mp hq with hq | hq
          · rcases List.mem_append.mp hq with hq | hq
            · exact .tail _ (List.mem_append_left _ hq)
            · exact .tail _ (List.mem_append_right _ (.tail _ (List.mem_append_left _ hq)))
          · exact .tail _ (List.mem_append_right _ (.tail _ (List.mem_append_right _ hq))))
      hO' hC hG hT hQ (inP hc1) ho1 (inP hc2) ho2 (by (first | assumption | exact if_pos rfl | (refine (if_neg (by decide)).trans ?_; first | assumption | exact if_pos rfl | (refine (if_neg (by decide)).trans ?_; first | assumption | exact if_pos rfl | (refine (if_neg (by decide)).trans ?_; first | assumption | exact if_pos rfl | (refine (if_neg (by decide)).trans ?_; first | assumption | exact if_pos rfl)))))) (by (first | assumption | exact if_pos rfl | (refine (if_neg (by decide)).trans ?_; first | assumption | exact if_pos rfl | (refine (if_neg (by decide)).trans ?_; first | assumption | exact if_pos rfl | (refine (if_neg (by decide)).trans ?_; first | assumption | exact if_pos rfl | (refine (if_neg (by decide)).trans ?_; first | assumption | exact if_pos rfl)))))) (by (first | assumption | exact if_pos rfl | (refine (if_neg (by decide)).trans ?_; first | assumption | exact if_pos rfl | (refine (if_neg (by decide)).trans ?_; first | assumption | exact if_pos rfl | (refine (if_neg (by decide)).trans ?_; first | assumption | exact if_pos rfl | (refine (if_neg (by decide)).trans ?_; first | assumption | exact if_pos rfl)))))) (by (first | assumption | exact if_pos rfl | (refine (if_neg (by decide)).trans ?_; first | assumption | exact if_pos rfl | (refine (if_neg (by decide)).trans ?_; first | assumption | exact if_pos rfl | (refine (if_neg (by decide)).trans ?_; first | assumption | exact if_pos rfl | (refine (if_neg (by decide)).trans ?_; first | assumption | exact if_pos rfl)))))) (by (first | assumption | exact if_pos rfl | (refine (if_neg (by decide)).trans ?_; first | assumption | exact if_pos rfl | (refine (if_neg (by decide)).trans ?_; first | assumption | exact if_pos rfl | (refine (if_neg (by decide)).trans ?_; first | assumption | exact if_pos rfl | (refine (if_neg (by decide)).trans ?_; first | assumption | exact if_pos rfl)))))) (inP n1) (inP n2) (inP nn0) hI hlen hp hnn hmm (by (first | assumption | exact if_pos rfl | (refine (if_neg (by decide)).trans ?_; first | assumption | exact if_pos rfl | (refine (if_neg (by decide)).trans ?_; first | assumption | exact if_pos rfl | (refine (if_neg (by decide)).trans ?_; first | assumption | exact if_pos rfl | (refine (if_neg (by decide)).trans ?_; first | assumption | exact if_pos rfl)))))) (by (first | assumption | exact if_pos rfl | (refine (if_neg (by decide)).trans ?_; first | assumption | exact if_pos rfl | (refine (if_neg (by decide)).trans ?_; first | assumption | exact if_pos rfl | (refine (if_neg (by decide)).trans ?_; first | assumption | exact if_pos rfl | (refine (if_neg (by decide)).trans ?_; first | assumption | exact if_pos rfl)))))) (by (first | assumption | exact if_pos rfl | (refine (if_neg (by decide)).trans ?_; first | assumption | exact if_pos rfl | (refine (if_neg (by decide)).trans ?_; first | assumption | exact if_pos rfl | (refine (if_neg (by decide)).trans ?_; first | assumption | exact if_pos rfl | (refine (if_neg (by decide)).trans ?_; first | assumption | exact if_pos rfl)))))) (by (first | assumption | exact if_pos rfl | (refine (if_neg (by decide)).trans ?_; first | assumption | exact if_pos rfl | (refine (if_neg (by decide)).trans ?_; first | assumption | exact if_pos rfl | (refine (if_neg (by decide)).trans ?_; first | assumption | exact if_pos rfl | (refine (if_neg (by decide)).trans ?_; first | assumption | exact if_pos rfl)))))) (by (first | assumption | exact if_pos rfl | (refine (if_neg (by decide)).trans ?_; first | assumption | exact if_pos rfl | (refine (if_neg (by decide)).trans ?_; first | assumption | exact if_pos rfl | (refine (if_neg (by decide)).trans ?_; first | assumption | exact if_pos rfl | (refine (if_neg (by decide)).trans ?_; first | assumption | exact if_pos rfl)))))) (if_pos rfl) (.head _) (hfill.mono hO' fun q hq => .tail _ (List.mem_append_left _ hq))

end Mine
end
section
namespace Mine
set_option maxRecDepth 100000 in
set_option maxHeartbeats 8000000 in
theorem seg11 (w : World) (mean : ExcName → Option Value) (mg mb : Str → Option Value) (h₀ : Heap) (L c1 c2 : Addr) (ccd : Value) (m : Str → Option Value) (pre cc : List (Addr × Obj)) (s : Shared) (Q : Flow → Shared → Prop) (E : Value → Shared → Prop) (dp un : Nat) (gd : Option (List Code)) (o1 o2 : Obj) (D1 D2 Dn : Addr) (nd dd p : Int) (nn mm : Str) (u1 u2 u3 u4 tp tn tm td : Tok) (k1 k2 kn : Nat) (vs : List Value) (ns : List Int)
    (hd1 : dp + 20 < recursionLimit) (hu1 : un + 200 < cLine) (hB : Below callerA h₀ [] h₀) (hF : Fr h₀ L s.heap m) (hK : (theK.heap_1 w.params).In h₀) (hN : News h₀ L s.heap (pre ++ cc)) (hO : PreOk pre) (hC : CC cc) (hG : AllBare s.gens) (hT : Top p0 lo0 mean mg mb h₀) (hQ : Done h₀ L s.os Q)
    (hc1 : (c1, o1) ∈ pre) (ho1 : o1.data = .cell (some (.int p tp))) (hc2 : (c2, o2) ∈ pre) (ho2 : o2.data = .cell (some (.ref D1))) (m1 : m "numbers" = some (.ref Dn)) (m2 : m "number" = some (.int (584283 + p) tn)) (m3 : m "haab" = some (.ref D2)) (m4 : m "month" = some (.str mm tm)) (m5 : m "day" = some (.int dd td)) (n1 : (D1, tupO [.int nd u1, .str nn u2] k1) ∈ pre) (n2 : (D2, tupO [.int dd u3, .str mm u4] k2) ∈ pre) (nn0 : (Dn, W.listOf vs.toArray kn) ∈ pre) (hI : IntsAre vs ns) (hlen : (0 : Int) < ns.length) (hp : 0 ≤ p) (hnn : nn = "Nobody" ∨ ∃ i, 0 ≤ i ∧ i < 20 ∧ nn = tzS i) (hmm : mm = "Nobody" ∨ ∃ j, 0 ≤ j ∧ j < 19 ∧ mm = haabS j) : Seg w 11 dp un gd L ccd [("names", c2), ("past", c1)] Q E s := by
  unfold Seg
  revert hK
  k_fill
  intro hK
  conv in (occs := *) (scopeAt w) => all_goals whnf
  refine wpAny_execs_cons ?_
  w_top off
  repeat' (first | (k_unfold; (try dsimp only)) | (k_end; wrow_close) | ((with_reducible show wpAny _ _ (execs (_ :: _) _) _ _ _); (k_here; (with_reducible show wpAny _ _ (execs [_, _, _, _, _, _, _, _, _, _, _, _, _, _, _, _, _] _) _ _ _); (first | k_dflt (refine' seg15 _ _ _ _ _ _ _ _ _ _ _ _ _ _ _ _ _ _ _ _ _ _ _ _ _ _ _ _ _ _ _ _ _ _ _ _ _ _ _ _ _ _ _ _ _ _ ?hd ?hu ?hB ?hF ?hK ?hN ?hO ?hC ?hG ?hT ?hQ ?x0 ?x1 ?x2 ?x3 ?x4 ?x5 ?x6 ?x7 ?x8 ?x9 ?x10 ?x11 ?x12 ?x13 ?x14 ?x15 ?x16 ?x17 ?x18 ?x19 ?x20 ?x21; (case hF => k_asm); (case hN =>  ktr_rel); (case hC => assumption); (case hO => assumption); (case hB => assumption); (case hK => assumption); (case hG => assumption); (case hT => assumption); (case hQ => assumption); (case hd => assumption); (case hu => assumption); (case x0 => assumption); (case x1 => assumption); (case x2 => assumption); (case x3 => assumption); (case x4 => (first | assumption | exact if_pos rfl | (refine (if_neg (by decide)).trans ?_; (first | assumption | exact if_pos rfl | (refine (if_neg (by decide)).trans ?_; (first | assumption | exact if_pos rfl | (refine (if_neg (by decide)).trans ?_; (first | assumption | exact if_pos rfl | (refine (if_neg (by decide)).trans ?_; (first | assumption | exact if_pos rfl | (refine (if_neg (by decide)).trans ?_; (first | assumption | exact if_pos rfl | (refine (if_neg (by decide)).trans ?_; (first | assumption | exact if_pos rfl | (refine (if_neg (by decide)).trans ?_; (first | assumption | exact if_pos rfl | (refine (if_neg (by decide)).trans ?_; (first | assumption | exact if_pos rfl | (refine (if_neg (by decide)).trans ?_; (first | assumption | exact if_pos rfl | (refine (if_neg (by decide)).trans ?_; (first | assumption | exact if_pos rfl | (refine (if_neg (by decide)).trans ?_; (first | assumption | exact if_pos rfl)))))))))))))))))))))))); (case x5 => (first | assumption | exact if_pos rfl | (refine (if_neg (by decide)).trans ?_; (first | assumption | exact if_pos rfl | (refine (if_neg (by decide)).trans ?_; (first | assumption | exact if_pos rfl | (refine (if_neg (by decide)).trans ?_; (first | assumption | exact if_pos rfl | (refine (if_neg (by decide)).trans ?_; (first | assumption | exact if_pos rfl | (refine (if_neg (by decide)).trans ?_; (first | assumption | exact if_pos rfl | (refine (if_neg (by decide)).trans ?_; (first | assumption | exact if_pos rfl | (refine (if_neg (by decide)).trans ?_; (first | assumption | exact if_pos rfl | (refine (if_neg (by decide)).trans ?_; (first | assumption | exact if_pos rfl | (refine (if_neg (by decide)).trans ?_; (first | assumption | exact if_pos rfl | (refine (if_neg (by decide)).trans ?_; (first | assumption | exact if_pos rfl | (refine (if_neg (by decide)).trans ?_; (first | assumption | exact if_pos rfl)))))))))))))))))))))))); (case x6 => (first | assumption | exact if_pos rfl | (refine (if_neg (by decide)).trans ?_; (first | assumption | exact if_pos rfl | (refine (if_neg (by decide)).trans ?_; (first | assumption | exact if_pos rfl | (refine (if_neg (by decide)).trans ?_; (first | assumption | exact if_pos rfl | (refine (if_neg (by decide)).trans ?_; (first | assumption | exact if_pos rfl | (refine (if_neg (by decide)).trans ?_; (first | assumption | exact if_pos rfl | (refine (if_neg (by decide)).trans ?_; (first | assumption | exact if_pos rfl | (refine (if_neg (by decide)).trans ?_; (first | assumption | exact if_pos rfl | (refine (if_neg (by decide)).trans ?_; (first | assumption | exact if_pos rfl | (refine (if_neg (by decide)).trans ?_; (first | assumption | exact if_pos rfl | (refine (if_neg (by decide)).trans ?_; (first | assumption | exact if_pos rfl | (refine (if_neg (by decide)).trans ?_; (first | assumption | exact if_pos rfl)))))))))))))))))))))))); (case x7 => (first | assumption | exact if_pos rfl | (refine (if_neg (by decide)).trans ?_; (first | assumption | exact if_pos rfl | (refine (if_neg (by decide)).trans ?_; (first | assumption | exact if_pos rfl | (refine (if_neg (by decide)).trans ?_; (first | assumption | exact if_pos rfl | (refine (if_neg (by decide)).trans ?_; (first | assumption | exact if_pos rfl | (refine (if_neg (by decide)).trans ?_; (first | assumption | exact if_pos rfl | (refine (if_neg (by decide)).trans ?_; (first | assumption | exact if_pos rfl | (refine (if_neg (by decide)).trans ?_; (first | assumption | exact if_pos rfl | (refine (if_neg (by decide)).trans ?_; (first | assumption | exact if_pos rfl | (refine (if_neg (by decide)).trans ?_; (first | assumption | exact if_pos rfl | (refine (if_neg (by decide)).trans ?_; (first | assumption | exact if_pos rfl | (refine (if_neg (by decide)).trans ?_; (first | assumption | exact if_pos rfl)))))))))))))))))))))))); (case x8 => (first | assumption | exact if_pos rfl | (refine (if_neg (by decide)).trans ?_; (first | assumption | exact if_pos rfl | (refine (if_neg (by decide)).trans ?_; (first | assumption | exact if_pos rfl | (refine (if_neg (by decide)).trans ?_; (first | assumption | exact if_pos rfl | (refine (if_neg (by decide)).trans ?_; (first | assumption | exact if_pos rfl | (refine (if_neg (by decide)).trans ?_; (first | assumption | exact if_pos rfl | (refine (if_neg (by decide)).trans ?_; (first | assumption | exact if_pos rfl | (refine (if_neg (by decide)).trans ?_; (first | assumption | exact if_pos rfl | (refine (if_neg (by decide)).trans ?_; (first | assumption | exact if_pos rfl | (refine (if_neg (by decide)).trans ?_; (first | assumption | exact if_pos rfl | (refine (if_neg (by decide)).trans ?_; (first | assumption | exact if_pos rfl | (refine (if_neg (by decide)).trans ?_; (first | assumption | exact if_pos rfl)))))))))))))))))))))))); (case x9 => assumption); (case x10 => assumption); (case x11 => assumption); (case x12 => assumption); (case x13 => assumption); (case x14 => assumption); (case x15 => assumption); (case x16 => assumption); (case x17 => (first | assumption | exact if_pos rfl | (refine (if_neg (by decide)).trans ?_; (first | assumption | exact if_pos rfl | (refine (if_neg (by decide)).trans ?_; (first | assumption | exact if_pos rfl | (refine (if_neg (by decide)).trans ?_; (first | assumption | exact if_pos rfl | (refine (if_neg (by decide)).trans ?_; (first | assumption | exact if_pos rfl | (refine (if_neg (by decide)).trans ?_; (first | assumption | exact if_pos rfl | (refine (if_neg (by decide)).trans ?_; (first | assumption | exact if_pos rfl | (refine (if_neg (by decide)).trans ?_; (first | assumption | exact if_pos rfl | (refine (if_neg (by decide)).trans ?_; (first | assumption | exact if_pos rfl | (refine (if_neg (by decide)).trans ?_; (first | assumption | exact if_pos rfl | (refine (if_neg (by decide)).trans ?_; (first | assumption | exact if_pos rfl | (refine (if_neg (by decide)).trans ?_; (first | assumption | exact if_pos rfl)))))))))))))))))))))))); (case x18 => (first | assumption | exact if_pos rfl | (refine (if_neg (by decide)).trans ?_; (first | assumption | exact if_pos rfl | (refine (if_neg (by decide)).trans ?_; (first | assumption | exact if_pos rfl | (refine (if_neg (by decide)).trans ?_; (first | assumption | exact if_pos rfl | (refine (if_neg (by decide)).trans ?_; (first | assumption | exact if_pos rfl | (refine (if_neg (by decide)).trans ?_; (first | assumption | exact if_pos rfl | (refine (if_neg (by decide)).trans ?_; (first | assumption | exact if_pos rfl | (refine (if_neg (by decide)).trans ?_; (first | assumption | exact if_pos rfl | (refine (if_neg (by decide)).trans ?_; (first | assumption | exact if_pos rfl | (refine (if_neg (by decide)).trans ?_; (first | assumption | exact if_pos rfl | (refine (if_neg (by decide)).trans ?_; (first | assumption | exact if_pos rfl | (refine (if_neg (by decide)).trans ?_; (first | assumption | exact if_pos rfl)))))))))))))))))))))))); (case x19 => (first | assumption | exact if_pos rfl | (refine (if_neg (by decide)).trans ?_; (first | assumption | exact if_pos rfl | (refine (if_neg (by decide)).trans ?_; (first | assumption | exact if_pos rfl | (refine (if_neg (by decide)).trans ?_; (first | assumption | exact if_pos rfl | (refine (if_neg (by decide)).trans ?_; (first | assumption | exact if_pos rfl | (refine (if_neg (by decide)).trans ?_; (first | assumption | exact if_pos rfl | (refine (if_neg (by decide)).trans ?_; (first | assumption | exact if_pos rfl | (refine (if_neg (by decide)).trans ?_; (first | assumption | exact if_pos rfl | (refine (if_neg (by decide)).trans ?_; (first | assumption | exact if_pos rfl | (refine (if_neg (by decide)).trans ?_; (first | assumption | exact if_pos rfl | (refine (if_neg (by decide)).trans ?_; (first | assumption | exact if_pos rfl | (refine (if_neg (by decide)).trans ?_; (first | assumption | exact if_pos rfl)))))))))))))))))))))))); (case x20 => (first | assumption | exact if_pos rfl | (refine (if_neg (by decide)).trans ?_; (first | assumption | exact if_pos rfl | (refine (if_neg (by decide)).trans ?_; (first | assumption | exact if_pos rfl | (refine (if_neg (by decide)).trans ?_; (first | assumption | exact if_pos rfl | (refine (if_neg (by decide)).trans ?_; (first | assumption | exact if_pos rfl | (refine (if_neg (by decide)).trans ?_; (first | assumption | exact if_pos rfl | (refine (if_neg (by decide)).trans ?_; (first | assumption | exact if_pos rfl | (refine (if_neg (by decide)).trans ?_; (first | assumption | exact if_pos rfl | (refine (if_neg (by decide)).trans ?_; (first | assumption | exact if_pos rfl | (refine (if_neg (by decide)).trans ?_; (first | assumption | exact if_pos rfl | (refine (if_neg (by decide)).trans ?_; (first | assumption | exact if_pos rfl | (refine (if_neg (by decide)).trans ?_; (first | assumption | exact if_pos rfl)))))))))))))))))))))))); (case x21 => (first | assumption | exact if_pos rfl | (refine (if_neg (by decide)).trans ?_; (first | assumption | exact if_pos rfl | (refine (if_neg (by decide)).trans ?_; (first | assumption | exact if_pos rfl | (refine (if_neg (by decide)).trans ?_; (first | assumption | exact if_pos rfl | (refine (if_neg (by decide)).trans ?_; (first | assumption | exact if_pos rfl | (refine (if_neg (by decide)).trans ?_; (first | assumption | exact if_pos rfl | (refine (if_neg (by decide)).trans ?_; (first | assumption | exact if_pos rfl | (refine (if_neg (by decide)).trans ?_; (first | assumption | exact if_pos rfl | (refine (if_neg (by decide)).trans ?_; (first | assumption | exact if_pos rfl | (refine (if_neg (by decide)).trans ?_; (first | assumption | exact if_pos rfl | (refine (if_neg (by decide)).trans ?_; (first | assumption | exact if_pos rfl | (refine (if_neg (by decide)).trans ?_; (first | assumption | exact if_pos rfl))))))))))))))))))))))))) | refine Stop.mk ?_))) | ((with_reducible show wpAny _ _ (call (Value.builtin _) _) _ _ _); (k_here; k_dflt (refine' divmod_pos ?F ?N ?hb ?hp ?_; (case F => k_asm); (case N => k_asm); (case hb => decide); (case hp => exact Or.inl (PyProof.noPylong_of_log2 (by decide +kernel)))); (intro D9 h9 t91 t92 F9 N9 l9); (try dsimp only); (try k_fold); (try k_sweep))) | ((with_reducible show wpAny _ _ (subscriptTail _ _ _ _) _ _ _); (k_here; (with_reducible show wpAny _ _ (subscriptTail _ _ (Value.ref _) (Value.int _ _)) _ _ _); (with_unfolding_all refine' item_anyK ?k1 ?k2 ?k3 ?k4 ?k5 ?_ ?k6; (case k1 => exact News.isList (by k_asm) (by k_mem)); (case k2 => assumption); (case k3 => decide); (case k4 => first | assumption | omega); (case k5 => decide); (case k6 => with_unfolding_all rfl); k_whole); intro t9; (try dsimp only))) | ((with_reducible show wpAny _ _ (eval (Expr.Name _ _) _) _ _ _); first | (k_here; refine' nameX_C ?N ?c ?m ?d ?_ ?k ?x ?b; (case k => exact rfl); (case x => exact rfl); (case b => decide); (case c => exact rfl); (case N => k_asm); (case m => k_mem); (case d => assumption)) | (k_here; refine' nameX_L ?F ?v ?_ ?k ?x ?d; (case k => exact rfl); (case x => exact rfl); (case d => decide); (case F => k_asm); (case v => (first | assumption | exact if_pos rfl | (refine (if_neg (by decide)).trans ?_; first | assumption | exact if_pos rfl | (refine (if_neg (by decide)).trans ?_; first | assumption | exact if_pos rfl | (refine (if_neg (by decide)).trans ?_; first | assumption | exact if_pos rfl | (refine (if_neg (by decide)).trans ?_; first | assumption | exact if_pos rfl)))))))) | ((with_reducible show wpAny _ _ (eval (Expr.Call (Expr.Name _ _) _ _ _) _) _ _ _); (k_here; refine Call_ ?_)) | walk1 | dsimp only | (leave1; try dsimp only))
  done
end Mine
end
section
namespace Mine
set_option maxRecDepth 100000 in
set_option maxHeartbeats 8000000 in
theorem seg9 (w : World) (mean : ExcName → Option Value) (mg mb : Str → Option Value) (h₀ : Heap) (L c1 c2 : Addr) (ccd : Value) (m : Str → Option Value) (pre cc : List (Addr × Obj)) (s : Shared) (Q : Flow → Shared → Prop) (E : Value → Shared → Prop) (dp un : Nat) (gd : Option (List Code)) (o1 o2 : Obj) (D1 Dn : Addr) (nd p cv : Int) (nn mm : Str) (u1 u2 tp tn tm tc : Tok) (k1 kn : Nat) (vs : List Value) (ns : List Int)
    (hd1 : dp + 20 < recursionLimit) (hu1 : un + 200 < cLine) (hB : Below callerA h₀ [] h₀) (hF : Fr h₀ L s.heap m) (hK : (theK.heap_1 w.params).In h₀) (hN : News h₀ L s.heap (pre ++ cc)) (hO : PreOk pre) (hC : CC cc) (hG : AllBare s.gens) (hT : Top p0 lo0 mean mg mb h₀) (hQ : Done h₀ L s.os Q)
    (hc1 : (c1, o1) ∈ pre) (ho1 : o1.data = .cell (some (.int p tp))) (hc2 : (c2, o2) ∈ pre) (ho2 : o2.data = .cell (some (.ref D1))) (m1 : m "numbers" = some (.ref Dn)) (m2 : m "number" = some (.int (584283 + p) tn)) (m4 : m "month" = some (.str mm tm)) (n1 : (D1, tupO [.int nd u1, .str nn u2] k1) ∈ pre) (nn0 : (Dn, W.listOf vs.toArray kn) ∈ pre) (hI : IntsAre vs ns) (hlen : (0 : Int) < ns.length) (hp : 0 ≤ p) (hnn : nn = "Nobody" ∨ ∃ i, 0 ≤ i ∧ i < 20 ∧ nn = tzS i) (hmm : mm = "Nobody" ∨ ∃ j, 0 ≤ j ∧ j < 19 ∧ mm = haabS j) (mc : m "c" = some (.int cv tc)) : Seg w 9 dp un gd L ccd [("names", c2), ("past", c1)] Q E s := by
  unfold Seg
  revert hK
  k_fill
  intro hK
  conv in (occs := *) (scopeAt w) => all_goals whnf
  refine wpAny_execs_cons ?_
  w_top off
  repeat' (first | (k_unfold; (try dsimp only)) | (k_end; wrow_close) | ((with_reducible show wpAny _ _ (execs (_ :: _) _) _ _ _); (k_here; (with_reducible show wpAny _ _ (execs [_, _, _, _, _, _, _, _, _, _, _, _, _, _, _, _, _, _, _, _, _] _) _ _ _); (first | k_dflt (refine' seg11 _ _ _ _ _ _ _ _ _ _ (_ :: _) _ _ _ _ _ _ _ _ _ _ _ _ _ _ _ _ _ _ _ _ _ _ _ _ _ _ _ _ _ _ ?hd ?hu ?hB ?hF ?hK ?hN ?hO ?hC ?hG ?hT ?hQ ?x0 ?x1 ?x2 ?x3 ?x4 ?x5 ?x6 ?x7 ?x8 ?x9 ?x10 ?x11 ?x12 ?x13 ?x14 ?x15 ?x16; (case x0 => first | assumption | exact List.Mem.tail _ (by assumption) | exact List.Mem.tail _ (List.Mem.tail _ (by assumption))); (case hF => k_asm); (case x6 => (first | assumption | exact if_pos rfl | (refine (if_neg (by decide)).trans ?_; (first | assumption | exact if_pos rfl | (refine (if_neg (by decide)).trans ?_; (first | assumption | exact if_pos rfl | (refine (if_neg (by decide)).trans ?_; (first | assumption | exact if_pos rfl | (refine (if_neg (by decide)).trans ?_; (first | assumption | exact if_pos rfl | (refine (if_neg (by decide)).trans ?_; (first | assumption | exact if_pos rfl | (refine (if_neg (by decide)).trans ?_; (first | assumption | exact if_pos rfl | (refine (if_neg (by decide)).trans ?_; (first | assumption | exact if_pos rfl)))))))))))))))); (case x10 => exact List.Mem.head _); (case hN =>  ktr_rel); (case hC => assumption); (case hO => tb_start); (case hB => assumption); (case hK => assumption); (case hG => assumption); (case hT => assumption); (case hQ => assumption); (case hd => assumption); (case hu => assumption); (case x1 => assumption); (case x2 => first | assumption | exact List.Mem.tail _ (by assumption) | exact List.Mem.tail _ (List.Mem.tail _ (by assumption))); (case x3 => assumption); (case x4 => (first | assumption | exact if_pos rfl | (refine (if_neg (by decide)).trans ?_; (first | assumption | exact if_pos rfl | (refine (if_neg (by decide)).trans ?_; (first | assumption | exact if_pos rfl | (refine (if_neg (by decide)).trans ?_; (first | assumption | exact if_pos rfl | (refine (if_neg (by decide)).trans ?_; (first | assumption | exact if_pos rfl | (refine (if_neg (by decide)).trans ?_; (first | assumption | exact if_pos rfl | (refine (if_neg (by decide)).trans ?_; (first | assumption | exact if_pos rfl | (refine (if_neg (by decide)).trans ?_; (first | assumption | exact if_pos rfl)))))))))))))))); (case x5 => (first | assumption | exact if_pos rfl | (refine (if_neg (by decide)).trans ?_; (first | assumption | exact if_pos rfl | (refine (if_neg (by decide)).trans ?_; (first | assumption | exact if_pos rfl | (refine (if_neg (by decide)).trans ?_; (first | assumption | exact if_pos rfl | (refine (if_neg (by decide)).trans ?_; (first | assumption | exact if_pos rfl | (refine (if_neg (by decide)).trans ?_; (first | assumption | exact if_pos rfl | (refine (if_neg (by decide)).trans ?_; (first | assumption | exact if_pos rfl | (refine (if_neg (by decide)).trans ?_; (first | assumption | exact if_pos rfl)))))))))))))))); (case x7 => (first | assumption | exact if_pos rfl | (refine (if_neg (by decide)).trans ?_; (first | assumption | exact if_pos rfl | (refine (if_neg (by decide)).trans ?_; (first | assumption | exact if_pos rfl | (refine (if_neg (by decide)).trans ?_; (first | assumption | exact if_pos rfl | (refine (if_neg (by decide)).trans ?_; (first | assumption | exact if_pos rfl | (refine (if_neg (by decide)).trans ?_; (first | assumption | exact if_pos rfl | (refine (if_neg (by decide)).trans ?_; (first | assumption | exact if_pos rfl | (refine (if_neg (by decide)).trans ?_; (first | assumption | exact if_pos rfl)))))))))))))))); (case x8 => (first | assumption | exact if_pos rfl | (refine (if_neg (by decide)).trans ?_; (first | assumption | exact if_pos rfl | (refine (if_neg (by decide)).trans ?_; (first | assumption | exact if_pos rfl | (refine (if_neg (by decide)).trans ?_; (first | assumption | exact if_pos rfl | (refine (if_neg (by decide)).trans ?_; (first | assumption | exact if_pos rfl | (refine (if_neg (by decide)).trans ?_; (first | assumption | exact if_pos rfl | (refine (if_neg (by decide)).trans ?_; (first | assumption | exact if_pos rfl | (refine (if_neg (by decide)).trans ?_; (first | assumption | exact if_pos rfl)))))))))))))))); (case x9 => first | assumption | exact List.Mem.tail _ (by assumption) | exact List.Mem.tail _ (List.Mem.tail _ (by assumption))); (case x11 => first | assumption | exact List.Mem.tail _ (by assumption) | exact List.Mem.tail _ (List.Mem.tail _ (by assumption))); (case x12 => assumption); (case x13 => assumption); (case x14 => assumption); (case x15 => assumption); (case x16 => assumption)) | refine Stop.mk ?_))) | ((with_reducible show wpAny _ _ (newTuple _) _ _ _); (k_here; k_dflt (refine' newtuple_K ?F ?N ?sz ?_; (case F => k_asm); (case N => k_asm); (case sz => exact Nat.le_of_ble_eq_true rfl)); (intro D9 h9 F9 N9 l9); (try simp only [List.cons_append, List.nil_append] at N9); (try dsimp only); (try k_fold); (try k_sweep))) | ((with_reducible show wpAny _ _ (call (Value.ref _) _) _ _ _); first | (k_here; (first | (with_reducible show wpAny _ _ (call (Value.ref 128) []) _ _ _) | ((with_reducible show wpAny _ _ (call (Value.ref 128) ([] ++ [])) _ _ _); show wpAny _ _ (call (Value.ref 128) []) _ _ _)); k_dflt (refine' CutN.use (n_moons _ _ _ _) ?B ?F ?X ?N ?T ?k ?d ?u ?_; (case B => k_asm); (case F => k_asm); (case X => k_asm); (case N => k_asm); (case T => k_asm); (case k => exact rfl); (case d => ktr_room); (case u => ktr_units)); (intro D9 vs9 c9 h9 tk9 st9 l9 F9 N9); (try dsimp only); (try k_fold); (try k_sweep)) | (k_here; (first | (with_reducible show wpAny _ _ (call (Value.ref 121) []) _ _ _) | ((with_reducible show wpAny _ _ (call (Value.ref 121) ([] ++ [])) _ _ _); show wpAny _ _ (call (Value.ref 121) []) _ _ _)); k_dflt (refine' CutN.use (n_names _ _ _ _) ?B ?F ?X ?N ?T ?k ?d ?u ?_; (case B => k_asm); (case F => k_asm); (case X => k_asm); (case N => k_asm); (case T => k_asm); (case k => exact rfl); (case d => ktr_room); (case u => ktr_units)); (intro D9 vs9 c9 h9 tk9 st9 l9 F9 N9); (try dsimp only); (try k_fold); (try k_sweep))) | ((with_reducible show wpAny _ _ (binaryOp Operator.Mod (Value.int _ _) (Value.int _ _)) _ _ _); (k_here; k_dflt (refine' mod_pos ?hb ?_; (case hb => decide)); intro t9; (try dsimp only))) | ((with_reducible show wpAny _ _ (subscriptTail _ _ _ _) _ _ _); first | (k_here; (with_reducible show wpAny _ _ (subscriptTail _ _ (Value.ref _) (Value.int _ _)) _ _ _); k_dflt (refine' item_tab ?N ?m ?i ?h0 ?hk ?fit ?_ ?hs ?hg; (case N => k_asm); (case m => k_mem); (case i => assumption); (case h0 => first | assumption | omega); (case fit => decide); (case hk => first | assumption | omega | (show _ < (20 : Int); omega) | (show _ < (19 : Int); omega)); (case hs => with_unfolding_all rfl); (case hg => intro _; with_unfolding_all rfl)); intro t9; (try dsimp only)) | (k_here; (with_reducible show wpAny _ _ (subscriptTail _ _ (Value.ref _) (Value.int _ _)) _ _ _); (with_unfolding_all refine' item_anyK ?k1 ?k2 ?k3 ?k4 ?k5 ?_ ?k6; (case k1 => exact News.isList (by k_asm) (by k_mem)); (case k2 => assumption); (case k3 => decide); (case k4 => first | assumption | omega); (case k5 => decide); (case k6 => with_unfolding_all rfl); k_whole); intro t9; (try dsimp only))) | ((with_reducible show wpAny _ _ (eval (Expr.Name _ _) _) _ _ _); first | (k_here; refine' nameX_C ?N ?c ?m ?d ?_ ?k ?x ?b; (case k => exact rfl); (case x => exact rfl); (case b => decide); (case c => exact rfl); (case N => k_asm); (case m => k_mem); (case d => assumption)) | (k_here; refine' nameX_L ?F ?v ?_ ?k ?x ?d; (case k => exact rfl); (case x => exact rfl); (case d => decide); (case F => k_asm); (case v => (first | assumption | exact if_pos rfl | (refine (if_neg (by decide)).trans ?_; first | assumption | exact if_pos rfl | (refine (if_neg (by decide)).trans ?_; first | assumption | exact if_pos rfl | (refine (if_neg (by decide)).trans ?_; first | assumption | exact if_pos rfl | (refine (if_neg (by decide)).trans ?_; first | assumption | exact if_pos rfl)))))))) | ((with_reducible show wpAny _ _ (eval (Expr.Call (Expr.Name _ _) _ _ _) _) _ _ _); (k_here; refine Call_ ?_)) | walk1 | dsimp only | (leave1; try dsimp only))
  done
end Mine
end
section
namespace Mine
set_option maxRecDepth 100000 in
set_option maxHeartbeats 8000000 in
theorem seg8 (w : World) (mean : ExcName → Option Value) (mg mb : Str → Option Value) (h₀ : Heap) (L c1 c2 : Addr) (ccd : Value) (m : Str → Option Value) (pre cc : List (Addr × Obj)) (s : Shared) (Q : Flow → Shared → Prop) (E : Value → Shared → Prop) (dp un : Nat) (gd : Option (List Code)) (o1 o2 : Obj) (D1 Dn : Addr) (nd p cv dv : Int) (nn : Str) (u1 u2 tp tn tc td : Tok) (k1 kn : Nat) (vs : List Value) (ns : List Int)
    (hd1 : dp + 20 < recursionLimit) (hu1 : un + 200 < cLine) (hB : Below callerA h₀ [] h₀) (hF : Fr h₀ L s.heap m) (hK : (theK.heap_1 w.params).In h₀) (hN : News h₀ L s.heap (pre ++ cc)) (hO : PreOk pre) (hC : CC cc) (hG : AllBare s.gens) (hT : Top p0 lo0 mean mg mb h₀) (hQ : Done h₀ L s.os Q)
    (hc1 : (c1, o1) ∈ pre) (ho1 : o1.data = .cell (some (.int p tp))) (hc2 : (c2, o2) ∈ pre) (ho2 : o2.data = .cell (some (.ref D1))) (m1 : m "numbers" = some (.ref Dn)) (m2 : m "number" = some (.int (584283 + p) tn)) (n1 : (D1, tupO [.int nd u1, .str nn u2] k1) ∈ pre) (nn0 : (Dn, W.listOf vs.toArray kn) ∈ pre) (hI : IntsAre vs ns) (hlen : (0 : Int) < ns.length) (hp : 0 ≤ p) (hnn : nn = "Nobody" ∨ ∃ i, 0 ≤ i ∧ i < 20 ∧ nn = tzS i) (mc : m "c" = some (.int cv tc)) (md : m "d" = some (.int dv td)) : Seg w 8 dp un gd L ccd [("names", c2), ("past", c1)] Q E s := by
  unfold Seg
  revert hK
  k_fill
  intro hK
  conv in (occs := *) (scopeAt w) => all_goals whnf
  refine wpAny_execs_cons ?_
  w_top off
  repeat' (first | (k_unfold; (try dsimp only)) | (k_end; wrow_close) | ((with_reducible show wpAny _ _ (execs (_ :: _) _) _ _ _); (k_here; (with_reducible show wpAny _ _ (execs [_, _, _, _, _, _, _, _, _, _, _, _, _, _, _, _, _, _, _, _, _, _, _] _) _ _ _); (first | k_dflt (refine' seg9 _ _ _ _ _ _ _ _ _ _ _ _ _ _ _ _ _ _ _ _ _ _ _ _ _ _ _ _ _ _ _ _ _ _ _ _ _ ?hd ?hu ?hB ?hF ?hK ?hN ?hO ?hC ?hG ?hT ?hQ ?x0 ?x1 ?x2 ?x3 ?x4 ?x5 ?x6 ?x7 ?x8 ?x9 ?x10 ?x11 ?x12 ?x13 ?x14; (case hF => k_asm); (case hN =>  ktr_rel); (case hC => assumption); (case hO => assumption); (case hB => assumption); (case hK => assumption); (case hG => assumption); (case hT => assumption); (case hQ => assumption); (case hd => assumption); (case hu => assumption); (case x0 => assumption); (case x1 => assumption); (case x2 => assumption); (case x3 => assumption); (case x4 => (first | assumption | exact if_pos rfl | (refine (if_neg (by decide)).trans ?_; (first | assumption | exact if_pos rfl | (refine (if_neg (by decide)).trans ?_; (first | assumption | exact if_pos rfl | (refine (if_neg (by decide)).trans ?_; (first | assumption | exact if_pos rfl | (refine (if_neg (by decide)).trans ?_; (first | assumption | exact if_pos rfl | (refine (if_neg (by decide)).trans ?_; (first | assumption | exact if_pos rfl | (refine (if_neg (by decide)).trans ?_; (first | assumption | exact if_pos rfl | (refine (if_neg (by decide)).trans ?_; (first | assumption | exact if_pos rfl)))))))))))))))); (case x5 => (first | assumption | exact if_pos rfl | (refine (if_neg (by decide)).trans ?_; (first | assumption | exact if_pos rfl | (refine (if_neg (by decide)).trans ?_; (first | assumption | exact if_pos rfl | (refine (if_neg (by decide)).trans ?_; (first | assumption | exact if_pos rfl | (refine (if_neg (by decide)).trans ?_; (first | assumption | exact if_pos rfl | (refine (if_neg (by decide)).trans ?_; (first | assumption | exact if_pos rfl | (refine (if_neg (by decide)).trans ?_; (first | assumption | exact if_pos rfl | (refine (if_neg (by decide)).trans ?_; (first | assumption | exact if_pos rfl)))))))))))))))); (case x6 => (first | assumption | exact if_pos rfl | (refine (if_neg (by decide)).trans ?_; (first | assumption | exact if_pos rfl | (refine (if_neg (by decide)).trans ?_; (first | assumption | exact if_pos rfl | (refine (if_neg (by decide)).trans ?_; (first | assumption | exact if_pos rfl | (refine (if_neg (by decide)).trans ?_; (first | assumption | exact if_pos rfl | (refine (if_neg (by decide)).trans ?_; (first | assumption | exact if_pos rfl | (refine (if_neg (by decide)).trans ?_; (first | assumption | exact if_pos rfl | (refine (if_neg (by decide)).trans ?_; (first | assumption | exact if_pos rfl)))))))))))))))); (case x7 => assumption); (case x8 => assumption); (case x9 => assumption); (case x10 => assumption); (case x11 => assumption); (case x12 => assumption); (case x13 => first | exact Or.inl rfl | exact Or.inr ⟨_, by omega, by omega, rfl⟩); (case x14 => (first | assumption | exact if_pos rfl | (refine (if_neg (by decide)).trans ?_; (first | assumption | exact if_pos rfl | (refine (if_neg (by decide)).trans ?_; (first | assumption | exact if_pos rfl | (refine (if_neg (by decide)).trans ?_; (first | assumption | exact if_pos rfl | (refine (if_neg (by decide)).trans ?_; (first | assumption | exact if_pos rfl | (refine (if_neg (by decide)).trans ?_; (first | assumption | exact if_pos rfl | (refine (if_neg (by decide)).trans ?_; (first | assumption | exact if_pos rfl | (refine (if_neg (by decide)).trans ?_; (first | assumption | exact if_pos rfl))))))))))))))))) | refine Stop.mk ?_))) | ((with_reducible show wpAny _ _ (call (Value.ref _) _) _ _ _); first | (k_here; (first | (with_reducible show wpAny _ _ (call (Value.ref 128) []) _ _ _) | ((with_reducible show wpAny _ _ (call (Value.ref 128) ([] ++ [])) _ _ _); show wpAny _ _ (call (Value.ref 128) []) _ _ _)); k_dflt (refine' CutN.use (n_moons _ _ _ _) ?B ?F ?X ?N ?T ?k ?d ?u ?_; (case B => k_asm); (case F => k_asm); (case X => k_asm); (case N => k_asm); (case T => k_asm); (case k => exact rfl); (case d => ktr_room); (case u => ktr_units)); (intro D9 vs9 c9 h9 tk9 st9 l9 F9 N9); (try dsimp only); (try k_fold); (try k_sweep)) | (k_here; (first | (with_reducible show wpAny _ _ (call (Value.ref 121) []) _ _ _) | ((with_reducible show wpAny _ _ (call (Value.ref 121) ([] ++ [])) _ _ _); show wpAny _ _ (call (Value.ref 121) []) _ _ _)); k_dflt (refine' CutN.use (n_names _ _ _ _) ?B ?F ?X ?N ?T ?k ?d ?u ?_; (case B => k_asm); (case F => k_asm); (case X => k_asm); (case N => k_asm); (case T => k_asm); (case k => exact rfl); (case d => ktr_room); (case u => ktr_units)); (intro D9 vs9 c9 h9 tk9 st9 l9 F9 N9); (try dsimp only); (try k_fold); (try k_sweep))) | ((with_reducible show wpAny _ _ (binaryOp Operator.Mod (Value.int _ _) (Value.int _ _)) _ _ _); (k_here; k_dflt (refine' mod_pos ?hb ?_; (case hb => decide)); intro t9; (try dsimp only))) | ((with_reducible show wpAny _ _ (subscriptTail _ _ _ _) _ _ _); first | (k_here; (with_reducible show wpAny _ _ (subscriptTail _ _ (Value.ref _) (Value.int _ _)) _ _ _); k_dflt (refine' item_tab ?N ?m ?i ?h0 ?hk ?fit ?_ ?hs ?hg; (case N => k_asm); (case m => k_mem); (case i => assumption); (case h0 => first | assumption | omega); (case fit => decide); (case hk => first | assumption | omega | (show _ < (20 : Int); omega) | (show _ < (19 : Int); omega)); (case hs => with_unfolding_all rfl); (case hg => intro _; with_unfolding_all rfl)); intro t9; (try dsimp only)) | (k_here; (with_reducible show wpAny _ _ (subscriptTail _ _ (Value.ref _) (Value.int _ _)) _ _ _); (with_unfolding_all refine' item_anyK ?k1 ?k2 ?k3 ?k4 ?k5 ?_ ?k6; (case k1 => exact News.isList (by k_asm) (by k_mem)); (case k2 => assumption); (case k3 => decide); (case k4 => first | assumption | omega); (case k5 => decide); (case k6 => with_unfolding_all rfl); k_whole); intro t9; (try dsimp only))) | ((with_reducible show wpAny _ _ (eval (Expr.Name _ _) _) _ _ _); first | (k_here; refine' nameX_C ?N ?c ?m ?d ?_ ?k ?x ?b; (case k => exact rfl); (case x => exact rfl); (case b => decide); (case c => exact rfl); (case N => k_asm); (case m => k_mem); (case d => assumption)) | (k_here; refine' nameX_L ?F ?v ?_ ?k ?x ?d; (case k => exact rfl); (case x => exact rfl); (case d => decide); (case F => k_asm); (case v => (first | assumption | exact if_pos rfl | (refine (if_neg (by decide)).trans ?_; first | assumption | exact if_pos rfl | (refine (if_neg (by decide)).trans ?_; first | assumption | exact if_pos rfl | (refine (if_neg (by decide)).trans ?_; first | assumption | exact if_pos rfl | (refine (if_neg (by decide)).trans ?_; first | assumption | exact if_pos rfl)))))))) | ((with_reducible show wpAny _ _ (eval (Expr.Call (Expr.Name _ _) _ _ _) _) _ _ _); (k_here; refine Call_ ?_)) | walk1 | dsimp only | (leave1; try dsimp only))
  done
end Mine
end
section
set_option maxRecDepth 100000
namespace Mine
theorem ne_lm {news : List (Addr × Obj)} {D c : Addr} {o : Obj} (l : ∀ p ∈ news, p.1 < D) (hm : (c, o) ∈ news) : D ≠ c := fun q => Nat.lt_irrefl _ (q ▸ l _ hm)
end Mine
namespace Mine
theorem cc_off {h₀ h : Heap} {L c : Addr} {o : Obj} {v : Option Value} {news cc : List (Addr × Obj)} (N : News h₀ L h news) (hm : (c, o) ∈ news) (hs : ∀ p ∈ cc, p ∈ news) (C : CC cc) (hd : o.data = .cell v) : ∀ p ∈ cc, p.1 ≠ c := fun p hp e => by
  obtain ⟨ps, qs, rfl, _, _⟩ := C
  have z := (N _ (hs p hp)).1
  have y := (N _ hm).1
  rw [e, y] at z
  injection z with z
  have z : o = p.2 := z
  rw [z] at hd
  rcases List.mem_cons.mp hp with rfl | hp
  · exact nomatch hd
  · rw [List.mem_singleton.mp hp] at hd; exact nomatch hd
theorem abs_nn (x : Int) : 0 ≤ (if x < 0 then -x else x) := by split <;> omega
theorem five_le (ns : List Int) : (5 : Int) ≤ ((ns.take 5 ++ [0, 0, 0, 0, 0]).length : Int) := by
  rw [List.length_append]; simp only [List.length_cons, List.length_nil]; omega
end Mine
end
section
namespace Mine
set_option maxRecDepth 100000 in
set_option maxHeartbeats 8000000 in
theorem seg7 (w : World) (mean : ExcName → Option Value) (mg mb : Str → Option Value) (h₀ : Heap) (L c1 c2 : Addr) (ccd : Value) (m : Str → Option Value) (pre cc : List (Addr × Obj)) (s : Shared) (Q : Flow → Shared → Prop) (E : Value → Shared → Prop) (dp un : Nat) (gd : Option (List Code)) (o1 o2 : Obj) (Dn : Addr) (p av bv cv dv : Int) (tp tn ta tb tc td : Tok) (kn : Nat) (vs : List Value) (ns : List Int)
    (hd1 : dp + 20 < recursionLimit) (hu1 : un + 200 < cLine) (hB : Below callerA h₀ [] h₀) (hF : Fr h₀ L s.heap m) (hK : (theK.heap_1 w.params).In h₀) (hN : News h₀ L s.heap ((c2, o2) :: (pre ++ cc))) (hO : PreOk pre) (hC : CC cc) (hG : AllBare s.gens) (hT : Top p0 lo0 mean mg mb h₀) (hQ : Done h₀ L s.os Q)
    (hc1 : (c1, o1) ∈ pre) (ho1 : o1.data = .cell (some (.int p tp))) (m1 : m "numbers" = some (.ref Dn)) (m2 : m "number" = some (.int (584283 + p) tn)) (nn0 : (Dn, W.listOf vs.toArray kn) ∈ pre) (hI : IntsAre vs ns) (hlen : (0 : Int) < ns.length) (hp : 0 ≤ p) (mc : m "c" = some (.int cv tc)) (md : m "d" = some (.int dv td)) (ma : m "a" = some (.int av ta)) (mb2 : m "b" = some (.int bv tb)) (ha0 : 0 ≤ av) (ha1 : av < 28) (hoff : ∀ q ∈ pre ++ cc, q.1 ≠ c2) (hcn : o2.data = .cell none) : Seg w 7 dp un gd L ccd [("names", c2), ("past", c1)] Q E s := by
  unfold Seg
  revert hK
  k_fill
  intro hK
  conv in (occs := *) (scopeAt w) => all_goals whnf
  refine wpAny_execs_cons ?_
  w_top off
  repeat' (first | (k_unfold; (try dsimp only)) | (k_end; wrow_close) | ((with_reducible show wpAny _ _ (execs (_ :: _) _) _ _ _); (k_here; (with_reducible show wpAny _ _ (execs [_, _, _, _, _, _, _, _, _, _, _, _, _, _, _, _, _, _, _, _, _, _, _, _] _) _ _ _); (first | k_dflt (refine' seg8 _ _ _ _ _ _ _ _ _ _ (_ :: (_ :: _)) _ _ _ _ _ _ _ _ _ _ _ _ _ _ _ _ _ _ _ _ _ _ _ _ _ _ ?hd ?hu ?hB ?hF ?hK ?hN ?hO ?hC ?hG ?hT ?hQ ?x0 ?x1 ?x2 ?x3 ?x4 ?x5 ?x6 ?x7 ?x8 ?x9 ?x10 ?x11 ?x12 ?x13; (case x0 => first | assumption | exact List.Mem.tail _ (by assumption) | exact List.Mem.tail _ (List.Mem.tail _ (by assumption))); (case hF => k_asm); (case x2 => (refine List.Mem.tail _ ?_; exact List.Mem.head _)); (case x3 => assumption); (case x6 => exact List.Mem.head _); (case hN =>  ktr_rel); (case hC => assumption); (case hO => tb_start); (case hB => assumption); (case hK => assumption); (case hG => assumption); (case hT => assumption); (case hQ => assumption); (case hd => assumption); (case hu => assumption); (case x1 => assumption); (case x4 => (first | assumption | exact if_pos rfl | (refine (if_neg (by decide)).trans ?_; (first | assumption | exact if_pos rfl | (refine (if_neg (by decide)).trans ?_; (first | assumption | exact if_pos rfl | (refine (if_neg (by decide)).trans ?_; (first | assumption | exact if_pos rfl | (refine (if_neg (by decide)).trans ?_; (first | assumption | exact if_pos rfl | (refine (if_neg (by decide)).trans ?_; (first | assumption | exact if_pos rfl | (refine (if_neg (by decide)).trans ?_; (first | assumption | exact if_pos rfl | (refine (if_neg (by decide)).trans ?_; (first | assumption | exact if_pos rfl)))))))))))))))); (case x5 => (first | assumption | exact if_pos rfl | (refine (if_neg (by decide)).trans ?_; (first | assumption | exact if_pos rfl | (refine (if_neg (by decide)).trans ?_; (first | assumption | exact if_pos rfl | (refine (if_neg (by decide)).trans ?_; (first | assumption | exact if_pos rfl | (refine (if_neg (by decide)).trans ?_; (first | assumption | exact if_pos rfl | (refine (if_neg (by decide)).trans ?_; (first | assumption | exact if_pos rfl | (refine (if_neg (by decide)).trans ?_; (first | assumption | exact if_pos rfl | (refine (if_neg (by decide)).trans ?_; (first | assumption | exact if_pos rfl)))))))))))))))); (case x7 => first | assumption | exact List.Mem.tail _ (by assumption) | exact List.Mem.tail _ (List.Mem.tail _ (by assumption))); (case x8 => assumption); (case x9 => assumption); (case x10 => assumption); (case x11 => first | exact Or.inl rfl | exact Or.inr ⟨_, by omega, by omega, rfl⟩); (case x12 => (first | assumption | exact if_pos rfl | (refine (if_neg (by decide)).trans ?_; (first | assumption | exact if_pos rfl | (refine (if_neg (by decide)).trans ?_; (first | assumption | exact if_pos rfl | (refine (if_neg (by decide)).trans ?_; (first | assumption | exact if_pos rfl | (refine (if_neg (by decide)).trans ?_; (first | assumption | exact if_pos rfl | (refine (if_neg (by decide)).trans ?_; (first | assumption | exact if_pos rfl | (refine (if_neg (by decide)).trans ?_; (first | assumption | exact if_pos rfl | (refine (if_neg (by decide)).trans ?_; (first | assumption | exact if_pos rfl)))))))))))))))); (case x13 => (first | assumption | exact if_pos rfl | (refine (if_neg (by decide)).trans ?_; (first | assumption | exact if_pos rfl | (refine (if_neg (by decide)).trans ?_; (first | assumption | exact if_pos rfl | (refine (if_neg (by decide)).trans ?_; (first | assumption | exact if_pos rfl | (refine (if_neg (by decide)).trans ?_; (first | assumption | exact if_pos rfl | (refine (if_neg (by decide)).trans ?_; (first | assumption | exact if_pos rfl | (refine (if_neg (by decide)).trans ?_; (first | assumption | exact if_pos rfl | (refine (if_neg (by decide)).trans ?_; (first | assumption | exact if_pos rfl))))))))))))))))) | refine Stop.mk ?_))) | ((with_reducible show wpAny _ _ (storeName _ _ _) _ _ _); (k_here; (with_reducible show wpAny _ _ (storeName _ (PySem.Str.ofString "names") _) _ _ _); k_dflt (refine' storeX_C ?F ?N ?c ?U ?d ?_ ?a ?b; (case a => exact rfl); (case b => exact rfl); (case F => k_asm); (case N => k_asm); (case c => exact rfl); (case U => (first | exact UpdF.head (by assumption) | exact UpdF.tail (by exact ne_lm (by assumption) (by k_mem)) (UpdF.head (by assumption)) | exact UpdF.tail (by exact ne_lm (by assumption) (by k_mem)) (UpdF.tail (by exact ne_lm (by assumption) (by k_mem)) (UpdF.head (by assumption))) | exact UpdF.tail (by exact ne_lm (by assumption) (by k_mem)) (UpdF.tail (by exact ne_lm (by assumption) (by k_mem)) (UpdF.tail (by exact ne_lm (by assumption) (by k_mem)) (UpdF.head (by assumption)))) | exact UpdF.tail (by exact ne_lm (by assumption) (by k_mem)) (UpdF.tail (by exact ne_lm (by assumption) (by k_mem)) (UpdF.tail (by exact ne_lm (by assumption) (by k_mem)) (UpdF.tail (by exact ne_lm (by assumption) (by k_mem)) (UpdF.head (by assumption))))))); (case d => assumption)); intro h' o' F' N' d'; (try dsimp only at N'); (try k_sweep))) | ((with_reducible show wpAny _ _ (newTuple _) _ _ _); (k_here; k_dflt (refine' newtuple_K ?F ?N ?sz ?_; (case F => k_asm); (case N => k_asm); (case sz => exact Nat.le_of_ble_eq_true rfl)); (intro D9 h9 F9 N9 l9); (try simp only [List.cons_append, List.nil_append] at N9); (try dsimp only); (try k_fold); (try k_sweep))) | ((with_reducible show wpAny _ _ (call (Value.ref _) _) _ _ _); first | (k_here; (first | (with_reducible show wpAny _ _ (call (Value.ref 128) []) _ _ _) | ((with_reducible show wpAny _ _ (call (Value.ref 128) ([] ++ [])) _ _ _); show wpAny _ _ (call (Value.ref 128) []) _ _ _)); k_dflt (refine' CutN.use (n_moons _ _ _ _) ?B ?F ?X ?N ?T ?k ?d ?u ?_; (case B => k_asm); (case F => k_asm); (case X => k_asm); (case N => k_asm); (case T => k_asm); (case k => exact rfl); (case d => ktr_room); (case u => ktr_units)); (intro D9 vs9 c9 h9 tk9 st9 l9 F9 N9); (try dsimp only); (try k_fold); (try k_sweep)) | (k_here; (first | (with_reducible show wpAny _ _ (call (Value.ref 121) []) _ _ _) | ((with_reducible show wpAny _ _ (call (Value.ref 121) ([] ++ [])) _ _ _); show wpAny _ _ (call (Value.ref 121) []) _ _ _)); k_dflt (refine' CutN.use (n_names _ _ _ _) ?B ?F ?X ?N ?T ?k ?d ?u ?_; (case B => k_asm); (case F => k_asm); (case X => k_asm); (case N => k_asm); (case T => k_asm); (case k => exact rfl); (case d => ktr_room); (case u => ktr_units)); (intro D9 vs9 c9 h9 tk9 st9 l9 F9 N9); (try dsimp only); (try k_fold); (try k_sweep))) | ((with_reducible show wpAny _ _ (binaryOp Operator.Mod (Value.int _ _) (Value.int _ _)) _ _ _); (k_here; k_dflt (refine' mod_pos ?hb ?_; (case hb => decide)); intro t9; (try dsimp only))) | ((with_reducible show wpAny _ _ (subscriptTail _ _ _ _) _ _ _); first | (k_here; (with_reducible show wpAny _ _ (subscriptTail _ _ (Value.ref _) (Value.int _ _)) _ _ _); k_dflt (refine' item_tab ?N ?m ?i ?h0 ?hk ?fit ?_ ?hs ?hg; (case N => k_asm); (case m => k_mem); (case i => assumption); (case h0 => first | assumption | omega); (case fit => decide); (case hk => first | assumption | omega | (show _ < (20 : Int); omega) | (show _ < (19 : Int); omega)); (case hs => with_unfolding_all rfl); (case hg => intro _; with_unfolding_all rfl)); intro t9; (try dsimp only)) | (k_here; (with_reducible show wpAny _ _ (subscriptTail _ _ (Value.ref _) (Value.int _ _)) _ _ _); (with_unfolding_all refine' item_anyK ?k1 ?k2 ?k3 ?k4 ?k5 ?_ ?k6; (case k1 => exact News.isList (by k_asm) (by k_mem)); (case k2 => assumption); (case k3 => decide); (case k4 => first | assumption | omega); (case k5 => decide); (case k6 => with_unfolding_all rfl); k_whole); intro t9; (try dsimp only))) | ((with_reducible show wpAny _ _ (eval (Expr.Name _ _) _) _ _ _); first | (k_here; refine' nameX_C ?N ?c ?m ?d ?_ ?k ?x ?b; (case k => exact rfl); (case x => exact rfl); (case b => decide); (case c => exact rfl); (case N => k_asm); (case m => k_mem); (case d => assumption)) | (k_here; refine' nameX_L ?F ?v ?_ ?k ?x ?d; (case k => exact rfl); (case x => exact rfl); (case d => decide); (case F => k_asm); (case v => (first | assumption | exact if_pos rfl | (refine (if_neg (by decide)).trans ?_; first | assumption | exact if_pos rfl | (refine (if_neg (by decide)).trans ?_; first | assumption | exact if_pos rfl | (refine (if_neg (by decide)).trans ?_; first | assumption | exact if_pos rfl | (refine (if_neg (by decide)).trans ?_; first | assumption | exact if_pos rfl)))))))) | ((with_reducible show wpAny _ _ (eval (Expr.Call (Expr.Name _ _) _ _ _) _) _ _ _); (k_here; refine Call_ ?_)) | walk1 | dsimp only | (leave1; try dsimp only))
  done
end Mine
end
section
namespace Mine
set_option maxRecDepth 100000 in
set_option maxHeartbeats 8000000 in
theorem seg3 (w : World) (mean : ExcName → Option Value) (mg mb : Str → Option Value) (h₀ : Heap) (L c1 c2 : Addr) (ccd : Value) (m : Str → Option Value) (pre cc : List (Addr × Obj)) (s : Shared) (Q : Flow → Shared → Prop) (E : Value → Shared → Prop) (dp un : Nat) (gd : Option (List Code)) (o1 o2 : Obj) (Dn : Addr) (p : Int) (tp tn : Tok) (kn : Nat) (vs : List Value) (ns : List Int)
    (hd1 : dp + 20 < recursionLimit) (hu1 : un + 200 < cLine) (hB : Below callerA h₀ [] h₀) (hF : Fr h₀ L s.heap m) (hK : (theK.heap_1 w.params).In h₀) (hN : News h₀ L s.heap ((c2, o2) :: (pre ++ cc))) (hO : PreOk pre) (hC : CC cc) (hG : AllBare s.gens) (hT : Top p0 lo0 mean mg mb h₀) (hQ : Done h₀ L s.os Q)
    (hc1 : (c1, o1) ∈ pre) (ho1 : o1.data = .cell (some (.int p tp))) (m1 : m "numbers" = some (.ref Dn)) (m2 : m "number" = some (.int (584283 + p) tn)) (nn0 : (Dn, W.listOf vs.toArray kn) ∈ pre) (hI : IntsAre vs ns) (hp : 0 ≤ p) (hlen : (5 : Int) ≤ ns.length) (hoff : ∀ q ∈ pre ++ cc, q.1 ≠ c2) (hcn : o2.data = .cell none) : Seg w 3 dp un gd L ccd [("names", c2), ("past", c1)] Q E s := by
  unfold Seg
  revert hK
  k_fill
  intro hK
  conv in (occs := *) (scopeAt w) => all_goals whnf
  refine wpAny_execs_cons ?_
  have hlen0 : (0 : Int) < ns.length := by omega
  w_top off
  repeat' (first | (k_unfold; (try dsimp only)) | (k_end; wrow_close) | ((with_reducible show wpAny _ _ (execs (_ :: _) _) _ _ _); (k_here; (with_reducible show wpAny _ _ (execs [_, _, _, _, _, _, _, _, _, _, _, _, _, _, _, _, _, _, _, _, _, _, _, _, _] _) _ _ _); (first | k_dflt (refine' seg7 _ _ _ _ _ _ _ _ _ _ _ _ _ _ _ _ _ _ _ _ _ _ _ _ _ _ _ _ _ _ _ _ _ _ _ ?hd ?hu ?hB ?hF ?hK ?hN ?hO ?hC ?hG ?hT ?hQ ?x0 ?x1 ?x2 ?x3 ?x4 ?x5 ?x6 ?x7 ?x8 ?x9 ?x10 ?x11 ?x12 ?x13 ?x14 ?x15; (case hF => k_asm); (case hN =>  ktr_rel); (case hC => assumption); (case hO => assumption); (case hB => assumption); (case hK => assumption); (case hG => assumption); (case hT => assumption); (case hQ => assumption); (case hd => assumption); (case hu => assumption); (case x0 => assumption); (case x1 => assumption); (case x2 => (first | assumption | exact if_pos rfl | (refine (if_neg (by decide)).trans ?_; (first | assumption | exact if_pos rfl | (refine (if_neg (by decide)).trans ?_; (first | assumption | exact if_pos rfl | (refine (if_neg (by decide)).trans ?_; (first | assumption | exact if_pos rfl | (refine (if_neg (by decide)).trans ?_; (first | assumption | exact if_pos rfl | (refine (if_neg (by decide)).trans ?_; (first | assumption | exact if_pos rfl | (refine (if_neg (by decide)).trans ?_; (first | assumption | exact if_pos rfl | (refine (if_neg (by decide)).trans ?_; (first | assumption | exact if_pos rfl)))))))))))))))); (case x3 => (first | assumption | exact if_pos rfl | (refine (if_neg (by decide)).trans ?_; (first | assumption | exact if_pos rfl | (refine (if_neg (by decide)).trans ?_; (first | assumption | exact if_pos rfl | (refine (if_neg (by decide)).trans ?_; (first | assumption | exact if_pos rfl | (refine (if_neg (by decide)).trans ?_; (first | assumption | exact if_pos rfl | (refine (if_neg (by decide)).trans ?_; (first | assumption | exact if_pos rfl | (refine (if_neg (by decide)).trans ?_; (first | assumption | exact if_pos rfl | (refine (if_neg (by decide)).trans ?_; (first | assumption | exact if_pos rfl)))))))))))))))); (case x4 => assumption); (case x5 => assumption); (case x6 => assumption); (case x7 => assumption); (case x8 => (first | assumption | exact if_pos rfl | (refine (if_neg (by decide)).trans ?_; (first | assumption | exact if_pos rfl | (refine (if_neg (by decide)).trans ?_; (first | assumption | exact if_pos rfl | (refine (if_neg (by decide)).trans ?_; (first | assumption | exact if_pos rfl | (refine (if_neg (by decide)).trans ?_; (first | assumption | exact if_pos rfl | (refine (if_neg (by decide)).trans ?_; (first | assumption | exact if_pos rfl | (refine (if_neg (by decide)).trans ?_; (first | assumption | exact if_pos rfl | (refine (if_neg (by decide)).trans ?_; (first | assumption | exact if_pos rfl)))))))))))))))); (case x9 => (first | assumption | exact if_pos rfl | (refine (if_neg (by decide)).trans ?_; (first | assumption | exact if_pos rfl | (refine (if_neg (by decide)).trans ?_; (first | assumption | exact if_pos rfl | (refine (if_neg (by decide)).trans ?_; (first | assumption | exact if_pos rfl | (refine (if_neg (by decide)).trans ?_; (first | assumption | exact if_pos rfl | (refine (if_neg (by decide)).trans ?_; (first | assumption | exact if_pos rfl | (refine (if_neg (by decide)).trans ?_; (first | assumption | exact if_pos rfl | (refine (if_neg (by decide)).trans ?_; (first | assumption | exact if_pos rfl)))))))))))))))); (case x10 => (first | assumption | exact if_pos rfl | (refine (if_neg (by decide)).trans ?_; (first | assumption | exact if_pos rfl | (refine (if_neg (by decide)).trans ?_; (first | assumption | exact if_pos rfl | (refine (if_neg (by decide)).trans ?_; (first | assumption | exact if_pos rfl | (refine (if_neg (by decide)).trans ?_; (first | assumption | exact if_pos rfl | (refine (if_neg (by decide)).trans ?_; (first | assumption | exact if_pos rfl | (refine (if_neg (by decide)).trans ?_; (first | assumption | exact if_pos rfl | (refine (if_neg (by decide)).trans ?_; (first | assumption | exact if_pos rfl)))))))))))))))); (case x11 => (first | assumption | exact if_pos rfl | (refine (if_neg (by decide)).trans ?_; (first | assumption | exact if_pos rfl | (refine (if_neg (by decide)).trans ?_; (first | assumption | exact if_pos rfl | (refine (if_neg (by decide)).trans ?_; (first | assumption | exact if_pos rfl | (refine (if_neg (by decide)).trans ?_; (first | assumption | exact if_pos rfl | (refine (if_neg (by decide)).trans ?_; (first | assumption | exact if_pos rfl | (refine (if_neg (by decide)).trans ?_; (first | assumption | exact if_pos rfl | (refine (if_neg (by decide)).trans ?_; (first | assumption | exact if_pos rfl)))))))))))))))); (case x12 => omega); (case x13 => omega); (case x14 => assumption); (case x15 => assumption)) | refine Stop.mk ?_))) | ((with_reducible show wpAny _ _ (binaryOp Operator.Mod (Value.int _ _) (Value.int _ _)) _ _ _); (k_here; k_dflt (refine' mod_pos ?hb ?_; (case hb => decide)); intro t9; (try dsimp only))) | ((with_reducible show wpAny _ _ (subscriptTail _ _ _ _) _ _ _); (k_here; (with_reducible show wpAny _ _ (subscriptTail _ _ (Value.ref _) (Value.int _ _)) _ _ _); (with_unfolding_all refine' item_anyK ?k1 ?k2 ?k3 ?k4 ?k5 ?_ ?k6; (case k1 => exact News.isList (by k_asm) (by k_mem)); (case k2 => assumption); (case k3 => decide); (case k4 => first | assumption | omega); (case k5 => decide); (case k6 => with_unfolding_all rfl); k_whole); intro t9; (try dsimp only))) | ((with_reducible show wpAny _ _ (eval (Expr.Name _ _) _) _ _ _); first | (k_here; refine' nameX_C ?N ?c ?m ?d ?_ ?k ?x ?b; (case k => exact rfl); (case x => exact rfl); (case b => decide); (case c => exact rfl); (case N => k_asm); (case m => k_mem); (case d => assumption)) | (k_here; refine' nameX_L ?F ?v ?_ ?k ?x ?d; (case k => exact rfl); (case x => exact rfl); (case d => decide); (case F => k_asm); (case v => (first | assumption | exact if_pos rfl | (refine (if_neg (by decide)).trans ?_; first | assumption | exact if_pos rfl | (refine (if_neg (by decide)).trans ?_; first | assumption | exact if_pos rfl | (refine (if_neg (by decide)).trans ?_; first | assumption | exact if_pos rfl | (refine (if_neg (by decide)).trans ?_; first | assumption | exact if_pos rfl)))))))) | ((with_reducible show wpAny _ _ (eval (Expr.Call (Expr.Name _ _) _ _ _) _) _ _ _); (k_here; refine Call_ ?_)) | walk1 | dsimp only | (leave1; try dsimp only))
  done
end Mine
end
section
namespace Mine
set_option maxRecDepth 100000 in
set_option maxHeartbeats 8000000 in
theorem seg0 (w : World) (mean : ExcName → Option Value) (mg mb : Str → Option Value) (h₀ : Heap) (L c1 c2 : Addr) (ccd : Value) (m : Str → Option Value) (cc : List (Addr × Obj)) (s : Shared) (Q : Flow → Shared → Prop) (E : Value → Shared → Prop) (dp un : Nat) (gd : Option (List Code)) (D : Addr) (o1 o2 : Obj) (vs : List Value) (ns : List Int)
    (hd1 : dp + 20 < recursionLimit) (hu1 : un + 200 < cLine) (hB : Below callerA h₀ [] h₀) (hF : Fr h₀ L s.heap m) (hK : (theK.heap_1 w.params).In h₀) (hN : News h₀ L s.heap ((c2, o2) :: (c1, o1) :: cc)) (hC : CC cc) (hG : AllBare s.gens) (hT : Top p0 lo0 mean mg mb h₀) (hQ : Done h₀ L s.os Q)
    (hcn1 : o1.data = .cell none) (hcn : o2.data = .cell none) (hlt : c1 < c2) (hS : m "script" = some (.ref D)) (hL : h₀.IsList D vs.toArray) (hI : IntsAre vs ns) (hmax : ns.length ≤ 63) : Seg w 0 dp un gd L ccd [("names", c2), ("past", c1)] Q E s := by
  unfold Seg
  revert hK
  k_fill
  intro hK
  conv in (occs := *) (scopeAt w) => all_goals whnf
  have hlt9 : @LT.lt Nat _ c1 c2 := hlt
  have off1 : ∀ p ∈ cc, p.1 ≠ c1 := cc_off hN (.tail _ (.head _)) (fun p hp => .tail _ (.tail _ hp)) hC hcn1
  have off2 : ∀ p ∈ cc, p.1 ≠ c2 := cc_off hN (.head _) (fun p hp => .tail _ (.tail _ hp)) hC hcn
  refine wpAny_execs_cons ?_
  w_top off
  repeat' (first | (k_unfold; (try dsimp only)) | (k_end; wrow_close) | ((with_reducible show wpAny _ _ (newList _) _ _ _); (k_here; k_dflt (refine' newlist_K ?F ?N ?sz ?_; (case F => k_asm); (case N => k_asm); (case sz => decide)); (intro D9 h9 F9 N9 l9); (try simp only [List.cons_append, List.nil_append] at N9); (try dsimp only); (try k_fold); (try k_sweep))) | ((with_reducible show wpAny _ _ (storeName _ _ _) _ _ _); (k_here; (with_reducible show wpAny _ _ (storeName _ (PySem.Str.ofString "past") _) _ _ _); k_dflt (refine' storeX_C ?F ?N ?c ?U ?d ?_ ?a ?b; (case a => exact rfl); (case b => exact rfl); (case F => k_asm); (case N => k_asm); (case c => exact rfl); (case U => (first | exact UpdF.tail (by first | k_ne | exact ne_lm (by assumption) (by k_mem)) (UpdF.tail (by first | k_ne | exact ne_lm (by assumption) (by k_mem)) (UpdF.tail (by first | k_ne | exact ne_lm (by assumption) (by k_mem)) (UpdF.tail (by first | k_ne | exact ne_lm (by assumption) (by k_mem)) (UpdF.head (by assumption))))))); (case d => assumption)); intro h' o' F' N' d'; (try dsimp only at N'); (try k_sweep))) | ((with_reducible show wpAny _ _ (subscriptTail _ _ _ _) _ _ _); (k_here; (with_reducible show wpAny _ _ (subscriptTail _ _ (Value.ref _) (Value.int _ _)) _ _ _); (with_unfolding_all refine' item_anyK ?k1 ?k2 ?k3 ?k4 ?k5 ?_ ?k6; (case k1 => exact News.isList (by k_asm) (by k_mem)); (case k2 => assumption); (case k3 => decide); (case k4 => first | assumption | omega); (case k5 => decide); (case k6 => with_unfolding_all rfl); k_whole); intro t9; (try dsimp only))) | ((with_reducible show wpAny _ _ (eval (Expr.Name _ _) _) _ _ _); first | (k_here; refine' nameX_C ?N ?c ?m ?d ?_ ?k ?x ?b; (case k => exact rfl); (case x => exact rfl); (case b => decide); (case c => exact rfl); (case N => k_asm); (case m => k_mem); (case d => assumption)) | (k_here; refine' nameX_L ?F ?v ?_ ?k ?x ?d; (case k => exact rfl); (case x => exact rfl); (case d => decide); (case F => k_asm); (case v => (first | assumption | exact if_pos rfl | (refine (if_neg (by decide)).trans ?_; first | assumption | exact if_pos rfl | (refine (if_neg (by decide)).trans ?_; first | assumption | exact if_pos rfl | (refine (if_neg (by decide)).trans ?_; first | assumption | exact if_pos rfl | (refine (if_neg (by decide)).trans ?_; first | assumption | exact if_pos rfl)))))))) | ((with_reducible show wpAny _ _ (execs (_ :: _) _) _ _ _); (k_here; (with_reducible show wpAny _ _ (execs [_, _, _, _, _, _, _, _, _, _, _, _, _, _, _, _, _, _, _, _, _, _, _, _, _, _, _, _, _] _) _ _ _); refine Stop.mk ?_)) | ((with_reducible show wpAny _ _ (eval (Expr.Call (Expr.Name _ _) _ _ _) _) _ _ _); (k_here; refine Call_ ?_)) | walk1 | dsimp only | (leave1; try dsimp only))
  rename_i Dn ws hx2 hIn ld hx3 nn3 tt3 uu3 nn4 hz Fz Nz
  refine Stop.out ?_
  have lD : @LT.lt Nat _ c2 Dn := by omega
  exact seg3 w mean mg mb h₀ L c1 c2 ccd _ [(c1, o'), (Dn, W.listOf ws.toArray 0)] cc _ Q E dp un gd o' o2 Dn _ _ _ 0 ws _ hd1 hu1 hB Fz hK
    (news_sub Nz fun q hq => by
      rcases List.mem_cons.mp hq with rfl | hq
      · exact .tail _ (.tail _ (.tail _ (.head _)))
      · rcases List.mem_cons.mp hq with rfl | hq
        · exact .tail _ (.tail _ (.tail _ (.tail _ (.head _))))
        · rcases List.mem_cons.mp hq with rfl | hq
          · exact .head _
          · exact .tail _ (.tail _ (.tail _ (.tail _ (.tail _ hq)))))
    (PreOk.cons (nf_cell d') (PreOk.cons rfl PreOk.nil)) hC hG hT hQ (.head _) d' ((if_neg (by decide)).trans (if_pos rfl)) (if_pos rfl) (.tail _ (.head _)) hIn (abs_nn _) (five_le ns)
    (fun q hq => by
      rcases List.mem_cons.mp hq with rfl | hq
      · exact Nat.ne_of_lt hlt9
      · rcases List.mem_cons.mp hq with rfl | hq
        · exact Nat.ne_of_gt lD
        · exact off2 q hq) hcn

end Mine
end
namespace Mine
set_option maxRecDepth 100000 in
set_option maxHeartbeats 8000000 in
theorem law_run : ∀ (w : World) (mean : ExcName → Option Value) (mg mb : Str → Option Value) (h₀ : Heap) (L D c1 c2 : Addr) (ccd : Value) (vs : List Value) (ns : List Int) (m : Str → Option Value) (o1 o2 : Obj) (cc : List (Addr × Obj)) (s : Shared) (Q : Flow → Shared → Prop) (E : Value → Shared → Prop) (dp un : Nat) (gd : Option (List Code)),
      dp + 20 < recursionLimit → un + 200 < cLine → Below callerA h₀ [] h₀ → Fr h₀ L s.heap m → m "script" = some (.ref D) → (theK.heap_1 w.params).In h₀ → News h₀ L s.heap ((c2, o2) :: (c1, o1) :: cc) → o1.data = .cell none → o2.data = .cell none → c1 < c2 → CC cc → AllBare s.gens → Top p0 lo0 mean mg mb h₀ →
      h₀.IsList D vs.toArray → IntsAre vs ns → ns.length ≤ 63 → Done h₀ L s.os Q → Seg w 0 dp un gd L ccd [("names", c2), ("past", c1)] Q E s :=
  fun w mean mg mb h₀ L D c1 c2 ccd vs ns m o1 o2 cc s Q E dp un gd hd hu hB hF hS hK hN h1 h2 hlt hC hG hT hL hI hm hQ =>
    seg0 w mean mg mb h₀ L c1 c2 ccd m cc s Q E dp un gd D o1 o2 vs ns hd hu hB hF hK hN hC hG hT hQ h1 h2 hlt hS hL hI hm
def law_all.tw11508156127940914391 : Unit := ()
def law_all.tw3696266260080475319 : Unit := ()
def law_all.tw894093373338389421 : Unit := ()
def law_all.tw8102590376130340518 : Unit := ()
def law_all.tw11990661516314160929 : Unit := ()
def law_all.tw17679410998802902141 : Unit := ()
def law_all.tw12507762813244862470 : Unit := ()
def law_all.tw10495323473316150548 : Unit := ()
def law_all.tw7718588101098686155 : Unit := ()
def law_all.tw2994391244628644553 : Unit := ()
def law_all.tw11986533732874898875 : Unit := ()
def law_all.tw12338384112835736923 : Unit := ()
def law_all.tw10294897870698960256 : Unit := ()
def law_all.tw16577843217576899742 : Unit := ()
def law_all.tw185478952616494882 : Unit := ()
def law_all.tw11819635365892184359 : Unit := ()
def law_all.tw2225694422541459837 : Unit := ()
def law_all.tw17824699565076465075 : Unit := ()
def law_all.tw8732206733074496467 : Unit := ()
def law_all.tw12836747770095448064 : Unit := ()
def law_all.tw12719020962863150717 : Unit := ()
def law_all.tw9496831969247301946 : Unit := ()
def law_all.tw17120200779325065073 : Unit := ()
def law_all.tw16736700015079776020 : Unit := ()
def law_all.tw6550320685308687620 : Unit := ()
def law_all.tw11185291794543270386 : Unit := ()
def law_all.tw2127671843654578818 : Unit := ()
def law_all.tw2425498562415444253 : Unit := ()
def law_all.tw7385059913978287034 : Unit := ()
def law_all.tw11085147635474315433 : Unit := ()
def law_all.tw15982079766070313398 : Unit := ()
def law_all.tw10145363553656391591 : Unit := ()
def law_all.tw2238069962009214901 : Unit := ()
def law_all.tw1288270072008814257 : Unit := ()
def law_all.tw937055499877386264 : Unit := ()
def law_all.tw15994752243992478524 : Unit := ()
def law_all.tw1166129813771130549 : Unit := ()
set_option Elab.async true in
set_option maxRecDepth 100000 in
set_option maxHeartbeats 8000000 in
theorem law_all : PySem.Challenge.rw_jb0005_01.Holds := by
  (w_on; o_law; o_head (kHook theK.heap_1 [2, 3, 15, 17, 18, 20, 21, 22, 24, 25, 27, 28, 29, 30, 31, 33, 34, 36, 37, 38, 40, 41, 43, 44, 45, 47, 48, 50,
          51, 52, 54, 55, 57, 58, 59, 61, 62, 64, 65, 66, 68, 69, 71, 72, 73, 75, 76, 78, 79, 80, 82, 83, 85, 86, 87,
          89, 90, 92, 93, 94, 96, 97, 99, 100, 101, 103, 104, 106, 107, 108, 110, 111, 113, 114, 115, 117, 118, 120,
          121, 122, 124, 125, 127, 128, 129, 131, 132, 134, 135, 136, 139, 140] (fun _ => by kernel_rfl)); (case hw => w_witness2))
  k_fill
  intro w s₀ s₁ mg mb G Y fa o pm cd doc dV kV ho hd hcd hD hmg hg args vals as hpre hlay hrd hwl hlo
  have KX := kIn_of Y
  refine Ground.open G ?_
  intro T B D TE TW
  clear D
  have TA := at_of_top T
  have hfa : fa = 140 := by
    have z := mg_of KX T.g (show nsIn (Mine.theK.heap_1 w.params) mainGlobals "law" = some (some (.ref 140)) from rfl)
    have z2 := z.symm.trans hmg
    injection z2 with z2
    injection z2 with z2
    exact z2.symm
  subst hfa
  wrow_args hpre hlay hrd hwl hlo
  all_goals (first | refine callC_kw (enter_call ?_) | refine enter_call ?_ | refine callC_kw (enter_callW ?_) | refine enter_callW ?_ | w_how)
  all_goals w_top on
  all_goals have K0 := below_caller (Top.heap T)
  all_goals w_call any ho hd hcd hD T F
  have T2 : Top view (looseW view ["HAAB", "TZOLKIN"]) _ _ _ _ := T
  have t1 := tab88 T2 KX
  have t2 := tab109 T2 KX
  rename_i ns xhs xhlay xhL1 xhr1 xhl2 xla xlb D vs xlc hL xra xw1 xr0 hI xhr hlen xhc h1 tk1 o2 o1 ho2 ho1 N0 X0
  have hL' : (gnd s₁.heap).IsList D vs.toArray := by
    obtain ⟨ol, q1, q2, n, q3⟩ := id hL
    refine ⟨ol, hideAll_get _ q1 fun hm => ?_, q2, n, q3⟩
    rcases List.mem_cons.mp hm with z | hm
    · rw [z, t1.2] at q1; injection q1 with q1; subst q1; exact nomatch q3
    · rcases List.mem_cons.mp hm with z | hm
      · rw [z, t2.2] at q1; injection q1 with q1; subst q1; exact nomatch q3
      · exact nomatch hm
  refine law_run w (ExcName.means s₀.heap) mg mb (gnd s₁.heap) s₁.heap.objs.size D (s₁.heap.objs.size + 1) (s₁.heap.objs.size + 1 + 1) cd vs ns _ o1 o2 [(88, tabO #[]), (109, tabO #[])] { s₁ with heap := h1, toks := tk1 } _ _ _ _ _ ?_ ?_
    (below_caller _) (gnd_fr F) rfl (gnd_in KX) (gnd_news F N0 t1.2 t2.2) ho1 ho2 (Nat.lt_succ_self _) cc0 (.of_eq hg) (gnd_top T2 t1.2 t2.2) hL' hI (by omega)
    (fun h' g' d' tk m' pre cc F' N' C' G' => ?_)
  · decide
  · decide
  · show GoodWG _ _ _ _ _ _ _
    refine ⟨.inl ⟨.bool true, ofPy (.bool true), [], rfl, fun _ => rfl, ?_, ?_, ?_⟩, gnd_old F' N' C' t1 t2, rfl, G'⟩
    · exact .bool true
    · first | with_unfolding_all rfl | kernel_rfl
    · exact fun _ => ⟨.nil, fun _ h => nomatch h⟩
end Mine
theorem PySem.Challenge.cw_jb0005_01_holds : PySem.Challenge.rw_jb0005_01.Holds :=
  Mine.law_all
