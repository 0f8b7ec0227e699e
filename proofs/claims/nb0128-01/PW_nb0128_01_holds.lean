import PyProof.Rows.All
import Wide.All
import OpenK.AllK
import Wide.FinOn
import PySem.Challenge.RW_nb0128_01
set_option Elab.async false
set_option rowWalk.seconds 0
section
open PySem PySem.W PyProof.Rows
namespace Mine
set_option maxRecDepth 100000 in
set_option maxHeartbeats 8000000 in
open_top hd for PySem.Challenge.rw_nb0128_01
theorem quiet : True := by
  w_top off
  trivial
end Mine
end

section
open PySem PySem.W PyProof.Rows
namespace Mine
set_option maxRecDepth 100000
set_option maxHeartbeats 8000000

/-! plain: a table of signs -/
abbrev Tab := List (Nat × List Nat)
def look (tab : Tab) (x : Nat) : List Nat := (tab.lookup x).getD [x]
def trL (tab : Tab) (l : List Nat) : List Nat := l.flatMap (look tab)
def tr (tab : Tab) (t : Str) : Str := ⟨(trL tab t.cps.toList).toArray⟩
def rpl (c : Nat) (r : List Nat) (l : List Nat) : List Nat := l.flatMap fun x => if x = c then r else [x]

theorem rpl_append (c : Nat) (r a b : List Nat) : rpl c r (a ++ b) = rpl c r a ++ rpl c r b := by simp [rpl]
theorem rpl_free (c : Nat) (r : List Nat) : ∀ l : List Nat, c ∉ l → rpl c r l = l
  | [], _ => rfl
  | k :: l, h => by
    have h1 : ¬ k = c := fun e => h (e ▸ List.mem_cons_self ..)
    have ih := rpl_free c r l fun m => h (List.mem_cons_of_mem _ m)
    simp only [rpl, List.flatMap_cons] at ih ⊢
    rw [if_neg h1, ih]; rfl
theorem rpl_one (c : Nat) (r : List Nat) : rpl c r [c] = r := by simp [rpl]
theorem rpl_join (c : Nat) (z : Str) : ∀ parts : List Str, (∀ p ∈ parts, c ∉ p.cps.toList) → rpl c z.cps.toList (Str.join ⟨#[c]⟩ parts).cps.toList = (Str.join z parts).cps.toList
  | [], _ => rfl
  | [p], h => rpl_free c _ _ (h p (List.mem_singleton.mpr rfl))
  | p :: q :: r, h => by
    have ih := rpl_join c z (q :: r) fun a ha => h a (List.mem_cons_of_mem _ ha)
    show rpl c z.cps.toList (p ++ ⟨#[c]⟩ ++ Str.join ⟨#[c]⟩ (q :: r)).cps.toList = (p ++ z ++ Str.join z (q :: r)).cps.toList
    simp only [Str.cps_append, Array.toList_append]
    rw [rpl_append, rpl_append, ih, rpl_free c _ _ (h p (List.mem_cons_self ..))]
    show p.cps.toList ++ rpl c z.cps.toList [c] ++ _ = _
    rw [rpl_one]
theorem str_ext {a b : Str} (h : a.cps.toList = b.cps.toList) : a = b := by
  obtain ⟨a⟩ := a; obtain ⟨b⟩ := b
  exact congrArg Str.mk (Array.toList_inj.mp h)
theorem replace_rpl (x z : Str) (c : Nat) : (Txt.replace x ⟨#[c]⟩ z).cps.toList = rpl c z.cps.toList x.cps.toList := by
  rw [StrLaws.replace_one, ← rpl_join c z _ (StrLaws.split_free x c), StrLaws.join_split]

def tabOk (tab : Tab) (c : Nat) : Bool := tab.all fun p => p.1 != c && p.2.all (· != c)
theorem lookup_append (tab : Tab) (c x : Nat) (r : List Nat) : (tab ++ [(c, r)]).lookup x = (tab.lookup x).or (if x == c then some r else none) := by
  induction tab with
  | nil => simp only [List.nil_append, List.lookup]; cases h : x == c <;> simp [List.lookup]
  | cons p t ih =>
    obtain ⟨k, v⟩ := p
    simp only [List.cons_append, List.lookup]
    cases h : x == k <;> simp [ih]
theorem look_snoc (tab : Tab) (c : Nat) (r : List Nat) (h : tabOk tab c = true) (x : Nat) : rpl c r (look tab x) = look (tab ++ [(c, r)]) x := by
  unfold look
  rw [lookup_append]
  cases hx : tab.lookup x with
  | none =>
    by_cases e : x = c
    · subst e; simp [rpl]
    · simp [rpl, e]
  | some v =>
    have hm : (x, v) ∈ tab := by
      clear h
      induction tab with
      | nil => simp at hx
      | cons p t ih =>
        obtain ⟨k, u⟩ := p
        simp only [List.lookup] at hx
        cases hk : x == k with
        | true => rw [hk] at hx; simp only [Option.some.injEq] at hx; subst hx; rw [beq_iff_eq] at hk; subst hk; exact List.mem_cons_self ..
        | false => rw [hk] at hx; exact List.mem_cons_of_mem _ (ih hx)
    have := List.all_eq_true.mp h _ hm
    simp only [Bool.and_eq_true, bne_iff_ne, ne_eq, List.all_eq_true] at this
    simp only [Option.getD_some, Option.some_or]
    exact rpl_free c r v fun hc => this.2 c hc rfl
theorem trL_snoc (tab : Tab) (c : Nat) (r : List Nat) (h : tabOk tab c = true) (l : List Nat) : rpl c r (trL tab l) = trL (tab ++ [(c, r)]) l := by
  induction l with
  | nil => rfl
  | cons x l ih =>
    have ih' : rpl c r (l.flatMap (look tab)) = l.flatMap (look (tab ++ [(c, r)])) := ih
    simp only [trL, List.flatMap_cons]
    rw [rpl_append, look_snoc tab c r h, ih']
theorem replace_tr (tab : Tab) (c : Nat) (z t : Str) (h : tabOk tab c = true) : Txt.replace (tr tab t) ⟨#[c]⟩ z = tr (tab ++ [(c, z.cps.toList)]) t := by
  refine str_ext ?_
  rw [replace_rpl]
  exact trL_snoc tab c z.cps.toList h t.cps.toList
theorem tr_free (tab : Tab) (c : Nat) (z t : Str) (h : tabOk tab c = true) (hf : c ∉ (tr tab t).cps.toList) : tr tab t = tr (tab ++ [(c, z.cps.toList)]) t := by
  refine str_ext ?_
  have := trL_snoc tab c z.cps.toList h t.cps.toList
  rw [rpl_free] at this
  · exact this
  · exact hf
theorem tr_nil (t : Str) : tr [] t = t := by
  refine str_ext ?_
  show List.flatMap (look []) _ = _
  have : look [] = fun x => [x] := rfl
  rw [this]; simp
theorem trL_length_le (tab : Tab) (n : Nat) (hn : 1 ≤ n) (h : tab.all (fun p => decide (p.2.length ≤ n)) = true) (l : List Nat) : (trL tab l).length ≤ n * l.length := by
  induction l with
  | nil => simp [trL]
  | cons x l ih =>
    have ih' : (l.flatMap (look tab)).length ≤ n * l.length := ih
    simp only [trL, List.flatMap_cons, List.length_append, List.length_cons]
    have : (look tab x).length ≤ n := by
      unfold look
      cases hx : tab.lookup x with
      | none => simpa using hn
      | some v =>
        clear ih ih'
        induction tab with
        | nil => simp at hx
        | cons p t ih =>
          obtain ⟨k, u⟩ := p
          simp only [List.all_cons, Bool.and_eq_true, decide_eq_true_eq] at h
          simp only [List.lookup] at hx
          cases hk : x == k with
          | true => rw [hk] at hx; simp only [Option.some.injEq] at hx; subst hx; exact h.1
          | false => rw [hk] at hx; exact ih h.2 hx
    rw [Nat.mul_succ]; omega
theorem tr_length_le (tab : Tab) (n : Nat) (hn : 1 ≤ n) (h : tab.all (fun p => decide (p.2.length ≤ n)) = true) (t : Str) : (tr tab t).length ≤ n * t.length := by
  have := trL_length_le tab n hn h t.cps.toList
  simpa [tr, Str.length] using this
theorem trL_append (tab : Tab) (a b : List Nat) : trL tab (a ++ b) = trL tab a ++ trL tab b := by simp [trL]
end Mine
end

section
open PySem PySem.W PyProof.Rows
namespace Mine
set_option maxRecDepth 100000
set_option maxHeartbeats 8000000

abbrev escScope : Scope := { kind := .function, names := [(Str.ofString "text", .local), (Str.ofString "TypeError", .globalImplicit), (Str.ofString "AttributeError", .globalImplicit), (Str.ofString "_raise_serialization_error", .globalImplicit)], isGenerator := false, isCoroutine := false, more := [] }

theorem set_same {m : Str → Option Value} {x : Str} {v : Value} (h : m x = some v) : m = fun y => if y = x then some v else m y := by
  funext y
  split
  · rename_i e; rw [e, h]
  · rfl

theorem esc_if {prog : Program} {w : World} {A : Around} {E : Value → Shared → Prop} {s : Shared} {h₀ : Heap} {L a : Addr} {m : Str → Option Value} {news : List (Addr × Obj)} {name : Str} {cd : Value} {Q : Flow → Shared → Prop}
    {cs rs : Str} {p1 p2 p3 p4 p5 p6 p7 p8 p9 p10 p11 : Pos} {tab : Tab} {t : Str} {tk : Tok} (c : Nat)
    (F : Fr h₀ L s.heap m) (N : News h₀ L s.heap news) (hv : m (Str.ofString "text") = some (.str (tr tab t) tk))
    (hc : cs = ⟨#[c]⟩) (hok : tabOk tab c = true) (hb : tab.all (fun p => decide (p.2.length ≤ 6)) = true) (ht : t.length ≤ 1000) (hp : (p6.endLine == p9.line) = true) (hz : rs.length ≤ 14) (hne : (cs == rs) = false) (htk : 0 < s.toks)
    (h : ∀ h' tk' k', Fr h₀ L h' (fun y => if y = Str.ofString "text" then some (.str (tr (tab ++ [(c, rs.cps.toList)]) t) k') else m y) → News h₀ L h' news → 0 < tk' → Q .next { s with heap := h', toks := tk' }) :
    wpAny (model prog w) A (exec (.If (.Compare (.Constant (.str cs) 0 p1) [.In] [.Name (Str.ofString "text") p2] p3)
      [.Assign [.Name (Str.ofString "text") p4] (.Call (.Attribute (.Name (Str.ofString "text") p5) (Str.ofString "replace") p6) [.Constant (.str cs) 0 p7, .Constant (.str rs) 0 p8] [] p9) p10] [] p11) (envOf name escScope L a cd)) Q E s := by
  have hlen := tr_length_le tab 6 (by decide) hb t
  refine wpAny_If (wpAny_isTrue_Compare1 (Calls.Constant_str (ld F hv (in_str (wpAny_truthy_bool ?_)))) (by rfl))
  subst hc
  rw [StrLaws.found_one]
  split
  · refine wpAny_execs_cons (wpAny_Assign_Name ?_)
    refine MethodCall_ (pl := (do return (← importBound (.Name (Str.ofString "text") p5) (envOf name escScope L a cd)).getD true)) ?_ ?he
    case he =>
      show (eval (.Name (Str.ofString "text") p5) (envOf name escScope L a cd) >>= fun ov => standAt p6.atName >>= fun _ => methodCall (.Name (Str.ofString "text") p5) (Str.ofString "replace") p6 p9 (envOf name escScope L a cd) ov 2 (backTo p9 (starEach [Expr.Constant (Const.str { cps := #[c] }) 0 p7, Expr.Constant (Const.str rs) 0 p8] (envOf name escScope L a cd))) []) = _
      unfold methodCall methodCallPos
      rw [hp]
      rfl
    refine ld (s := { s with toks := s.toks + 1 }) F hv (GM.replace (callWith_method1 ?_))
    refine spliced_more (Calls.Constant_str (spliced_more (Calls.Constant_str (spliced_none ?_))))
    have hu : s.toks + 1 ≠ 0 := by omega
    have hv2 : s.toks + 1 + 1 ≠ 0 := by omega
    have huv : s.toks + 1 ≠ s.toks + 1 + 1 := by omega
    refine SC.replaceW hu hv2 huv hne (by omega) hz fun t' k => ?_
    refine stN (s := { s with toks := k }) F N fun h' F' N' => wpAny_execs_nil ?_
    rw [replace_tr tab c rs t hok] at F'
    exact h h' (k + 1) t' F' N' (Nat.succ_pos _)
  · rename_i hf
    refine wpAny_execs_nil (h s.heap (s.toks + 1) tk ?_ N (Nat.succ_pos _))
    rw [← tr_free tab c rs t hok (by simpa using hf), ← set_same hv]
    exact F
end Mine
end

section
open PySem PySem.W PyProof.Rows
namespace Mine
set_option maxRecDepth 100000
set_option maxHeartbeats 8000000

abbrev T1 (k : Nat) (w : World) (mean : ExcName → Option Value) (mg mb : Str → Option Value) (f : Addr) (pre : Prop) (vs : List Value) (R : Tok → Value) : Prop :=
  ∀ (news : List (Addr × Obj)) (dp un : Nat) (gd : Option (List Code)) (cn : Str) (cs : Scope) (a : Addr) (ccd : Value) (cl : List (Str × Addr)) (outer : List Env) (A₀ : Around) (base h₀ : Heap) (L : Addr) (m : Str → Option Value) (s : Shared) (Q E : Value → Shared → Prop),
    Below A₀ base outer h₀ → Fr h₀ L s.heap m → (hd.heap_39 w.params).In h₀ → News h₀ L s.heap news → Top hd.view_39 (looseW hd.view_39 []) mean mg mb h₀ → cs.kind = .function →
    pre → dp + k < recursionLimit → un + 10 * k < cLine → (∀ (t : Tok) (h' : Heap) (tk' : Nat), Fr h₀ L h' m → News h₀ L h' news → s.toks ≤ tk' → Q (R t) { s with heap := h', toks := tk' }) →
      wpAny (model PySem.Challenge.rw_nb0128_01.row.prog w) (ktrTop dp un gd cn cs L a ccd cl outer) (call (.ref f) vs) Q E s

/-- toks: what is asked may take for granted that they grow. -/
theorem T1_toks {k w mean mg mb f pre vs R} (h : ∀ (news : List (Addr × Obj)) (dp un : Nat) (gd : Option (List Code)) (cn : Str) (cs : Scope) (a : Addr) (ccd : Value) (cl : List (Str × Addr)) (outer : List Env) (A₀ : Around) (base h₀ : Heap) (L : Addr) (m : Str → Option Value) (s : Shared) (Q E : Value → Shared → Prop),
    Below A₀ base outer h₀ → Fr h₀ L s.heap m → (hd.heap_39 w.params).In h₀ → News h₀ L s.heap news → Top hd.view_39 (looseW hd.view_39 []) mean mg mb h₀ → cs.kind = .function →
    pre → dp + k < recursionLimit → un + 10 * k < cLine → (∀ (t : Tok) (h' : Heap) (tk' : Nat), Fr h₀ L h' m → News h₀ L h' news → Q (R t) { s with heap := h', toks := tk' }) →
      wpAny (model PySem.Challenge.rw_nb0128_01.row.prog w) (ktrTop dp un gd cn cs L a ccd cl outer) (call (.ref f) vs) Q E s) : T1 k w mean mg mb f pre vs R := by
  intro news dp un gd cn cs a ccd cl outer A₀ base h₀ L m s Q E h1 h2 h3 h4 h5 h6 h7 h8 h9 hret
  exact wpAny_with_toks (Nat.le_refl s.toks) (h news dp un gd cn cs a ccd cl outer A₀ base h₀ L m s _ _ h1 h2 h3 h4 h5 h6 h7 h8 h9 fun t h' tk' F N hk => hret t h' tk' F N hk)

theorem T1_use {k w mean mg mb f pre vs R} (C : T1 k w mean mg mb f pre vs R) {news : List (Addr × Obj)} {dp un : Nat} {gd : Option (List Code)} {cn : Str} {cs : Scope} {a : Addr} {ccd : Value} {cl : List (Str × Addr)} {outer : List Env} {A₀ : Around} {base h₀ : Heap} {L : Addr} {m : Str → Option Value} {s : Shared} {Q E : Value → Shared → Prop}
    (B : Below A₀ base outer h₀) (F : Fr h₀ L s.heap m) (X : (hd.heap_39 w.params).In h₀) (N : News h₀ L s.heap news) (T : Top hd.view_39 (looseW hd.view_39 []) mean mg mb h₀) (hk : cs.kind = .function)
    (hp : pre) (hd : dp + k < recursionLimit) (hu : un + 10 * k < cLine) (hret : ∀ (t : Tok) (h' : Heap) (tk' : Nat), Fr h₀ L h' m → News h₀ L h' news → s.toks ≤ tk' → Q (R t) { s with heap := h', toks := tk' }) :
      wpAny (model PySem.Challenge.rw_nb0128_01.row.prog w) (ktrTop dp un gd cn cs L a ccd cl outer) (call (.ref f) vs) Q E s := C _ _ _ _ _ _ _ _ _ _ _ _ _ _ _ _ _ _ B F X N T hk hp hd hu hret

local macro_rules | `(tactic| walk_at "execs cons") => `(tactic| (k_here; refine wpAny_execs_cons ?_))
local macro_rules | `(tactic| walk_at "exec If") => `(tactic| (k_here; k_dflt ((first | (refine' esc_if 38 ?F ?N ?hv ?hc ?hok ?hb ?ht ?hp ?hz ?hne ?htk ?_; (case hc => decide +kernel)) | (refine' esc_if 60 ?F ?N ?hv ?hc ?hok ?hb ?ht ?hp ?hz ?hne ?htk ?_; (case hc => decide +kernel)) | (refine' esc_if 62 ?F ?N ?hv ?hc ?hok ?hb ?ht ?hp ?hz ?hne ?htk ?_; (case hc => decide +kernel)) | (refine' esc_if 34 ?F ?N ?hv ?hc ?hok ?hb ?ht ?hp ?hz ?hne ?htk ?_; (case hc => decide +kernel)) | (refine' esc_if 13 ?F ?N ?hv ?hc ?hok ?hb ?ht ?hp ?hz ?hne ?htk ?_; (case hc => decide +kernel)) | (refine' esc_if 10 ?F ?N ?hv ?hc ?hok ?hb ?ht ?hp ?hz ?hne ?htk ?_; (case hc => decide +kernel)) | (refine' esc_if 9 ?F ?N ?hv ?hc ?hok ?hb ?ht ?hp ?hz ?hne ?htk ?_; (case hc => decide +kernel))); (case F => k_asm); (case N => k_asm); (case hv => exact rfl); (case hok => decide +kernel); (case hb => decide +kernel); (case ht => assumption); (case hp => decide +kernel); (case hz => decide +kernel); (case hne => decide +kernel); (case htk => first | assumption | exact Nat.succ_pos _); k_whole; intro h' tk' k' F' N' htk'; (try k_sweep))))

def tab_cdata : Tab := [(38, (Str.ofString "&amp;").cps.toList), (60, (Str.ofString "&lt;").cps.toList), (62, (Str.ofString "&gt;").cps.toList)]
def tab_attrib : Tab := [(38, (Str.ofString "&amp;").cps.toList), (60, (Str.ofString "&lt;").cps.toList), (62, (Str.ofString "&gt;").cps.toList), (34, (Str.ofString "&quot;").cps.toList), (13, (Str.ofString "&#13;").cps.toList), (10, (Str.ofString "&#10;").cps.toList), (9, (Str.ofString "&#09;").cps.toList)]
def tab_html : Tab := [(38, (Str.ofString "&amp;").cps.toList), (62, (Str.ofString "&gt;").cps.toList), (34, (Str.ofString "&quot;").cps.toList)]
def tab_cc14n : Tab := [(38, (Str.ofString "&amp;").cps.toList), (60, (Str.ofString "&lt;").cps.toList), (62, (Str.ofString "&gt;").cps.toList), (13, (Str.ofString "&#xD;").cps.toList)]
def tab_ac14n : Tab := [(38, (Str.ofString "&amp;").cps.toList), (60, (Str.ofString "&lt;").cps.toList), (34, (Str.ofString "&quot;").cps.toList), (9, (Str.ofString "&#x9;").cps.toList), (10, (Str.ofString "&#xA;").cps.toList), (13, (Str.ofString "&#xD;").cps.toList)]
def tabOf (i : Int) : Tab := if i = 0 then tab_cdata else if i = 1 then tab_attrib else if i = 2 then tab_html else if i = 3 then tab_cc14n else tab_ac14n

theorem esc_cdata {w mean mg mb} (t : Str) (tk : Tok) : T1 2 w mean mg mb 35 (t.length ≤ 1000) [.str t tk] (fun k => .str (tr tab_cdata t) k) := by
  suffices h : T1 2 w mean mg mb 35 (t.length ≤ 1000) [.str (tr [] t) tk] (fun k => .str (tr tab_cdata t) k) by rw [tr_nil] at h; exact h
  refine T1_toks ?_
  k_fill
  intro news dp un gd cn cs a ccd cl outer A₀ base h₀ L m s Q E h1 h2 h3 h4 h5 h6 h7 h8 h9 hret
  refine wpAny_call ?_
  k_dflt cell_enter
  k_steps
  all_goals (refine hret _ _ _ ?_ ?_ <;> k_asm)
theorem esc_attrib {w mean mg mb} (t : Str) (tk : Tok) : T1 2 w mean mg mb 42 (t.length ≤ 1000) [.str t tk] (fun k => .str (tr tab_attrib t) k) := by
  suffices h : T1 2 w mean mg mb 42 (t.length ≤ 1000) [.str (tr [] t) tk] (fun k => .str (tr tab_attrib t) k) by rw [tr_nil] at h; exact h
  refine T1_toks ?_
  k_fill
  intro news dp un gd cn cs a ccd cl outer A₀ base h₀ L m s Q E h1 h2 h3 h4 h5 h6 h7 h8 h9 hret
  refine wpAny_call ?_
  k_dflt cell_enter
  k_steps
  all_goals (refine hret _ _ _ ?_ ?_ <;> k_asm)
theorem esc_html {w mean mg mb} (t : Str) (tk : Tok) : T1 2 w mean mg mb 49 (t.length ≤ 1000) [.str t tk] (fun k => .str (tr tab_html t) k) := by
  suffices h : T1 2 w mean mg mb 49 (t.length ≤ 1000) [.str (tr [] t) tk] (fun k => .str (tr tab_html t) k) by rw [tr_nil] at h; exact h
  refine T1_toks ?_
  k_fill
  intro news dp un gd cn cs a ccd cl outer A₀ base h₀ L m s Q E h1 h2 h3 h4 h5 h6 h7 h8 h9 hret
  refine wpAny_call ?_
  k_dflt cell_enter
  k_steps
  all_goals (refine hret _ _ _ ?_ ?_ <;> k_asm)
theorem esc_cc14n {w mean mg mb} (t : Str) (tk : Tok) : T1 2 w mean mg mb 56 (t.length ≤ 1000) [.str t tk] (fun k => .str (tr tab_cc14n t) k) := by
  suffices h : T1 2 w mean mg mb 56 (t.length ≤ 1000) [.str (tr [] t) tk] (fun k => .str (tr tab_cc14n t) k) by rw [tr_nil] at h; exact h
  refine T1_toks ?_
  k_fill
  intro news dp un gd cn cs a ccd cl outer A₀ base h₀ L m s Q E h1 h2 h3 h4 h5 h6 h7 h8 h9 hret
  refine wpAny_call ?_
  k_dflt cell_enter
  k_steps
  all_goals (refine hret _ _ _ ?_ ?_ <;> k_asm)
theorem esc_ac14n {w mean mg mb} (t : Str) (tk : Tok) : T1 2 w mean mg mb 63 (t.length ≤ 1000) [.str t tk] (fun k => .str (tr tab_ac14n t) k) := by
  suffices h : T1 2 w mean mg mb 63 (t.length ≤ 1000) [.str (tr [] t) tk] (fun k => .str (tr tab_ac14n t) k) by rw [tr_nil] at h; exact h
  refine T1_toks ?_
  k_fill
  intro news dp un gd cn cs a ccd cl outer A₀ base h₀ L m s Q E h1 h2 h3 h4 h5 h6 h7 h8 h9 hret
  refine wpAny_call ?_
  k_dflt cell_enter
  k_steps
  all_goals (refine hret _ _ _ ?_ ?_ <;> k_asm)

end Mine
end

section
open PySem PySem.W PyProof.Rows
namespace Mine
set_option maxRecDepth 100000
set_option maxHeartbeats 8000000

local macro_rules | `(tactic| walk_at "call ref") => `(tactic| (k_here; k_dflt ((first | refine' T1_use (esc_cdata _ _) ?B ?F ?X ?N ?T ?K ?P ?d ?u ?_ | refine' T1_use (esc_attrib _ _) ?B ?F ?X ?N ?T ?K ?P ?d ?u ?_ | refine' T1_use (esc_html _ _) ?B ?F ?X ?N ?T ?K ?P ?d ?u ?_ | refine' T1_use (esc_cc14n _ _) ?B ?F ?X ?N ?T ?K ?P ?d ?u ?_ | refine' T1_use (esc_ac14n _ _) ?B ?F ?X ?N ?T ?K ?P ?d ?u ?_); (case B => k_asm); (case F => k_asm); (case X => k_asm); (case N => k_asm); (case T => k_asm); (case K => first | exact rfl | assumption); (case P => first | assumption | omega); (case d => ktr_room); (case u => ktr_units); k_whole; intro t' h' tk' F' N' htk'; (try k_sweep))))

theorem law_escape {w mean mg mb} (t : Str) (tk : Tok) (i : Int) (tk2 : Tok) : T1 4 w mean mg mb 75 (t.length ≤ 1000) [.str t tk, .int i tk2] (fun k => .str (tr (tabOf i) t) k) := by
  refine T1_toks ?_
  k_fill
  intro news dp un gd cn cs a ccd cl outer A₀ base h₀ L m s Q E h1 h2 h3 h4 h5 h6 h7 h8 h9 hret
  refine wpAny_call ?_
  k_dflt cell_enter
  k_steps
  all_goals (refine cb_retS (Q := Q) hret ?_ (by k_asm) (by k_asm); unfold tabOf; simp [*])
end Mine
end

section
open PySem PySem.W PyProof.Rows
namespace Mine
set_option maxRecDepth 100000
set_option maxHeartbeats 8000000

section
variable {prog : Program} {w : World} {A : Around} {E : Value → Shared → Prop} {s : Shared} {env : Env} {h₀ : Heap} {x : Str} {body : List Stmt} {Q : Flow → Shared → Prop}

theorem range_size (n : Nat) : Builtin.Range.rangeSize 0 (n : Int) 1 = (n : Int) := by
  unfold Builtin.Range.rangeSize
  simp <;> omega

def TurnEnd (h₀ : Heap) (L : Addr) (x : Str) (R : Addr) (m₀ : Str → Option Value) (rest : List (Addr × Obj)) (s : Shared) (G : List Value → Prop) (f : Flow) (s₂ : Shared) : Prop :=
  f = .next ∧ ∃ h' tk' vs' c' u, s₂ = { s with heap := h', toks := tk' } ∧ Fr h₀ L h' (fun y => if y = x then u else m₀ y) ∧ News h₀ L h' ((R, listOf (List.toArray vs') c') :: rest) ∧ G vs'
theorem TurnEnd.intro {L R : Addr} {m₀ : Str → Option Value} {rest : List (Addr × Obj)} {G : List Value → Prop} {h' : Heap} {tk' c' : Nat} {vs' : List Value} {u : Option Value} {ar : Array Value}
    (F : Fr h₀ L h' (fun y => if y = x then u else m₀ y)) (N : News h₀ L h' ((R, listOf ar c') :: rest)) (e : ar = vs'.toArray) (g : G vs') : TurnEnd h₀ L x R m₀ rest s G .next { s with heap := h', toks := tk' } := ⟨rfl, h', tk', vs', c', u, rfl, F, e ▸ N, g⟩

theorem range_list {r R : Addr} {n c₀ : Nat} {t₁ u₁ v₁ : Tok} {m₀ : Str → Option Value} {news : List (Addr × Obj)} {vs₀ : List Value} (Good : Nat → List Value → Prop)
    (hh : A.handled = none) (hr : IsRange s.heap r 0 (n : Int) 1 t₁ u₁ v₁) (hn : n ≤ 100000)
    (F : Fr h₀ env.locals s.heap m₀) (N : News h₀ env.locals s.heap ((R, listOf vs₀.toArray c₀) :: news)) (h0 : Good 0 vs₀) (hnR : ∀ p ∈ news, p.1 < R)
    (turn : ∀ i t vs c h tk own, i < n → Good i vs → (∀ p ∈ own ++ news, p.1 ≠ R) → Fr h₀ env.locals h (fun y => if y = x then some (.int (i : Int) t) else m₀ y) → News h₀ env.locals h ((R, listOf vs.toArray c) :: (own ++ news)) →
      wpAny (model prog w) A (execs body env) (TurnEnd h₀ env.locals x R m₀ (own ++ news) s (Good (i + 1))) E { s with heap := h, toks := tk })
    (done : ∀ vs c h tk u, Good n vs → Fr h₀ env.locals h (fun y => if y = x then u else m₀ y) → News h₀ env.locals h ((R, listOf vs.toArray c) :: news) → Q .next { s with heap := h, toks := tk }) :
    wpAny (model prog w) A (pyIter (.ref r)) (fun it s₂ => LoopAtV prog w A h₀ env x body Q E it s₂) E s := by
  refine wpAny_pyIter_range hr (small_one (by omega) (by omega) (by omega) (by omega)) ?_
  have W := Walks.range (prog := prog) (w := w) hh s.heap.objs.size 0 1 n
  let J : Nat → (Str → Option Value) → List (Addr × Obj) → Prop := fun i m₁ news₁ => ∃ vs c u, news₁ = (R, listOf vs.toArray c) :: news ∧ Good i vs ∧ m₁ = fun y => if y = x then u else m₀ y
  have hnew : ∀ p ∈ ((R, listOf vs₀.toArray c₀) :: news), p.1 ≠ s.heap.objs.size := fun p hp e => absurd (Heap.lt_size (N p hp).1) (e ▸ Nat.lt_irrefl _)
  have same : ∀ {vs : List Value} {c : Nat}, ∀ p ∈ ((R, listOf vs.toArray c) :: news), p.1 ∉ [s.heap.objs.size] := fun p hp hI => by
    rcases List.mem_cons.mp hp with rfl | hp
    · exact hnew _ (List.mem_cons_self ..) (List.mem_singleton.mp hI)
    · exact hnew p (List.mem_cons_of_mem _ hp) (List.mem_singleton.mp hI)
  refine ⟨_, _, _, n, _, _, m₀, _, J, rfl, W, ?_, ?_, ?_, ?_, F.push _, (fun p hp => ⟨Heap.get?_push_of_some _ (N p hp).1, (N p hp).2⟩), ⟨vs₀, c₀, m₀ x, rfl, h0, ?_⟩, ?_, ?_⟩
  · intro hm
    exact absurd F.ns.lt ((List.mem_singleton.mp hm) ▸ Nat.lt_irrefl _)
  · intro b hb
    rw [List.mem_singleton.mp hb]
    exact next_is_new F
  · exact same
  · show IsRangeIter _ _ _ _ _
    rw [range_size]
    simpa using Heap.get?_push_size _ rfl
  · funext y; split
    · rename_i e; rw [e]
    · rfl
  · rintro i v m₁ news₁ s₁ own ⟨hh', tk', rfl⟩ hin ⟨t, rfl⟩ ⟨vs, c, u, rfl, hg, rfl⟩ hoff hown _ _ _ F₁ N₁
    have hsep : ∀ p ∈ own ++ news, p.1 ≠ R := fun p hp e => by
      rcases List.mem_append.mp hp with hp | hp
      · have := List.mem_singleton.mp (hown p hp)
        exact hnew _ (List.mem_cons_self ..) (e ▸ this)
      · exact absurd (hnR p hp) (e ▸ Nat.lt_irrefl _)
    have e1 : (0 : Int) + (i : Int) * 1 = (i : Int) := by omega
    rw [e1] at F₁
    have e2 : (fun y => if y = x then some (Value.int (i : Int) t) else if y = x then u else m₀ y) = fun y => if y = x then some (Value.int (i : Int) t) else m₀ y := by
      funext y; split <;> rfl
    rw [e2] at F₁
    have N₂ : News h₀ env.locals hh' ((R, listOf vs.toArray c) :: (own ++ news)) := fun p hp => N₁ p (by
      rcases List.mem_cons.mp hp with rfl | hp
      · simp
      · rcases List.mem_append.mp hp with hp | hp <;> simp [hp])
    refine wpAny_mono (turn i t vs c hh' tk' own hin hg hsep F₁ N₂) (fun f s₂ p => ?_) fun _ _ e => e
    obtain ⟨rfl, h', tk'', vs', c', u', rfl, F', N', hg'⟩ := p
    refine .next ⟨rfl, h', tk'', _, _, rfl, F', fun p hp => N' p ?_, same, ⟨vs', c', u', rfl, hg', rfl⟩⟩
    rcases List.mem_append.mp hp with hp | hp
    · simp [hp]
    · rcases List.mem_cons.mp hp with rfl | hp <;> simp [*]
  · rintro h' tk m' news' F' N' _ ⟨vs, c, u, rfl, hg, rfl⟩
    exact done vs c h' tk u hg F' N'
end

/-- the size that the row tells of the k-th sign from the right -/
def sgn (t : Str) (k : Nat) : Str := ⟨#[t.cps.toList.getD (t.length - 1 - k) 0]⟩
def sz (t : Str) (i j : Int) (k : Nat) : Int := ((tr (tabOf j) (tr (tabOf i) (sgn t k))).length : Int)
def rowOf (t : Str) (i j : Int) (n : Nat) : List Int := (List.range n).map (sz t i j)

theorem tabOf_le (i : Int) : (tabOf i).all (fun p => decide (p.2.length ≤ 6)) = true := by
  unfold tabOf
  split
  · decide +kernel
  split
  · decide +kernel
  split
  · decide +kernel
  split
  · decide +kernel
  decide +kernel
theorem trOf_le (i : Int) (t : Str) : (tr (tabOf i) t).length ≤ 6 * t.length := tr_length_le _ 6 (by decide) (tabOf_le i) t

theorem esc_use {w mean mg mb} {t : Str} {tk : Tok} {i : Int} {tk2 : Tok} {news : List (Addr × Obj)} {dp un : Nat} {gd : Option (List Code)} {cn : Str} {cs : Scope} {a : Addr} {ccd : Value} {cl : List (Str × Addr)} {outer : List Env} {A₀ : Around} {base h₀ : Heap} {L : Addr} {m : Str → Option Value} {s : Shared} {Q E : Value → Shared → Prop}
    (B : Below A₀ base outer h₀) (F : Fr h₀ L s.heap m) (X : (hd.heap_39 w.params).In h₀) (N : News h₀ L s.heap news) (T : Top hd.view_39 (looseW hd.view_39 []) mean mg mb h₀) (hk : cs.kind = .function)
    (hp : t.length ≤ 1000) (hd : dp + 4 < recursionLimit) (hu : un + 10 * 4 < cLine) (hret : ∀ (k : Tok) (h' : Heap) (tk' : Nat), Fr h₀ L h' m → News h₀ L h' news → s.toks ≤ tk' → (tr (tabOf i) t).length ≤ 6 * t.length → Q (.str (tr (tabOf i) t) k) { s with heap := h', toks := tk' }) :
      wpAny (model PySem.Challenge.rw_nb0128_01.row.prog w) (ktrTop dp un gd cn cs L a ccd cl outer) (call (.ref 75) [.str t tk, .int i tk2]) Q E s :=
  T1_use (law_escape t tk i tk2) B F X N T hk hp hd hu fun k h' tk' F' N' htk => hret k h' tk' F' N' htk (trOf_le i t)

local macro_rules | `(tactic| walk_at "call ref") => `(tactic| (k_here; k_dflt ((refine' esc_use ?B ?F ?X ?N ?T ?K ?P ?d ?u ?_); (case B => k_asm); (case F => k_asm); (case X => k_asm); (case N => k_asm); (case T => k_asm); (case K => first | exact rfl | assumption); (case P => first | assumption | omega); (case d => ktr_room); (case u => ktr_units); k_whole; intro t' h' tk' F' N' htk' hl'; (try k_sweep))))
local macro_rules | `(tactic| walk_at "call type:range") => `(tactic| (k_here; k_dflt (refine' range1_rows ?F ?N ?_; (case F => k_asm); (case N => k_asm); k_whole; intro h' tk' t1 u1 v1 R' F' N' k'; (try k_sweep))))
local macro_rules | `(tactic| walk_at "call builtin:list.append") => `(tactic| (k_here; (with_reducible show wpAny _ _ (call (Value.builtin _) [Value.ref _, _]) _ _ _); k_dflt (refine' append_K ?k1 ?k2 (Upd.head ?k3) ?_ ?z; (case k1 => k_asm); (case k2 => k_asm); (case k3 => assumption); (case z => (simp only [sizeLine_eq, List.size_toArray]; omega)); k_whole); intro h' F' N'; (try k_sweep)))

theorem allLt_out {d : Nat} : ∀ {l : List (Addr × Obj)}, AllLt d l → ∀ p ∈ l, p.1 < d
  | [], _, _, hp => nomatch hp
  | q :: l, h, p, hp => by
    rcases List.mem_cons.mp hp with rfl | hp
    · exact h.1
    · exact allLt_out h.2 p hp

abbrev TL (k : Nat) (w : World) (mean : ExcName → Option Value) (mg mb : Str → Option Value) (f : Addr) (pre : Prop) (vs : List Value) (zs : List Int) : Prop :=
  ∀ (news : List (Addr × Obj)) (dp un : Nat) (gd : Option (List Code)) (cn : Str) (cs : Scope) (a : Addr) (ccd : Value) (cl : List (Str × Addr)) (outer : List Env) (A₀ : Around) (base h₀ : Heap) (L : Addr) (m : Str → Option Value) (s : Shared) (Q E : Value → Shared → Prop),
    Below A₀ base outer h₀ → Fr h₀ L s.heap m → (hd.heap_39 w.params).In h₀ → News h₀ L s.heap news → Top hd.view_39 (looseW hd.view_39 []) mean mg mb h₀ → cs.kind = .function →
    pre → dp + k < recursionLimit → un + 10 * k < cLine → (∀ (r : Addr) (us : List Value) (c : Nat) (h' : Heap) (tk' : Nat), Fr h₀ L h' m → News h₀ L h' ((r, listOf us.toArray c) :: news) → (∀ p ∈ news, p.1 < r) → IntsAre us zs → Q (.ref r) { s with heap := h', toks := tk' }) →
      wpAny (model PySem.Challenge.rw_nb0128_01.row.prog w) (ktrTop dp un gd cn cs L a ccd cl outer) (call (.ref f) vs) Q E s

def rowFor (t : Str) (i j kd : Int) : List Int :=
  if kd = 0 then rowOf t i j t.length ++ [0, 3, 127] else if kd = 1 then rowOf t i j t.length ++ [127, 2, 0] else if kd = 2 then rowOf t i j t.length else [0] ++ rowOf t i j t.length

theorem item_sgn {t : Str} {k : Nat} (hk : k < t.length) : Txt.item t (-1 - (k : Int)) = sgn t k := by
  unfold Txt.item sgn
  have e : Txt.charAt t (-1 - (k : Int)) = t.cps.toList[t.length - 1 - k]? := by
    unfold Txt.charAt seqIndex?
    have h1 : (-1 - (k : Int)) < 0 := by omega
    have h2 : (decide (0 ≤ (-1 - (k : Int)) + (t.length : Int)) && decide ((-1 - (k : Int)) + (t.length : Int) < (t.length : Int))) = true := by
      rw [Bool.and_eq_true, decide_eq_true_eq, decide_eq_true_eq]; omega
    have h3 : ((-1 - (k : Int)) + (t.length : Int)).toNat = t.length - 1 - k := by omega
    simp only [if_pos h1, h2, if_true, Option.bind_some, h3, Array.getElem?_toList]
  rw [e, List.getD_eq_getElem?_getD]

theorem ret_list {news : List (Addr × Obj)} {h₀ h' : Heap} {L r : Addr} {m : Str → Option Value} {s : Shared} {Q : Value → Shared → Prop} {zs zs' : List Int} {us : List Value} {c tk' : Nat} {led : List (Addr × Obj)}
    (hret : ∀ (r : Addr) (us : List Value) (c : Nat) (h' : Heap) (tk' : Nat), Fr h₀ L h' m → News h₀ L h' ((r, listOf us.toArray c) :: news) → (∀ p ∈ news, p.1 < r) → IntsAre us zs → Q (.ref r) { s with heap := h', toks := tk' })
    (I : IntsAre us zs') (e : zs' = zs) (F : Fr h₀ L h' m) (N : News h₀ L h' led) (hm : (r, listOf us.toArray c) ∈ led) (hn : ∀ p ∈ news, p ∈ led) (lt : ∀ p ∈ news, p.1 < r) : Q (.ref r) { s with heap := h', toks := tk' } :=
  hret r us c h' tk' F (fun p hp => N p (by rcases List.mem_cons.mp hp with rfl | hp; exact hm; exact hn p hp)) lt (e ▸ I)

theorem law_row {w mean mg mb} (t : Str) (tk : Tok) (i : Int) (tk2 : Tok) (j : Int) (tk3 : Tok) (kd : Int) (tk4 : Tok) : TL 6 w mean mg mb 89 (t.length ≤ 100 ∧ 0 ≤ kd ∧ kd < 4) [.str t tk, .int i tk2, .int j tk3, .int kd tk4] (rowFor t i j kd) := by
  unfold TL; k_fill
  intro news dp un gd cn cs a ccd cl outer A₀ base h₀ L m s Q E h1 h2 h3 h4 h5 h6 h7 h8 h9 hret
  obtain ⟨h7, hk0, hk4⟩ := h7
  refine wpAny_call ?_
  k_dflt cell_enter
  iterate 23 walk1
  k_dflt (refine' range_list (vs₀ := []) (Good := fun k vs => IntsAre vs (rowOf t i j k)) ?hh ?hr ?hn ?F ?N ?h0 ?hnR ?turn ?done)
  case hh => exact rfl
  case hr => k_asm
  case hn => omega
  case F => k_asm
  case N => k_asm
  case h0 => exact IntsAre.nil
  case hnR => assumption
  case turn =>
    intro k tk0 vs c h9 tk9 own hk hG hsep F' N'
    have hrl : (rowOf t i j k).length = k := by simp [rowOf]
    have hvl : vs.length = k := hG.length.trans hrl
    try dsimp only
    k_steps
    refine TurnEnd.intro (by k_asm) (by k_asm) (List.push_toArray ..) ?_
    have e : rowOf t i j (k + 1) = rowOf t i j k ++ [sz t i j k] := by simp [rowOf, List.range_succ]
    rw [e]
    refine hG.append ?_
    rw [item_sgn hk]
    exact IntsAre.cons _ _ IntsAre.nil
  case done =>
    intro vs c h9 tk9 u hG F' N'
    have hrl : (rowOf t i j t.length).length = t.length := by simp [rowOf]
    have hvl : vs.length = t.length := hG.length.trans hrl
    try dsimp only
    k_steps
    have hkd : kd = 0 ∨ kd = 1 ∨ kd = 2 ∨ kd = 3 := by omega
    rcases hkd with rfl | rfl | rfl | rfl
    all_goals k_steps
    · exact ret_list hret (by assumption : IntsAre _ (rowOf t i j t.length ++ [0, 3, 127])) rfl (by k_asm) (by k_asm) (by k_mem) (fun p hp => by repeat (first | exact hp | refine List.Mem.tail _ ?_))  (allLt_out (by first | exact And.right (by assumption) | exact And.right (And.right (by assumption)) | exact And.right (And.right (And.right (by assumption))) | exact And.right (And.right (And.right (And.right (by assumption)))) | exact And.right (And.right (And.right (And.right (And.right (by assumption))))) | exact And.right (And.right (And.right (And.right (And.right (And.right (by assumption)))))) | exact And.right (And.right (And.right (And.right (And.right (And.right (And.right (by assumption)))))))))
    · exact ret_list hret (by assumption : IntsAre _ (rowOf t i j t.length ++ [127, 2, 0])) rfl (by k_asm) (by k_asm) (by k_mem) (fun p hp => by repeat (first | exact hp | refine List.Mem.tail _ ?_))  (allLt_out (by first | exact And.right (by assumption) | exact And.right (And.right (by assumption)) | exact And.right (And.right (And.right (by assumption))) | exact And.right (And.right (And.right (And.right (by assumption)))) | exact And.right (And.right (And.right (And.right (And.right (by assumption))))) | exact And.right (And.right (And.right (And.right (And.right (And.right (by assumption)))))) | exact And.right (And.right (And.right (And.right (And.right (And.right (And.right (by assumption)))))))))
    · exact ret_list hret hG rfl (by k_asm) (by k_asm) (by k_mem) (fun p hp => by repeat (first | exact hp | refine List.Mem.tail _ ?_))  (by assumption)
    · exact ret_list hret (by assumption : IntsAre _ ([0] ++ rowOf t i j t.length)) rfl (by k_asm) (by k_asm) (by k_mem) (fun p hp => by repeat (first | exact hp | refine List.Mem.tail _ ?_))  (allLt_out (by first | exact And.right (by assumption) | exact And.right (And.right (by assumption)) | exact And.right (And.right (And.right (by assumption))) | exact And.right (And.right (And.right (And.right (by assumption)))) | exact And.right (And.right (And.right (And.right (And.right (by assumption))))) | exact And.right (And.right (And.right (And.right (And.right (And.right (by assumption)))))) | exact And.right (And.right (And.right (And.right (And.right (And.right (And.right (by assumption)))))))))
end Mine
end

section
open PySem PySem.W PyProof.Rows
namespace Mine
set_option maxRecDepth 100000
set_option maxHeartbeats 8000000

/-! a comprehension whose elements leave the ledger as it was -/
section
variable {prog : Program} {w : World} {A : Around} {E : Value → Shared → Prop} {s : Shared} {h₀ : Heap} {L : Addr} {m : Str → Option Value} {env : Env}

def ElEnd (h₀ : Heap) (L : Addr) (m : Str → Option Value) (s : Shared) (led : List (Addr × Obj)) (El : Value → Prop) (y : Value) (s₂ : Shared) : Prop :=
  El y ∧ ∃ h' tk', s₂ = { s with heap := h', toks := tk' } ∧ Fr h₀ L h' m ∧ News h₀ L h' led
theorem ElEnd.intro {led led' : List (Addr × Obj)} {El : Value → Prop} {y : Value} {h' : Heap} {tk' : Nat} (e : El y) (F : Fr h₀ L h' m) (N : News h₀ L h' led') (hs : ∀ p ∈ led, p ∈ led') : ElEnd h₀ L m s led El y { s with heap := h', toks := tk' } :=
  ⟨e, h', tk', rfl, F, fun p hp => N p (hs p hp)⟩

theorem rest_of {elt : Expr} {x : Str} {scope : Scope} {cl : List (Str × Addr)} {S : List (Addr × Obj) → Prop} {P : Nat → Value → Prop} {Fin : List Value → List (Addr × Obj) → Prop} {news : List (Addr × Obj)} {n : Nat} (El : Nat → Value → Prop) (hS : S news)
    (turn : ∀ i v I oI C oC D m₂ h tk ys (E' : Value → Shared → Prop), i < n → P i v → LCg.NsObj oC m₂ → m₂ x = some v → Fr h₀ L h m → News h₀ L h ((I, oI) :: (C, oC) :: (D, LCg.lst ys) :: news) → LCg.Off3 I C D news → ((@Ne Nat I C) ∧ (@Ne Nat I D) ∧ (@Ne Nat C D)) →
      wpAny (model prog w) A (eval elt (compEnvC scope cl C env)) (ElEnd h₀ L m s ((I, oI) :: (C, oC) :: (D, LCg.lst ys) :: news) (El i)) E' { s with heap := h, toks := tk })
    (fin : ∀ ys, ys.length = n → (∀ i y, ys[i]? = some y → El i y) → Fin ys news) : LCg.CompRest prog w A h₀ L m env elt x scope cl s S P Fin n 0 [] news := by
  have all : ∀ k i ys, i + k = n → ys.length = i → (∀ j y, ys[j]? = some y → El j y) → LCg.CompRest prog w A h₀ L m env elt x scope cl s S P Fin k i ys news := by
    intro k
    induction k with
    | zero => intro i ys hi hl hy; exact fin ys (by omega) hy
    | succ k ih =>
      intro i ys hi hl hy v I oI C oC D m₂ h tk E' hP hC hx F N off ne
      refine wpAny_mono (turn i v I oI C oC D m₂ h tk ys E' (by omega) hP hC hx F N off ne) (fun y s₂ h₂ => ?_) fun _ _ e => e
      obtain ⟨hE, h', tk', rfl, F', N'⟩ := h₂
      refine ⟨h', tk', news, rfl, F', N', off, hS, ih (i + 1) (ys ++ [y]) (by omega) (by simp [hl]) fun j z hz => ?_⟩
      by_cases hj : j < ys.length
      · rw [List.getElem?_append_left hj] at hz; exact hy j z hz
      · have : j = i := by
          have := (List.getElem?_eq_some_iff.mp hz).1
          simp at this; omega
        subst this
        rw [List.getElem?_append_right (by omega)] at hz
        simp [hl] at hz
        exact hz ▸ hE
  exact all n 0 [] (by omega) rfl (by simp)

/-- what a comprehension over a text asks -/
def StrSrc (prog : Program) (w : World) (A : Around) (h₀ : Heap) (L : Addr) (m : Str → Option Value) (env : Env) (elt : Expr) (x : Str) (scope : Scope) (cl : List (Str × Addr)) (Fin : Shared → List Value → List (Addr × Obj) → Prop) (xv : Value) (s₁ : Shared) : Prop :=
  ∃ y t news, xv = .str y t ∧ A.handled = none ∧ Fr h₀ L s₁.heap m ∧ News h₀ L s₁.heap news ∧ y.length ≤ sizeLine ∧
    ∀ g : Heap, LCg.CompRest prog w A h₀ L m env elt x scope cl { s₁ with heap := g } (fun _ => True) (SignAt y) (Fin { s₁ with heap := g }) y.cps.size 0 [] news
theorem StrSrc.intro {elt : Expr} {x : Str} {scope : Scope} {cl : List (Str × Addr)} {Fin : Shared → List Value → List (Addr × Obj) → Prop} {y : Str} {t : Tok} {s₁ : Shared} {news : List (Addr × Obj)} (hh : A.handled = none) (F : Fr h₀ L s₁.heap m) (N : News h₀ L s₁.heap news) (hy : y.length ≤ sizeLine)
    (h : ∀ g : Heap, LCg.CompRest prog w A h₀ L m env elt x scope cl { s₁ with heap := g } (fun _ => True) (SignAt y) (Fin { s₁ with heap := g }) y.cps.size 0 [] news) :
    StrSrc prog w A h₀ L m env elt x scope cl Fin (.str y t) s₁ := ⟨y, t, news, rfl, hh, F, N, hy, h⟩

theorem ListComp_S {elt iter : Expr} {x : Str} {px : Pos} {scope : Scope} {cl : List (Str × Addr)} {pos : Pos} {Q : Value → Shared → Prop} (F₀ : Fr h₀ L s.heap m)
    (hclos : closureFor scope env = pure cl) (hcell : ∀ y ∈ scope.names, y.2 ≠ .cell) (hkind : scope.kind = .function)
    (hnames : ∀ y ∈ scope.names, y.2 = .local → scope.names.lookup y.1 = some .local) (hx : scope.names.lookup x = some .local)
    (h : wpAny (model prog w) A (eval iter env) (StrSrc prog w A h₀ L m env elt x scope cl (fun s₂ => LCg.FinE h₀ L m s₂ Q)) E s)
    (hs : ∀ x, foldedSetIterable iter env x = pure x := by intro _; rfl) :
    wpAny (model prog w) A (eval (.ListComp elt [⟨.Name x px, iter, [], 0⟩] scope pos) env) Q E s := by
  rw [eval_ListComp]
  refine wpAny_comprehension_free (use := none) rfl hs hclos hkind hnames (wpAny_mono h (fun xv s₁ h₁ => ?_) fun _ _ e => e)
  obtain ⟨y, t, news, rfl, hh, F, N, hsz, R⟩ := h₁
  cases ha : y.cps.all (· < 128)
  · refine wpAny_pyIter_wide ha ?_
    have up : ∀ (o : Obj) b o', s₁.heap.get? b = some o' → (s₁.heap.push o).get? b = some o' := fun o b o' e => Heap.get?_push_of_some _ e
    refine LCg.block_U (Walks.strWide hh _ y t) hsz (fun i h st => by obtain ⟨o, e, _⟩ := st; exact ⟨o, e⟩) (S := fun _ => True)
      (fun i h h' o nw st e e' _ _ _ => by obtain ⟨o', q, r⟩ := st; rw [e] at q; cases q; exact ⟨o, e', r⟩) hcell hkind hx ⟨_, Heap.get?_push_size _ rfl, rfl, rfl⟩ (fun b hb => ?_)
      (F.keeps (up _)) (N.grown (up _)) (Nat.ne_of_lt F.ns.lt) (next_is_new F) (fun p hp => Nat.ne_of_lt (Heap.lt_size (N p hp).1)) trivial (R _) ?_
    · rw [List.mem_singleton.mp hb]
      show s₁.heap.objs.size < (s₁.heap.push _).objs.size
      rw [Heap.size_push]; exact Nat.lt_succ_self _
    · intro D C h tk m' ys news' F' N' o1 hn hC₀ hD₀ hCL hDL hCD offC fin
      refine ⟨m', hn, fun h'' hs'' => fin D h'' tk (F'.change hs'' hCL hC₀) (fun p hp => ?_) o1⟩
      refine ⟨hs''.extBut _ _ ?_ (N' p hp).1, (N' p hp).2⟩
      rcases List.mem_cons.mp hp with rfl | hp
      · exact Ne.symm hCD
      · exact offC p hp
  · refine wpAny_pyIter_ascii ha ?_
    have up : ∀ (o : Obj) b o', s₁.heap.get? b = some o' → (s₁.heap.push o).get? b = some o' := fun o b o' e => Heap.get?_push_of_some _ e
    refine LCg.block_U (Walks.strAscii hh _ y t) hsz (fun i h st => by obtain ⟨o, e, _⟩ := st; exact ⟨o, e⟩) (S := fun _ => True)
      (fun i h h' o nw st e e' _ _ _ => by obtain ⟨o', q, r⟩ := st; rw [e] at q; cases q; exact ⟨o, e', r⟩) hcell hkind hx ⟨_, Heap.get?_push_size _ rfl, rfl, rfl⟩ (fun b hb => ?_)
      (F.keeps (up _)) (N.grown (up _)) (Nat.ne_of_lt F.ns.lt) (next_is_new F) (fun p hp => Nat.ne_of_lt (Heap.lt_size (N p hp).1)) trivial (R _) ?_
    · rw [List.mem_singleton.mp hb]
      show s₁.heap.objs.size < (s₁.heap.push _).objs.size
      rw [Heap.size_push]; exact Nat.lt_succ_self _
    · intro D C h tk m' ys news' F' N' o1 hn hC₀ hD₀ hCL hDL hCD offC fin
      refine ⟨m', hn, fun h'' hs'' => fin D h'' tk (F'.change hs'' hCL hC₀) (fun p hp => ?_) o1⟩
      refine ⟨hs''.extBut _ _ ?_ (N' p hp).1, (N' p hp).2⟩
      rcases List.mem_cons.mp hp with rfl | hp
      · exact Ne.symm hCD
      · exact offC p hp

def RngSrc (prog : Program) (w : World) (A : Around) (h₀ : Heap) (L : Addr) (m : Str → Option Value) (env : Env) (elt : Expr) (x : Str) (scope : Scope) (cl : List (Str × Addr)) (Fin : Shared → List Value → List (Addr × Obj) → Prop) (xv : Value) (s₁ : Shared) : Prop :=
  LCg.CompSrc prog w A h₀ L m env elt x scope cl Fin xv s₁
theorem ListComp_R {elt iter : Expr} {x : Str} {px : Pos} {scope : Scope} {cl : List (Str × Addr)} {pos : Pos} {Q : Value → Shared → Prop} (F₀ : Fr h₀ L s.heap m)
    (hclos : closureFor scope env = pure cl) (hcell : ∀ y ∈ scope.names, y.2 ≠ .cell) (hkind : scope.kind = .function)
    (hnames : ∀ y ∈ scope.names, y.2 = .local → scope.names.lookup y.1 = some .local) (hx : scope.names.lookup x = some .local)
    (h : wpAny (model prog w) A (eval iter env) (RngSrc prog w A h₀ L m env elt x scope cl (fun s₂ => LCg.FinE h₀ L m s₂ Q)) E s)
    (hs : ∀ x, foldedSetIterable iter env x = pure x := by intro _; rfl) :
    wpAny (model prog w) A (eval (.ListComp elt [⟨.Name x px, iter, [], 0⟩] scope pos) env) Q E s := LCg.ListComp_U F₀ hclos hcell hkind hnames hx h hs
theorem RngSrc.intro {elt : Expr} {x : Str} {scope : Scope} {cl : List (Str × Addr)} {Fin : Shared → List Value → List (Addr × Obj) → Prop} {r : Addr} {t u v : Tok} {n : Nat} {news : List (Addr × Obj)} {s₁ : Shared}
    (hh : A.handled = none) (F : Fr h₀ L s₁.heap m) (N : News h₀ L s₁.heap news) (hr : IsRange s₁.heap r 0 (n : Int) 1 t u v) (hn : n ≤ 1000)
    (h : ∀ g, LCg.CompRest prog w A h₀ L m env elt x scope cl { s₁ with heap := g } (fun _ => True) (fun i v => ∃ t, v = .int (0 + (i : Int)) t) (Fin { s₁ with heap := g }) n 0 [] news) :
    RngSrc prog w A h₀ L m env elt x scope cl Fin (.ref r) s₁ := LCg.CompSrc.range hh F N hr (small_one (by omega) (by omega) (by omega) (by omega)) (range_size n) (by rw [sizeLine_eq]; omega) h
end
end Mine
end

section
open PySem PySem.W PyProof.Rows
namespace Mine
set_option maxRecDepth 100000
set_option maxHeartbeats 8000000

theorem tail_ne {d D : Nat} {news : List (Addr × Obj)} (h : ∀ p ∈ news, p.1 < D) (hd : D ≤ d) : ∀ p ∈ news, p.1 ≠ d := fun p hp => Nat.ne_of_lt (Nat.lt_of_lt_of_le (h p hp) hd)
local macro_rules | `(tactic| k_all) => `(tactic| first | exact List.forall_mem_nil _ | (refine' List.forall_mem_cons.mpr ⟨?a, ?b⟩; (case a => k_ne); (case b => k_all)) | exact tail_ne (by assumption) (by omega))

local macro_rules | `(tactic| walk_at "eval ListComp") => `(tactic| (k_here; k_dflt (refine ListComp_S (F₀ := by k_asm) (by with_unfolding_all rfl) (by decide) (by rfl) (by decide) (by rfl) ?_)))

def dOf (tab : Tab) : List (PyData × PyData) := tab.map fun p => (PyData.str ⟨#[p.1]⟩, PyData.str ⟨p.2.toArray⟩)
theorem lookup_dOf (tab : Tab) (c : Nat) : (PySem.Spec.lookup (.str ⟨#[c]⟩) (dOf tab)).getD (.str ⟨#[c]⟩) = PyData.str ⟨(look tab c).toArray⟩ := by
  unfold look
  induction tab with
  | nil => rfl
  | cons p t ih =>
    obtain ⟨k, r⟩ := p
    simp only [dOf, List.map_cons, PySem.Spec.lookup, PyProof.V.same_str, List.lookup]
    by_cases h : c = k
    · subst h; simp
    · have h1 : (c == k) = false := by simpa using h
      have h2 : ¬ ((⟨#[k]⟩ : Str) = ⟨#[c]⟩) := by intro e; simp at e; exact h e.symm
      rw [h1]
      simp only [h2, decide_false, Bool.false_eq_true, if_false]
      exact ih
theorem get_tab {D : List (PyData × PyData)} {tab : Tab} {c : Nat} {v : Value} (hD : D = dOf tab) (hv : PyProof.V.Flat v ((PySem.Spec.lookup (.str ⟨#[c]⟩) D).getD (.str ⟨#[c]⟩))) : ∃ u, v = .str ⟨(look tab c).toArray⟩ u := by
  rw [hD, lookup_dOf] at hv
  exact PyProof.V.Flat.str_inv hv

theorem strsAre_of {l : List Nat} {g : Nat → Str} : ∀ {ys : List Value}, ys.length = l.length → (∀ (i : Nat) (y : Value), ys[i]? = some y → ∃ c u, l[i]? = some c ∧ y = .str (g c) u) → StrsAre ys (l.map g) := by
  induction l with
  | nil => intro ys hl _; rw [List.length_eq_zero_iff.mp hl]; exact .nil
  | cons c l ih =>
    intro ys hl hy
    cases ys with
    | nil => simp at hl
    | cons y ys =>
      obtain ⟨c', u, hc, rfl⟩ := hy 0 y (by simp)
      simp at hc; subst hc
      exact .cons _ _ (ih (by simpa using hl) fun i z hz => by simpa using hy (i + 1) z (by simpa using hz))
theorem join_cat : ∀ ss : List Str, (Txt.join (Str.ofString "") ss).cps.toList = (ss.map fun x => x.cps.toList).flatten := by
  have e0 : (Str.ofString "") = ⟨#[]⟩ := by decide +kernel
  intro ss
  show (Builtin.Str.glued _ ss).cps.toList = _
  rw [StrLaws.glued_eq_join, e0]
  induction ss with
  | nil => rfl
  | cons x ss ih =>
    cases ss with
    | nil => simp [Str.join]
    | cons y ss =>
      show (x ++ ⟨#[]⟩ ++ Str.join ⟨#[]⟩ (y :: ss)).cps.toList = _
      simp only [Str.cps_append, Array.toList_append, ih]
      simp
theorem join_tr (tab : Tab) (t : Str) : Txt.join (Str.ofString "") (t.cps.toList.map fun c => ⟨(look tab c).toArray⟩) = tr tab t := by
  refine str_ext ?_
  rw [join_cat]
  simp [tr, trL, List.flatMap_def, Function.comp_def]
theorem sum_le (tab : Tab) (t : Str) (h : tab.all (fun p => decide (p.2.length ≤ 6)) = true) (ht : t.length ≤ 100) : ((t.cps.toList.map fun c => (⟨(look tab c).toArray⟩ : Str)).map (·.length)).sum + (t.cps.toList.map fun c => (⟨(look tab c).toArray⟩ : Str)).length * (Str.ofString "").length ≤ 16777216 := by
  have h0 : (Str.ofString "").length = 0 := by decide +kernel
  rw [h0]
  have := trL_length_le tab 6 (by decide) h t.cps.toList
  have e : ((t.cps.toList.map fun c => (⟨(look tab c).toArray⟩ : Str)).map (·.length)).sum = (trL tab t.cps.toList).length := by
    simp [trL, List.length_flatMap, Str.length, Function.comp_def]
  rw [e]
  have : t.cps.toList.length = t.length := by simp [Str.length]
  omega

theorem law_spelled {w mean mg mb} (t : Str) (tk : Tok) (i : Int) (tk2 : Tok) : T1 4 w mean mg mb 68 (t.length ≤ 100 ∧ 0 ≤ i ∧ i < 5) [.str t tk, .int i tk2] (fun k => .str (tr (tabOf i) t) k) := by
  refine T1_toks ?_
  k_fill
  intro news dp un gd cn cs a ccd cl outer A₀ base h₀ L m s Q E h1 h2 h3 h4 h5 h6 h7 h8 h9 hret
  obtain ⟨h7, hi0, hi5⟩ := h7
  refine wpAny_call ?_
  k_dflt (refine' code_defC ?k1 ?k2 ?k3 ?k4 ?k5 ?kA ?kF ?kK ?k6 ?k7 ?k8 ?k9 ?kB ?kD ?_ ?c2 ?c3 ?c4; (case kA => exact rfl); (case kF => exact rfl); (case kK => assumption); (case k1 => k_asm); (case k2 => k_asm); (case k3 => k_asm); (case k4 => k_asm); (case k5 => k_asm); (case k6 => k_is); (case k7 => k_is); (case k8 => ktr_room); (case k9 => exact BindsTo.of_eq rfl); (case kB => exact rfl); (case kD => decide +kernel); (case c2 => exact rfl); (case c3 => exact rfl); (case c4 => exact rfl); k_whole; intro g' L' h' tk' cells' FG' F' N' Y' B' X' T' l1; (try k_lt l1); k_cells Y'; (try simp only [List.cons_append, List.nil_append] at N'); (try dsimp only); (try k_lift B'); (try k_fold))
  k_steps
  k_dflt (refine' StrSrc.intro ?hh ?F ?N ?hy ?_)
  case hh => exact rfl
  case F => k_asm
  case N => k_asm
  case hy => rw [sizeLine_eq]; omega
  intro gg
  have hcase : i = 0 ∨ i = 1 ∨ i = 2 ∨ i = 3 ∨ i = 4 := by omega
  rcases hcase with rfl | rfl | rfl | rfl | rfl
  · refine rest_of (El := fun k y => ∃ c u, t.cps.toList[k]? = some c ∧ y = .str ⟨(look tab_cdata c).toArray⟩ u) trivial ?turn ?fin
    case turn =>
      intro k v I oI C oC D m₂ h tk3 ys E' hk hP hC hx F' N' off ne
      obtain ⟨c, u, hc, rfl⟩ := hP
      try dsimp only
      k_steps
      (rename PyProof.V.Flat _ _ => hv)
      obtain ⟨u', rfl⟩ := get_tab (tab := tab_cdata) (by with_unfolding_all rfl) hv
      exact ElEnd.intro ⟨c, u', by rw [Array.getElem?_toList]; exact hc, rfl⟩ (by k_asm) (by k_asm) (fun p hp => hp)
    case fin =>
      intro ys hl hy
      k_steps
      refine join_list (ys := t.cps.toList.map fun c => ⟨(look tab_cdata c).toArray⟩) (News.isList (by k_asm) (by k_mem)) (strsAre_of (by simpa using hl) hy) (sum_le _ t (by decide +kernel) h7) ?_
      intro t' k'
      rw [join_tr]
      k_steps
      exact cb_retS (Q := Q) hret rfl (by k_asm) (cb_drop (by assumption) (fun p hp => by repeat (first | exact hp | refine List.Mem.tail _ ?_)))
  · refine rest_of (El := fun k y => ∃ c u, t.cps.toList[k]? = some c ∧ y = .str ⟨(look tab_attrib c).toArray⟩ u) trivial ?turn ?fin
    case turn =>
      intro k v I oI C oC D m₂ h tk3 ys E' hk hP hC hx F' N' off ne
      obtain ⟨c, u, hc, rfl⟩ := hP
      try dsimp only
      k_steps
      (rename PyProof.V.Flat _ _ => hv)
      obtain ⟨u', rfl⟩ := get_tab (tab := tab_attrib) (by with_unfolding_all rfl) hv
      exact ElEnd.intro ⟨c, u', by rw [Array.getElem?_toList]; exact hc, rfl⟩ (by k_asm) (by k_asm) (fun p hp => hp)
    case fin =>
      intro ys hl hy
      k_steps
      refine join_list (ys := t.cps.toList.map fun c => ⟨(look tab_attrib c).toArray⟩) (News.isList (by k_asm) (by k_mem)) (strsAre_of (by simpa using hl) hy) (sum_le _ t (by decide +kernel) h7) ?_
      intro t' k'
      rw [join_tr]
      k_steps
      exact cb_retS (Q := Q) hret rfl (by k_asm) (cb_drop (by assumption) (fun p hp => by repeat (first | exact hp | refine List.Mem.tail _ ?_)))
  · refine rest_of (El := fun k y => ∃ c u, t.cps.toList[k]? = some c ∧ y = .str ⟨(look tab_html c).toArray⟩ u) trivial ?turn ?fin
    case turn =>
      intro k v I oI C oC D m₂ h tk3 ys E' hk hP hC hx F' N' off ne
      obtain ⟨c, u, hc, rfl⟩ := hP
      try dsimp only
      k_steps
      (rename PyProof.V.Flat _ _ => hv)
      obtain ⟨u', rfl⟩ := get_tab (tab := tab_html) (by with_unfolding_all rfl) hv
      exact ElEnd.intro ⟨c, u', by rw [Array.getElem?_toList]; exact hc, rfl⟩ (by k_asm) (by k_asm) (fun p hp => hp)
    case fin =>
      intro ys hl hy
      k_steps
      refine join_list (ys := t.cps.toList.map fun c => ⟨(look tab_html c).toArray⟩) (News.isList (by k_asm) (by k_mem)) (strsAre_of (by simpa using hl) hy) (sum_le _ t (by decide +kernel) h7) ?_
      intro t' k'
      rw [join_tr]
      k_steps
      exact cb_retS (Q := Q) hret rfl (by k_asm) (cb_drop (by assumption) (fun p hp => by repeat (first | exact hp | refine List.Mem.tail _ ?_)))
  · refine rest_of (El := fun k y => ∃ c u, t.cps.toList[k]? = some c ∧ y = .str ⟨(look tab_cc14n c).toArray⟩ u) trivial ?turn ?fin
    case turn =>
      intro k v I oI C oC D m₂ h tk3 ys E' hk hP hC hx F' N' off ne
      obtain ⟨c, u, hc, rfl⟩ := hP
      try dsimp only
      k_steps
      (rename PyProof.V.Flat _ _ => hv)
      obtain ⟨u', rfl⟩ := get_tab (tab := tab_cc14n) (by with_unfolding_all rfl) hv
      exact ElEnd.intro ⟨c, u', by rw [Array.getElem?_toList]; exact hc, rfl⟩ (by k_asm) (by k_asm) (fun p hp => hp)
    case fin =>
      intro ys hl hy
      k_steps
      refine join_list (ys := t.cps.toList.map fun c => ⟨(look tab_cc14n c).toArray⟩) (News.isList (by k_asm) (by k_mem)) (strsAre_of (by simpa using hl) hy) (sum_le _ t (by decide +kernel) h7) ?_
      intro t' k'
      rw [join_tr]
      k_steps
      exact cb_retS (Q := Q) hret rfl (by k_asm) (cb_drop (by assumption) (fun p hp => by repeat (first | exact hp | refine List.Mem.tail _ ?_)))
  · refine rest_of (El := fun k y => ∃ c u, t.cps.toList[k]? = some c ∧ y = .str ⟨(look tab_ac14n c).toArray⟩ u) trivial ?turn ?fin
    case turn =>
      intro k v I oI C oC D m₂ h tk3 ys E' hk hP hC hx F' N' off ne
      obtain ⟨c, u, hc, rfl⟩ := hP
      try dsimp only
      k_steps
      (rename PyProof.V.Flat _ _ => hv)
      obtain ⟨u', rfl⟩ := get_tab (tab := tab_ac14n) (by with_unfolding_all rfl) hv
      exact ElEnd.intro ⟨c, u', by rw [Array.getElem?_toList]; exact hc, rfl⟩ (by k_asm) (by k_asm) (fun p hp => hp)
    case fin =>
      intro ys hl hy
      k_steps
      refine join_list (ys := t.cps.toList.map fun c => ⟨(look tab_ac14n c).toArray⟩) (News.isList (by k_asm) (by k_mem)) (strsAre_of (by simpa using hl) hy) (sum_le _ t (by decide +kernel) h7) ?_
      intro t' k'
      rw [join_tr]
      k_steps
      exact cb_retS (Q := Q) hret rfl (by k_asm) (cb_drop (by assumption) (fun p hp => by repeat (first | exact hp | refine List.Mem.tail _ ?_)))
end Mine
end

section
open PySem PySem.W PyProof.Rows
namespace Mine
set_option maxRecDepth 100000
set_option maxHeartbeats 8000000

/-- a sign, spelled twice -/
def sp2 (i j : Int) (c : Nat) : Str := tr (tabOf j) (tr (tabOf i) ⟨#[c]⟩)

abbrev TD (k : Nat) (w : World) (mean : ExcName → Option Value) (mg mb : Str → Option Value) (f : Addr) (pre : Prop) (vs : List Value) (tag : Str) (parts : List Str) (left : Str) : Prop :=
  ∀ (news : List (Addr × Obj)) (dp un : Nat) (gd : Option (List Code)) (cn : Str) (cs : Scope) (a : Addr) (ccd : Value) (cl : List (Str × Addr)) (outer : List Env) (A₀ : Around) (base h₀ : Heap) (L : Addr) (m : Str → Option Value) (s : Shared) (Q E : Value → Shared → Prop),
    Below A₀ base outer h₀ → Fr h₀ L s.heap m → (hd.heap_39 w.params).In h₀ → News h₀ L s.heap news → Top hd.view_39 (looseW hd.view_39 []) mean mg mb h₀ → cs.kind = .function →
    pre → dp + k < recursionLimit → un + 10 * k < cLine → (∀ (r p : Addr) (a b : Tok) (c cp : Nat) (ps : List Value) (h' : Heap) (tk' : Nat), Fr h₀ L h' m → News h₀ L h' ((r, listOf #[.str tag a, .ref p, .str left b] c) :: (p, listOf ps.toArray cp) :: news) → StrsAre ps parts → Q (.ref r) { s with heap := h', toks := tk' }) →
      wpAny (model PySem.Challenge.rw_nb0128_01.row.prog w) (ktrTop dp un gd cn cs L a ccd cl outer) (call (.ref f) vs) Q E s

def catS (ss : List Str) : Str := ⟨(ss.map fun x => x.cps.toList).flatten.toArray⟩
def spL (t : Str) (i j : Int) : List Str := t.cps.toList.map (sp2 i j)
def ahL (t : Str) (more i j : Int) : List Str := List.replicate more.toNat ((spL t i j).getD 0 ⟨#[]⟩)
def dueTag (kd : Int) : Str := if kd = 3 then Str.ofString "refused" else Str.ofString "cut"
def dueParts (t : Str) (more i j kd : Int) : List Str := if kd = 3 then [] else if kd = 0 then (ahL t more i j ++ spL t i j).reverse else (spL t i j).reverse
def dueLeft (t : Str) (more i j kd : Int) : Str := if kd = 3 then catS (ahL t more i j ++ spL t i j) else if kd = 0 then catS [] else catS (ahL t more i j)

local macro_rules | `(tactic| k_all) => `(tactic| first | exact List.forall_mem_nil _ | (refine' List.forall_mem_cons.mpr ⟨?a, ?b⟩; (case a => k_ne); (case b => k_all)) | exact tail_ne (by assumption) (by omega))
local macro_rules | `(tactic| walk_at "eval ListComp") => `(tactic| (k_here; first
  | ((with_reducible show wpAny _ _ (eval (PySem.Expr.ListComp _ [PySem.Comprehension.mk _ (PySem.Expr.Name _ _) _ _] _ _) _) _ _ _); k_dflt (refine ListComp_S (F₀ := by k_asm) (by with_unfolding_all rfl) (by decide) (by rfl) (by decide) (by rfl) ?_))
  | ((with_reducible show wpAny _ _ (eval (PySem.Expr.ListComp _ [PySem.Comprehension.mk _ (PySem.Expr.Call _ _ _ _) _ _] _ _) _) _ _ _); k_dflt (refine ListComp_R (F₀ := by k_asm) (by with_unfolding_all rfl) (by decide) (by rfl) (by decide) (by rfl) ?_))))
local macro_rules | `(tactic| walk_at "call type:range") => `(tactic| (k_here; k_dflt (refine' range1_rows ?F ?N ?_; (case F => k_asm); (case N => k_asm); k_whole; intro h' tk' t1 u1 v1 R' F' N' k'; (try k_sweep))))
theorem spelled_use {w mean mg mb} {t : Str} {tk : Tok} {i : Int} {tk2 : Tok} {news : List (Addr × Obj)} {dp un : Nat} {gd : Option (List Code)} {cn : Str} {cs : Scope} {a : Addr} {ccd : Value} {cl : List (Str × Addr)} {outer : List Env} {A₀ : Around} {base h₀ : Heap} {L : Addr} {m : Str → Option Value} {s : Shared} {Q E : Value → Shared → Prop}
    (B : Below A₀ base outer h₀) (F : Fr h₀ L s.heap m) (X : (hd.heap_39 w.params).In h₀) (N : News h₀ L s.heap news) (T : Top hd.view_39 (looseW hd.view_39 []) mean mg mb h₀) (hk : cs.kind = .function)
    (hp : t.length ≤ 100 ∧ 0 ≤ i ∧ i < 5) (hd : dp + 4 < recursionLimit) (hu : un + 10 * 4 < cLine) (hret : ∀ (k : Tok) (h' : Heap) (tk' : Nat), Fr h₀ L h' m → News h₀ L h' news → s.toks ≤ tk' → (tr (tabOf i) t).length ≤ 6 * t.length → Q (.str (tr (tabOf i) t) k) { s with heap := h', toks := tk' }) :
      wpAny (model PySem.Challenge.rw_nb0128_01.row.prog w) (ktrTop dp un gd cn cs L a ccd cl outer) (call (.ref 68) [.str t tk, .int i tk2]) Q E s :=
  T1_use (law_spelled t tk i tk2) B F X N T hk hp hd hu fun k h' tk' F' N' htk => hret k h' tk' F' N' htk (trOf_le i t)
local macro_rules | `(tactic| walk_at "call ref") => `(tactic| (k_here; k_dflt ((refine' spelled_use ?B ?F ?X ?N ?T ?K ?P ?d ?u ?_); (case B => k_asm); (case F => k_asm); (case X => k_asm); (case N => k_asm); (case T => k_asm); (case K => first | exact rfl | assumption); (case P => (refine ⟨?_, ?_, ?_⟩ <;> first | assumption | omega)); (case d => ktr_room); (case u => ktr_units); k_whole; intro t' h' tk' F' N' htk' hl'; (try k_sweep))))

section
variable {prog : Program} {w : World} {A : Around} {E : Value → Shared → Prop} {s : Shared} {h₀ : Heap} {L : Addr} {m : Str → Option Value} {news : List (Addr × Obj)} {Q : Value → Shared → Prop}

theorem replicate_fold (v : Value) (n : Nat) : List.foldl (fun x1 x2 => x1 ++ x2) (#[] : Array Value) (List.replicate n #[v]) = (List.replicate n v).toArray := by
  have all : ∀ (n : Nat) (acc : List Value), List.foldl (fun x1 x2 => x1 ++ x2) acc.toArray (List.replicate n #[v]) = (acc ++ List.replicate n v).toArray := by
    intro n
    induction n with
    | zero => intro acc; simp
    | succ n ih =>
      intro acc
      rw [List.replicate_succ, List.foldl_cons]
      have e : acc.toArray ++ #[v] = (acc ++ [v]).toArray := by simp
      rw [e, ih]
      simp [List.replicate_succ]
  simpa using all n []

theorem mul_single {l : Addr} {v : Value} {c : Nat} {x : Int} {u : Tok} (F : Fr h₀ L s.heap m) (N : News h₀ L s.heap news) (hm : (l, listOf #[v] c) ∈ news) (h0 : 0 ≤ x) (h5 : x < 5)
    (h : ∀ D h', Fr h₀ L h' m → News h₀ L h' ((D, listOf (List.replicate x.toNat v).toArray 0) :: news) → (∀ p ∈ news, p.1 < D) → Q (.ref D) { s with heap := h' }) :
    wpAny (model prog w) A (binaryOp .Mult (.ref l) (.int x u)) Q E s := by
  refine mul_list F N (N _ hm).1 (by omega) (by omega) (by simp; omega) fun h' F' N' => ?_
  have e : (#[v] : Array Value).isEmpty = false := rfl
  rw [e] at N'
  simp only [Bool.false_eq_true, if_false, replicate_fold] at N'
  exact h _ h' F' N' fun p hp => Heap.lt_size (N p hp).1

theorem replicate_strs (y : Str) (u : Tok) : ∀ n : Nat, StrsAre (List.replicate n (.str y u)) (List.replicate n y)
  | 0 => .nil
  | n + 1 => .cons y u (replicate_strs y u n)
theorem mul_single_str {l : Addr} {y : Str} {ty : Tok} {c : Nat} {x : Int} {u : Tok} (F : Fr h₀ L s.heap m) (N : News h₀ L s.heap news) (hm : (l, listOf #[.str y ty] c) ∈ news) (h0 : 0 ≤ x) (h5 : x < 5)
    (h : ∀ D h', Fr h₀ L h' m → News h₀ L h' ((D, listOf (List.replicate x.toNat (Value.str y ty)).toArray 0) :: news) → (∀ p ∈ news, p.1 < D) → StrsAre (List.replicate x.toNat (Value.str y ty)) (List.replicate x.toNat y) → Q (.ref D) { s with heap := h' }) :
    wpAny (model prog w) A (binaryOp .Mult (.ref l) (.int x u)) Q E s :=
  mul_single F N hm h0 h5 fun D h' F' N' lt => h D h' F' N' lt (replicate_strs _ _ _)

theorem add_strs {a b : Addr} {vs ws : List Value} {xs ys : List Str} {c d : Nat} (F : Fr h₀ L s.heap m) (N : News h₀ L s.heap news) (ha : (a, listOf vs.toArray c) ∈ news) (hb : (b, listOf ws.toArray d) ∈ news) (hi : StrsAre vs xs) (hj : StrsAre ws ys) (hz : xs.length + ys.length ≤ 1000)
    (h : ∀ D h', Fr h₀ L h' m → News h₀ L h' ((D, listOf (vs ++ ws).toArray 0) :: news) → (∀ p ∈ news, p.1 < D) → StrsAre (vs ++ ws) (xs ++ ys) → Q (.ref D) { s with heap := h' }) :
    wpAny (model prog w) A (binaryOp .Add (.ref a) (.ref b)) Q E s :=
  kmk_add_lit F N (News.isList N ha) (News.isList N hb) rfl (fun D h' F' N' lt => h D h' F' N' lt (hi.append' hj)) (by
    have h1 := hi.length; have h2 := hj.length
    rw [sizeLine_eq]; simp; omega)

theorem join_strs {D : Addr} {vs : List Value} {xs : List Str} {c : Nat} {t : Tok} (N : News h₀ L s.heap news) (hm : (D, listOf vs.toArray c) ∈ news) (hs : StrsAre vs xs) (hb : (xs.map (·.length)).sum ≤ 10000)
    (h : ∀ t' k, Q (.str (catS xs) t') { s with toks := k }) : wpAny (model prog w) A (call (.builtin "str.join") [.str (Str.ofString "") t, .ref D]) Q E s := by
  have h0 : (Str.ofString "").length = 0 := by decide +kernel
  refine join_list (News.isList N hm) (by simpa using hs) (by rw [h0]; omega) fun t' k => ?_
  have e : Txt.join (Str.ofString "") xs = catS xs := str_ext (by rw [join_cat]; rfl)
  rw [e]; exact h t' k

theorem len_strs {l : Addr} {vs : List Value} {ss : List Str} {c : Nat} (N : News h₀ L s.heap news) (hm : (l, listOf vs.toArray c) ∈ news) (hs : StrsAre vs ss) (hz : ss.length ≤ 1000)
    (h : Q (.int (ss.length : Int) (s.toks + 1)) { s with toks := s.toks + 1 + 1 }) : wpAny (model prog w) A (call (.builtin "len") [.ref l]) Q E s := by
  have e : vs.toArray.size = ss.length := by simp [hs.length]
  refine len_list (News.isList N hm) (by rw [e]; omega) ?_
  rw [e]; exact h
theorem strsAre_at {zs : List Str} : ∀ {ys : List Value}, ys.length = zs.length → (∀ (i : Nat) (y : Value), ys[i]? = some y → ∃ u, y = .str (zs.getD i ⟨#[]⟩) u) → StrsAre ys zs := by
  induction zs with
  | nil => intro ys hl _; rw [List.length_eq_zero_iff.mp hl]; exact .nil
  | cons z zs ih =>
    intro ys hl hy
    cases ys with
    | nil => simp at hl
    | cons y ys =>
      obtain ⟨u, rfl⟩ := hy 0 y (by simp)
      exact .cons _ _ (ih (by simpa using hl) fun i q hq => by simpa using hy (i + 1) q (by simpa using hq))
theorem ret_due {tag left tg lf : Str} {parts pr : List Str} {r p : Addr} {a b : Tok} {c cp tk' : Nat} {ps : List Value} {h' : Heap} {led : List (Addr × Obj)}
    (hret : ∀ (r p : Addr) (a b : Tok) (c cp : Nat) (ps : List Value) (h' : Heap) (tk' : Nat), Fr h₀ L h' m → News h₀ L h' ((r, listOf #[.str tag a, .ref p, .str left b] c) :: (p, listOf ps.toArray cp) :: news) → StrsAre ps parts → Q (.ref r) { s with heap := h', toks := tk' })
    (F : Fr h₀ L h' m) (N : News h₀ L h' led) (hr : (r, listOf #[.str tg a, .ref p, .str lf b] c) ∈ led) (hp : (p, listOf ps.toArray cp) ∈ led) (hn : ∀ q ∈ news, q ∈ led) (S : StrsAre ps pr)
    (e1 : tg = tag) (e2 : lf = left) (e3 : pr = parts) : Q (.ref r) { s with heap := h', toks := tk' } := by
  subst e1 e2 e3
  exact hret r p a b c cp ps h' tk' F (fun q hq => N q (by
    rcases List.mem_cons.mp hq with rfl | hq
    · exact hr
    · rcases List.mem_cons.mp hq with rfl | hq
      · exact hp
      · exact hn q hq)) S

theorem item_neg {value slice : Expr} {l : Addr} {vs : List Value} {ss : List Str} {c k : Nat} {u : Tok} (N : News h₀ L s.heap news) (hm : (l, listOf vs.toArray c) ∈ news) (hs : StrsAre vs ss) (hk : k < ss.length) (hz : ss.length ≤ 1000)
    (h : ∀ t, Q (.str (ss.reverse.getD k ⟨#[]⟩) t) s)
    (hsub : subscripted slice false (.ref l) (.int (-1 - (k : Int)) u) = operate [.ref l, .int (-1 - (k : Int)) u] (getItem (.ref l) (.int (-1 - (k : Int)) u)) := by with_unfolding_all rfl) (hg : ∀ r, letTemporaryGo value (.ref l) r = pure () := by intro _; with_unfolding_all rfl) :
    wpAny (model prog w) A (subscriptTail value slice (.ref l) (.int (-1 - (k : Int)) u)) Q E s := by
  have hl := News.isList N hm
  have hlen := hs.length
  have hidx : ss[ss.length - 1 - k]? = some (ss.reverse.getD k ⟨#[]⟩) := by
    rw [List.getD_eq_getElem?_getD, List.getElem?_reverse hk]
    have : ss.length - 1 - k < ss.length := by omega
    rw [List.getElem?_eq_getElem this]; rfl
  obtain ⟨t, ht⟩ := hs.at hidx
  have e : ((-1 - (k : Int)) + (vs.toArray.size : Int)).toNat = ss.length - 1 - k := by simp; omega
  exact tail_any hl.typeIs slot_list_getitem.lookup (wpAny_getItem_list_neg hl (by omega) (by simp; omega) (by omega) (by rw [e]; simpa using ht) (h t)) hsub
end

theorem sp2_le (i j : Int) (c : Nat) : (sp2 i j c).length ≤ 36 := by
  have h1 := trOf_le j (tr (tabOf i) ⟨#[c]⟩)
  have h2 := trOf_le i ⟨#[c]⟩
  have h3 : (⟨#[c]⟩ : Str).length = 1 := rfl
  unfold sp2; omega
theorem sum_le_of {xs : List Str} (h : ∀ x ∈ xs, x.length ≤ 36) : (xs.map (·.length)).sum ≤ 36 * xs.length := by
  induction xs with
  | nil => simp
  | cons x xs ih =>
    have := h x (List.mem_cons_self ..)
    have := ih fun y hy => h y (List.mem_cons_of_mem _ hy)
    simp only [List.map_cons, List.sum_cons, List.length_cons]; omega

local macro_rules | `(tactic| walk_at "binaryOp Mult ref int") => `(tactic| (k_here; k_dflt (refine' mul_single_str ?F ?N ?m ?a ?b ?_; (case F => k_asm); (case N => k_asm); (case m => k_mem); (case a => omega); (case b => omega); k_whole; intro D' h' F' N' l1 hS'; (try k_lt l1); (try k_sweep))))
local macro_rules | `(tactic| walk_at "binaryOp Add ref ref") => `(tactic| (k_here; k_dflt (refine' add_strs ?F ?N ?a ?b ?i ?j ?z ?_; (case F => k_asm); (case N => k_asm); (case a => k_mem); (case b => k_mem); (case i => assumption); (case j => assumption); (case z => ((try simp only [List.length_replicate]); omega)); k_whole; intro D' h' F' N' l1 hS'; (try k_lt l1); (try k_sweep))))
local macro_rules | `(tactic| walk_at "call builtin:len") => `(tactic| (k_here; k_dflt (refine' len_strs ?N ?m ?s ?z ?_; (case N => k_asm); (case m => k_mem); (case s => assumption); (case z => ((try simp only [List.length_append, List.length_replicate]); omega)); k_whole)))
local macro_rules | `(tactic| walk_at "subscriptTail") => `(tactic| (k_here; k_dflt (refine' item_neg ?N ?m ?s ?k ?z ?_; (case N => k_asm); (case m => k_mem); (case s => assumption); (case k => assumption); (case z => ((try simp only [List.length_append, List.length_replicate]); omega)); k_whole; intro t')))
local macro_rules | `(tactic| walk_at "call builtin:str.join") => `(tactic| (k_here; k_dflt (refine' join_strs ?N ?m ?s ?b ?_; (case N => k_asm); (case m => k_mem); (case s => first | assumption | exact StrsAre.nil); (case b => first | (refine Nat.le_trans (sum_le_of (by assumption)) ?_; ((try simp only [List.length_replicate]); omega)) | (refine Nat.le_trans (sum_le_of (List.forall_mem_append.mpr ⟨by assumption, by assumption⟩)) ?_; (simp only [List.length_append, List.length_replicate]; omega)) | (simp; done)); k_whole; intro t' k')))

theorem law_due {w mean mg mb} (t : Str) (tk : Tok) (more : Int) (tk1 : Tok) (i : Int) (tk2 : Tok) (j : Int) (tk3 : Tok) (kd : Int) (tk4 : Tok) :
    TD 8 w mean mg mb 94 (1 ≤ t.length ∧ t.length ≤ 7 ∧ 0 ≤ more ∧ more < 5 ∧ 0 ≤ i ∧ i < 5 ∧ 0 ≤ j ∧ j < 5 ∧ 0 ≤ kd ∧ kd < 4) [.str t tk, .int more tk1, .int i tk2, .int j tk3, .int kd tk4] (dueTag kd) (dueParts t more i j kd) (dueLeft t more i j kd) := by
  unfold TD; k_fill
  intro news dp un gd cn cs a ccd cl outer A₀ base h₀ L m s Q E h1 h2 h3 h4 h5 h6 h7 h8 h9 hret
  obtain ⟨ht1, ht7, hm0, hm5, hi0, hi5, hj0, hj5, hk0, hk4⟩ := h7
  refine wpAny_call ?_
  k_dflt (refine' code_defC ?k1 ?k2 ?k3 ?k4 ?k5 ?kA ?kF ?kK ?k6 ?k7 ?k8 ?k9 ?kB ?kD ?_ ?c2 ?c3 ?c4; (case kA => exact rfl); (case kF => exact rfl); (case kK => assumption); (case k1 => k_asm); (case k2 => k_asm); (case k3 => k_asm); (case k4 => k_asm); (case k5 => k_asm); (case k6 => k_is); (case k7 => k_is); (case k8 => ktr_room); (case k9 => exact BindsTo.of_eq rfl); (case kB => exact rfl); (case kD => decide +kernel); (case c2 => exact rfl); (case c3 => exact rfl); (case c4 => exact rfl); k_whole; intro g' L' h' tk' cells' FG' F' N' Y' B' X' T' l1; (try k_lt l1); k_cells Y'; (try simp only [List.cons_append, List.nil_append] at N'); (try dsimp only); (try k_lift B'); (try k_fold))
  k_steps
  k_dflt (refine' StrSrc.intro ?hh ?F ?N ?hy ?_)
  case hh => exact rfl
  case F => k_asm
  case N => k_asm
  case hy => rw [sizeLine_eq]; omega
  intro gg
  refine rest_of (El := fun k y => ∃ c u, t.cps.toList[k]? = some c ∧ y = .str (sp2 i j c) u) trivial ?turn ?fin
  case turn =>
    intro k v I oI C oC D m₂ h tk3 ys E' hk hP hC hx F' N' off ne
    obtain ⟨c, u, hc, rfl⟩ := hP
    have hl1 : (⟨#[c]⟩ : Str).length = 1 := rfl
    try dsimp only
    k_steps
    exact ElEnd.intro ⟨c, _, by rw [Array.getElem?_toList]; exact hc, rfl⟩ (by k_asm) (by k_asm) (fun p hp => hp)
  case fin =>
    intro ys hl hy
    have hss : StrsAre ys (spL t i j) := strsAre_of (by simpa using hl) hy
    have hsl : (spL t i j).length = t.length := by simp [spL, Str.length]
    have hsb : ∀ x ∈ spL t i j, x.length ≤ 36 := fun x hx => by
      obtain ⟨c, _, rfl⟩ := List.mem_map.mp hx
      exact sp2_le i j c
    have hal : (ahL t more i j).length = more.toNat := by simp [ahL]
    have hab : ∀ x ∈ ahL t more i j, x.length ≤ 36 := fun x hx => by
      rw [List.eq_of_mem_replicate hx, List.getD_eq_getElem?_getD]
      cases h0 : (spL t i j)[0]? with
      | none => decide
      | some y => exact hsb y (List.mem_of_getElem? h0)
    k_steps
    · exact ret_due hret (by k_asm) (by k_asm) (by k_mem) (by k_mem) (fun p hp => by repeat (first | exact hp | refine List.Mem.tail _ ?_)) StrsAre.nil (by subst_vars; rfl) (by subst_vars; rfl) (by subst_vars; rfl)
    · k_dflt (refine' RngSrc.intro ?hh ?F ?N ?hr ?hn ?_)
      case hh => exact rfl
      case F => k_asm
      case N => k_asm
      case hr => k_asm
      case hn => simp only [List.length_append, List.length_replicate]; omega
      intro gg
      refine rest_of (El := fun k y => ∃ u, y = .str ((ahL t more i j ++ spL t i j).reverse.getD k ⟨#[]⟩) u) trivial ?turn ?fin
      case turn =>
        intro k v I oI C oC D m₂ h tk3 ys E' hk hP hC hx F' N' off ne
        obtain ⟨u0, rfl⟩ := hP
        rw [Int.zero_add] at hx
        try dsimp only
        k_steps
        exact ElEnd.intro ⟨_, rfl⟩ (by k_asm) (by k_asm) (fun p hp => hp)
      case fin =>
        intro ys hl hy
        have hS : StrsAre ys (ahL t more i j ++ spL t i j).reverse := strsAre_at (by rw [hl, List.length_reverse]; rfl) hy
        k_steps
        exact ret_due hret (by k_asm) (by k_asm) (by k_mem) (by k_mem) (fun p hp => by repeat (first | exact hp | refine List.Mem.tail _ ?_)) hS (by subst_vars; rfl) (by subst_vars; rfl) (by subst_vars; rfl)
    · have hk3 : kd ≠ 3 := by assumption
      have hk0' : kd ≠ 0 := by assumption
      k_dflt (refine' RngSrc.intro ?hh ?F ?N ?hr ?hn ?_)
      case hh => exact rfl
      case F => k_asm
      case N => k_asm
      case hr => k_asm
      case hn => omega
      intro gg
      refine rest_of (El := fun k y => ∃ u, y = .str ((spL t i j).reverse.getD k ⟨#[]⟩) u) trivial ?turn ?fin
      case turn =>
        intro k v I oI C oC D m₂ h tk3 ys E' hk hP hC hx F' N' off ne
        obtain ⟨u0, rfl⟩ := hP
        rw [Int.zero_add] at hx
        try dsimp only
        k_steps
        exact ElEnd.intro ⟨_, rfl⟩ (by k_asm) (by k_asm) (fun p hp => hp)
      case fin =>
        intro ys hl hy
        have hS : StrsAre ys (spL t i j).reverse := strsAre_at (by rw [hl, List.length_reverse]) hy
        k_steps
        exact ret_due hret (by k_asm) (by k_asm) (by k_mem) (by k_mem) (fun p hp => by repeat (first | exact hp | refine List.Mem.tail _ ?_)) hS (by simp [dueTag, hk3]) (by simp [dueLeft, hk3, hk0']; rfl) (by simp [dueParts, hk3, hk0'])
end Mine
end

section
open PySem PySem.W PyProof.Rows
namespace Mine
set_option maxRecDepth 100000
set_option maxHeartbeats 8000000

/-! a generator's run: rules for for, if, calls -/
section
variable {M : Model} {A : Around} {R : GenEnd} {Y : Protocol} {n : Nat} {s₀ : Shared} {c : Code} {fs : List Frame} {s : Shared} {env : Env}
  {K : Flow → Sem Fin} {H : Value → Sem Fin} {gd : Bool → Bool} {lv : List Value → List Value}

theorem seg_bw {α β : Type} {m : Sem α} {f : α → Sem β} {K : β → Sem Fin}
    (h : wpAny M (A.over c fs) m (fun a s' => Seg M A R Y n s₀ c ((f a).wrap K H gd lv) fs s') (fun x s' => Seg M A R Y n s₀ c (H x) fs s') s) :
    Seg M A R Y n s₀ c ((m >>= f).wrap K H gd lv) fs s := by
  rw [Sem.bind_eq_wrap', Sem.wrap_wrap]
  exact seg_wrap h

theorem seg_onRaise {α : Type} {m : Sem α} {K : α → Sem Fin} {H : Value → Sem Unit}
    (h : wpAny M (A.over c fs) m (fun a s' => Seg M A R Y n s₀ c ((K a).onRaise H) fs s') (fun x s' => Seg M A R Y n s₀ c ((H x).bind fun _ => .raise x) fs s') s) :
    Seg M A R Y n s₀ c ((m >>= K).onRaise H) fs s := by
  rw [Sem.onRaise_eq_wrap]
  refine seg_bw (wpAny_mono h (fun a s' h' => ?_) fun x s' h' => h')
  rw [← Sem.onRaise_eq_wrap]; exact h'

theorem seg_If {test : Expr} {body orelse : List Stmt} {pos : Pos}
    (h : wpAny M (A.over c fs) (isTrue test env (eval test env)) (fun b s' => if b = true then Seg M A R Y n s₀ c ((execs body env).wrap K H gd lv) fs s' else Seg M A R Y n s₀ c ((execs orelse env).wrap K H gd lv) fs s')
      (fun x s' => Seg M A R Y n s₀ c (H x) fs s') s) : Seg M A R Y n s₀ c ((exec (.If test body orelse pos) env).wrap K H gd lv) fs s := by
  rw [exec_If]
  refine seg_bw (wpAny_standAt (seg_bw (wpAny_mono h (fun b s' h' => ?_) fun _ _ h' => h')))
  cases b <;> exact h'

/-- what stands behind a loop's call in the generator's own frame -/
def afterLoop (env : Env) (K : Flow → Sem Fin) (H : Value → Sem Fin) (gd : Bool → Bool) (lv : List Value → List Value) : Result → Sem Fin :=
  fun r => ((match r with | .ok f => (.pure f : Sem Flow) | .error e => .raise e).onRaise fun (x : Value) => do
        if (← field x 1) == Value.none then unsupported "frame.own-activation:exception-without-traceback"
        setFlight x env.frame).wrap K H gd lv

theorem seg_For {target iter : Expr} {body orelse : List Stmt} {pos : Pos}
    (h : wpAny M (A.over c fs) (eval iter env) (fun x s₁ => wpAny M (A.over c fs) (pyIter x) (fun it s₂ =>
        ∀ p, Seg M A R Y n s₀ (.forLoop target it body orelse env) (M.den (.forLoop target it body orelse env)) (.ret (afterLoop env K H gd lv) none (gd false) (lv []) c p [] :: fs) s₂)
      (fun x s' => Seg M A R Y n s₀ c (H x) fs s') s₁) (fun x s' => Seg M A R Y n s₀ c (H x) fs s') s)
    (hs : ∀ x, foldedSetIterable iter env x = pure x := by intro _; rfl) :
    Seg M A R Y n s₀ c ((exec (.For target iter body orelse pos) env).wrap K H gd lv) fs s := by
  rw [exec_For]
  refine seg_bw (wpAny_standAt (seg_bw (wpAny_mono h (fun x s₁ h₁ => ?_) fun _ _ h' => h')))
  refine seg_bw (wpAny_of_eq (hs x) (seg_bw (wpAny_standAt (seg_bw (wpAny_holding (wpAny_mono h₁ (fun it s₂ h₂ => ?_) fun _ _ h' => h'))))))
  exact seg_call h₂

theorem seg_While2 {test : Expr} {body orelse : List Stmt} {pos : Pos}
    (h : ∀ p, Seg M A R Y n s₀ (.whileLoop test body orelse env) (M.den (.whileLoop test body orelse env)) (.ret (afterLoop env K H gd lv) none (gd false) (lv []) c p [] :: fs) s) :
    Seg M A R Y n s₀ c ((exec (.While test body orelse pos) env).wrap K H gd lv) fs s := seg_While h
end

section
variable {prog : Program} {w : World} {A : Around} {R : GenEnd} {Y : Protocol} {n : Nat} {s₀ : Shared} {fs : List Frame} {s : Shared} {env : Env}

def loopE (env : Env) : Value → Sem Fin := fun e => (do noteFrame e env; theTreesLotGoes e : Sem Unit).bind fun _ => .raise e
def forK (target : Expr) (it : Value) (body orelse : List Stmt) (env : Env) : Flow → Sem Fin
  | .next => .pure (.again (.forLoop target it body orelse env))
  | .cont => .pure (.again (.forLoop target it body orelse env))
  | .brk => .pure (.done .next)
  | .ret v => .pure (.done (.ret v))

theorem seg_forLoop {target : Expr} {it : Value} {body orelse : List Stmt}
    (h : wpAny (model prog w) (A.over (.forLoop target it body orelse env) fs) (pyNext it) (fun r s₁ => match r with
        | none => Seg (model prog w) A R Y n s₀ (.forLoop target it body orelse env) (.pure (.again (.block orelse env))) fs s₁
        | some v => wpAny (model prog w) (A.over (.forLoop target it body orelse env) fs) (assign target env v) (fun _ s₂ =>
            Seg (model prog w) A R Y n s₀ (.forLoop target it body orelse env) ((execs body env).wrap (forK target it body orelse env) (loopE env) id id) fs s₂)
          (fun x s' => Seg (model prog w) A R Y n s₀ (.forLoop target it body orelse env) (loopE env x) fs s') s₁)
      (fun x s' => Seg (model prog w) A R Y n s₀ (.forLoop target it body orelse env) (loopE env x) fs s') s)
    (ht : ∀ v, letOwnedTupleGo target it v = pure () := by intro _; rfl) :
    Seg (model prog w) A R Y n s₀ (.forLoop target it body orelse env) ((model prog w).den (.forLoop target it body orelse env)) fs s := by
  show Seg _ A R Y n s₀ _ ((forTurn target it body orelse env).onRaise (fun x => do noteFrame x env; theTreesLotGoes x)) fs s
  unfold forTurn
  refine seg_onRaise (wpAny_standAt (seg_onRaise (wpAny_onRaise (wpAny_mono h (fun r s₁ h₁ => ?_) fun x s' h' => wpAny_standAt h'))))
  cases r with
  | none => exact h₁
  | some v =>
    refine seg_onRaise (wpAny_of_eq (ht v) (seg_onRaise (wpAny_mono h₁ (fun _ s₂ h₂ => ?_) fun x s' h' => h')))
    show Seg _ A R Y n s₀ _ ((execs body env >>= _).onRaise _) fs s₂
    rw [Sem.onRaise_eq_wrap, Sem.bind_eq_wrap', Sem.wrap_wrap]
    rw [Sem.wrap_congr (execs body env) _ _ (K' := forK target it body orelse env) (H' := loopE env) (fun f => by cases f <;> rfl) (fun e => by rfl)]
    exact h₂

theorem seg_whileLoop2 {test : Expr} {body orelse : List Stmt}
    (h : wpAny (model prog w) (A.over (.whileLoop test body orelse env) fs) (isTrue test env (eval test env)) (fun b s' => b = true ∧
          Seg (model prog w) A R Y n s₀ (.whileLoop test body orelse env) ((execs body env).wrap (fun f => match f with
            | .next | .cont => .pure (.again (.whileLoop test body orelse env))
            | .brk => .pure (.done .next)
            | .ret v => .pure (.done (.ret v))) (fun e => (do noteFrame e env; theTreesLotGoes e : Sem Unit).wrap (fun _ => .raise e) .raise id id) id id) fs s') (fun _ _ => False) s) :
    Seg (model prog w) A R Y n s₀ (.whileLoop test body orelse env) ((model prog w).den (.whileLoop test body orelse env)) fs s :=
  seg_whileLoop (wpAny_mono h (fun b s' hb => by rw [if_pos hb.1]; exact hb.2) fun _ _ e => e.elim)
end
end Mine
end

section
open PySem PySem.W PyProof.Rows
namespace Mine
set_option maxRecDepth 100000
set_option maxHeartbeats 8000000

/-! the generator _grouping_intervals -/
abbrev gscope : Scope := { kind := .function, names := [(Str.ofString "grouping", .local), (Str.ofString "last_interval", .local), (Str.ofString "interval", .local), (Str.ofString "CHAR_MAX", .globalImplicit), (Str.ofString "ValueError", .globalImplicit)], isGenerator := true, isCoroutine := false, more := [] }
abbrev gE (Lg : Addr) (cd : Value) : Env := envOf (Str.ofString "_grouping_intervals") gscope Lg 21 cd

def Kept (Lg It : Addr) (s₀ s₁ : Shared) : Prop := ∃ h' tk', s₁ = { s₀ with heap := h', toks := tk' } ∧ ∀ b o, b ≠ Lg → b ≠ It → s₀.heap.get? b = some o → h'.get? b = some o
theorem Kept.refl {Lg It : Addr} {s : Shared} : Kept Lg It s s := ⟨s.heap, s.toks, rfl, fun _ _ _ _ e => e⟩
theorem Kept.toks {Lg It : Addr} {s₀ s : Shared} (k : Kept Lg It s₀ s) (tk : Nat) : Kept Lg It s₀ { s with toks := tk } := by
  obtain ⟨h', tk', rfl, hk⟩ := k
  exact ⟨h', tk, rfl, hk⟩
theorem Kept.step {Lg It b₀ : Addr} {s₀ s : Shared} {h : Heap} {tk : Nat} (k : Kept Lg It s₀ s) (hb : b₀ = Lg ∨ b₀ = It) (hs : Heap.ExtBut b₀ s.heap h) : Kept Lg It s₀ { s with heap := h, toks := tk } := by
  obtain ⟨h', tk', rfl, hk⟩ := k
  refine ⟨h, tk, rfl, fun b o h1 h2 e => hs b o (fun q => ?_) (hk b o h1 h2 e)⟩
  rcases hb with rfl | rfl
  · exact h1 q
  · exact h2 q

def outv (front : List Int) (j : Nat) : Int := front.getD j (front.getD (front.length - 1) 0)

theorem getD_out {α : Type} {l : List α} {j : Nat} {d : α} (h : l.length ≤ j) : l.getD j d = d := by
  rw [List.getD_eq_getElem?_getD, List.getElem?_eq_none h]; rfl

def gR (Lg It : Addr) (front : List Int) (N : Nat) (loops : Bool) : GenEnd := fun n s₀ r s₁ => r = .ok (.ret .none) ∧ loops = false ∧ n + front.length = N ∧ Kept Lg It s₀ s₁
def gY (h₀ : Heap) (Lg It R : Addr) (oR : Obj) (front : List Int) (N : Nat) (loops : Bool) : Protocol := fun k s₀ v s₁ kap =>
  Kept Lg It s₀ s₁ ∧ (∃ t, v = .int (outv front (N - 1 - k)) t) ∧ (loops = true ∨ N - 1 - k < front.length) ∧
    ∃ oL oI, s₁.heap.get? Lg = some oL ∧ s₁.heap.get? It = some oI ∧ (k = 0 ∨ ∀ s'' : Shared, s''.heap.get? Lg = some oL → s''.heap.get? It = some oI → s''.heap.get? R = some oR → h₀.StaysIn s''.heap → kap (.send .none) s'')

structure GF (h₀ : Heap) (Lg It R : Addr) (oR : Obj) (i : Nat) (mf : Str → Option Value) (h : Heap) : Prop where
  F : Fr h₀ Lg h mf
  it : h.IsListIter It R i
  row : h.get? R = some oR

theorem GF.again {h₀ : Heap} {Lg It R : Addr} {oR : Obj} {i : Nat} {mf : Str → Option Value} {h : Heap} (g : GF h₀ Lg It R oR i mf h) :
    ∃ oL oI, h.get? Lg = some oL ∧ h.get? It = some oI ∧ ∀ h' : Heap, h'.get? Lg = some oL → h'.get? It = some oI → h'.get? R = some oR → h₀.StaysIn h' → GF h₀ Lg It R oR i mf h' := by
  obtain ⟨oL, es, ep, hL, hd, hr⟩ := g.F.ns
  obtain ⟨oI, hI, hc⟩ := g.it
  exact ⟨oL, oI, hL, hI, fun h' a b c d => ⟨⟨⟨oL, es, ep, a, hd, hr⟩, d, g.F.above⟩, ⟨oI, b, hc⟩, c⟩⟩

theorem split_ret {fs : List Frame} {k : Result → Sem PySem.Fin} {h : Option Value} {g : Bool} {l : List Value} {c : Code} {p : Pos} {kp : List Value} (hfs : splitAtGen fs = none) : splitAtGen (.ret k h g l c p kp :: fs) = none := by
  show (splitAtGen fs).map _ = none
  rw [hfs]; rfl
theorem mid_get (l : List Int) (z : Int) (r : List Int) : (l ++ z :: r)[l.length]? = some z := by
  rw [List.getElem?_append_right (Nat.le_refl _), Nat.sub_self]; rfl
theorem charmax (P : Params) : nsIn (hd.heap_39 P) mainGlobals (Str.ofString "CHAR_MAX") = some (some (.int 127 189)) := by kernel_rfl

section
variable {w : World} {A : Around} {h₀ : Heap} {Lg It R : Addr} {cd : Value} {oR : Obj} {front : List Int} {N : Nat} {loops : Bool} {fs : List Frame}

theorem gen_while {q1 q2 q3 q4 : Pos} (hl : loops = true) (hfs : splitAtGen fs = none) (hfg : fs.any Frame.guarded = false) : ∀ (n : Nat) (s₀ s : Shared) (i : Nat) (mf : Str → Option Value) (t : Tok),
    front.length + n + 1 ≤ N → GF h₀ Lg It R oR i mf s.heap → mf (Str.ofString "last_interval") = some (.int (front.getD (front.length - 1) 0) t) → Kept Lg It s₀ s →
    Seg (model PySem.Challenge.rw_nb0128_01.row.prog w) A (gR Lg It front N loops) (gY h₀ Lg It R oR front N loops) (n + 1) s₀
      (.whileLoop (.Constant (.bool true) 0 q1) [.Expr (.Yield (some (.Name (Str.ofString "last_interval") q2)) q3) q4] [] (gE Lg cd))
      ((model PySem.Challenge.rw_nb0128_01.row.prog w).den (.whileLoop (.Constant (.bool true) 0 q1) [.Expr (.Yield (some (.Name (Str.ofString "last_interval") q2)) q3) q4] [] (gE Lg cd))) fs s := by
  intro n
  induction n with
  | zero =>
    intro s₀ s i mf t hN g hlast hk
    refine seg_whileLoop2 (isTrue_plain (Constant_bool (wpAny_truthy_bool ⟨rfl, ?_⟩)))
    refine seg_execs_cons (seg_Expr_Yield hfs rfl hfg (ld g.F hlast ?_))
    intro kap hkap
    obtain ⟨oL, oI, hL, hI, ag⟩ := g.again
    refine ⟨hk, ⟨t, ?_⟩, .inl hl, oL, oI, hL, hI, .inl rfl⟩
    have : outv front (N - 1 - 0) = front.getD (front.length - 1) 0 := by
      unfold outv; rw [getD_out (by omega)]
    rw [this]
  | succ n ih =>
    intro s₀ s i mf t hN g hlast hk
    refine seg_whileLoop2 (isTrue_plain (Constant_bool (wpAny_truthy_bool ⟨rfl, ?_⟩)))
    refine seg_execs_cons (seg_Expr_Yield hfs rfl hfg (ld g.F hlast ?_))
    intro kap hkap
    obtain ⟨oL, oI, hL, hI, ag⟩ := g.again
    refine ⟨hk, ⟨t, ?_⟩, .inl hl, oL, oI, hL, hI, .inr fun s'' a b c d => hkap .none s'' ?_⟩
    · have : outv front (N - 1 - (n + 1)) = front.getD (front.length - 1) 0 := by
        unfold outv; rw [getD_out (by omega)]
      rw [this]
    · show Seg _ A _ _ (n + 1) s'' _ ((execs [] _).wrap _ _ id id) fs s''
      refine seg_execs_nil ?_
      refine seg_again rfl (ih s'' s'' i mf t (by omega) (ag s''.heap a b c d) hlast Kept.refl)

theorem gen_for {mean : ExcName → Option Value} {mg mb : Str → Option Value} {q0 q1 q2 q3 q4 q5 q6 q7 q8 q9 q10 q11 q12 q13 q14 q15 q16 q17 q18 q19 q20 q21 q22 q23 q24 : Pos} {vs : List Value} {tail : List Int} {raiseSt : Stmt}
    (X : (hd.heap_39 w.params).In h₀) (T : Top hd.view_39 (looseW hd.view_39 []) mean mg mb h₀) (hI : IntsAre vs (front ++ tail)) (hoR : ∀ h : Heap, h.get? R = some oR → h.IsList R vs.toArray)
    (hLI : Lg ≠ It) (hLR : Lg ≠ R) (hIR : It ≠ R) (hI₀ : h₀.get? It = none) (hne : front ≠ []) (hfr : ∀ z ∈ front, z ≠ 0 ∧ z ≠ 127) (hlen : front.length < N)
    (htl : (tail = [] ∧ loops = false) ∨ (∃ r, tail = 127 :: r ∧ loops = false) ∨ (∃ r, tail = 0 :: r ∧ loops = true))
    (hfs : splitAtGen fs = none) (hfg : fs.any Frame.guarded = false) (hh : ∀ c, (A.over c fs).handled = none)
    (hend : ∀ n s₀ c f s', (f = .next ∨ f = .ret .none) → gR Lg It front N loops n s₀ (.ok (.ret .none)) s' → Seg (model PySem.Challenge.rw_nb0128_01.row.prog w) A (gR Lg It front N loops) (gY h₀ Lg It R oR front N loops) n s₀ c (leafOf (.ok f)) fs s') :
    ∀ (n : Nat) (i : Nat) (s₀ s : Shared) (mf : Str → Option Value), i ≤ front.length → i + n = N → GF h₀ Lg It R oR i mf s.heap → (0 < i → ∃ t, mf (Str.ofString "last_interval") = some (.int (front.getD (i - 1) 0) t)) → Kept Lg It s₀ s →
    let body : List Stmt := [.If (.Compare (.Name (Str.ofString "interval") q1) [.Eq] [.Name (Str.ofString "CHAR_MAX") q2] q3) [.Return none q4] [] q5,
      .If (.Compare (.Name (Str.ofString "interval") q6) [.Eq] [.Constant (.int 0) 0 q7] q8)
        [.If (.Compare (.Name (Str.ofString "last_interval") q9) [.Is] [.Constant .none 0 q10] q11) [raiseSt] [] q12,
         .While (.Constant (.bool true) 0 q13) [.Expr (.Yield (some (.Name (Str.ofString "last_interval") q14)) q15) q16] [] q17] [] q18,
      .Expr (.Yield (some (.Name (Str.ofString "interval") q19)) q20) q21, .Assign [.Name (Str.ofString "last_interval") q22] (.Name (Str.ofString "interval") q23) q24]
    Seg (model PySem.Challenge.rw_nb0128_01.row.prog w) A (gR Lg It front N loops) (gY h₀ Lg It R oR front N loops) n s₀
      (.forLoop (.Name (Str.ofString "interval") q0) (.ref It) body [] (gE Lg cd)) ((model PySem.Challenge.rw_nb0128_01.row.prog w).den (.forLoop (.Name (Str.ofString "interval") q0) (.ref It) body [] (gE Lg cd))) fs s := by
  intro n
  induction n with
  | zero => intro i s₀ s mf hi hiN; omega
  | succ n ih =>
    intro i s₀ s mf hi hiN g hlast hk body
    have row := hoR _ g.row
    refine seg_forLoop ?_
    by_cases hlt : i < front.length
    · have hz : (front ++ tail)[i]? = some (front.getD i 0) := by
        rw [List.getElem?_append_left hlt, List.getD_eq_getElem?_getD, List.getElem?_eq_getElem hlt]; rfl
      obtain ⟨tz, hvz⟩ := hI.get i _ hz
      have hmem : front.getD i 0 ∈ front := by
        rw [List.getD_eq_getElem?_getD, List.getElem?_eq_getElem hlt]; exact List.getElem_mem hlt
      obtain ⟨hz0, hz127⟩ := hfr _ hmem
      generalize hzz : front.getD i 0 = z at *
      refine wpAny_pyNext_list_item g.it row (x := .int z tz) (by simpa using hvz) fun h₁ hit₁ hs₁ => ?_
      have F₁ : Fr h₀ Lg h₁ mf := LCg.fr_but g.F (fun b o hb e => hs₁.extBut b o (by simpa using hb) e) hLI hI₀
      have k₁ : Kept Lg It s₀ { s with heap := h₁ } := hk.step (.inr rfl) hs₁.extBut
      refine wpAny_assign_Name (wpAny_storeName_local (by rfl) F₁.ns (fun h₂ hn₂ hs₂ => ?_) (by rfl))
      have F₂ := F₁.set hn₂ hs₂
      have k₂ : Kept Lg It s₀ { s with heap := h₂, toks := s.toks + 1 } := k₁.step (.inl rfl) hs₂.extBut
      have g₂ : GF h₀ Lg It R oR (i + 1) (fun y => if y = Str.ofString "interval" then some (.int z tz) else mf y) h₂ :=
        ⟨F₂, hit₁.extBut hs₂.extBut (Ne.symm hLI), hs₂.extBut _ _ (Ne.symm hLR) (hs₁.extBut _ _ (Ne.symm hIR) g.row)⟩
      have hmi : (fun y => if y = Str.ofString "interval" then some (Value.int z tz) else mf y) (Str.ofString "interval") = some (.int z tz) := if_pos rfl
      refine seg_execs_cons (seg_wrap (wpAny_If (wpAny_isTrue_Compare1 (ld F₂ hmi (name_K F₂ X (topRead_of T) (charmax w.params) (eq_int (wpAny_truthy_bool ?_)))) (by rfl))))
      rw [if_neg (by simpa using hz127)]
      refine wpAny_execs_nil ?_
      refine seg_execs_cons (seg_If (wpAny_isTrue_Compare1 (ld F₂ hmi (wpAny_Constant_int (eq_int (wpAny_truthy_bool ?_)))) (by rfl)))
      rw [if_neg (by simpa using hz0)]
      refine seg_execs_nil ?_
      have k₃ := k₂.toks (s.toks + 1 + 1)
      refine seg_execs_cons (seg_Expr_Yield hfs rfl hfg (ld F₂ hmi ?_))
      intro kap hkap
      obtain ⟨oL, oI, hL, hIo, ag⟩ := g₂.again
      refine ⟨k₃, ⟨tz, ?_⟩, .inr (by omega), oL, oI, hL, hIo, .inr fun s'' a b c d => hkap .none s'' ?_⟩
      · have : outv front (N - 1 - n) = z := by
          have e : N - 1 - n = i := by omega
          unfold outv
          rw [e, List.getD_eq_getElem?_getD, List.getElem?_eq_getElem hlt]
          rw [List.getD_eq_getElem?_getD, List.getElem?_eq_getElem hlt] at hzz
          exact hzz
        rw [this]
      · have g₃ := ag s''.heap a b c d
        show Seg _ A _ _ n s'' _ ((execs [_] _).wrap _ _ id id) fs s''
        refine seg_execs_cons (seg_wrap (wpAny_Assign_Name (ld g₃.F hmi (wpAny_storeName_local (by rfl) g₃.F.ns (fun h₄ hn₄ hs₄ => ?_) (by rfl)))))
        refine seg_execs_nil ?_
        have g₄ : GF h₀ Lg It R oR (i + 1) _ h₄ := ⟨g₃.F.set hn₄ hs₄, g₃.it.extBut hs₄.extBut (Ne.symm hLI), hs₄.extBut _ _ (Ne.symm hLR) g₃.row⟩
        refine seg_again rfl (ih (i + 1) s'' _ _ (by omega) (by omega) g₄ (fun _ => ⟨tz, ?_⟩) (Kept.refl.step (.inl rfl) hs₄.extBut))
        show (if Str.ofString "last_interval" = Str.ofString "last_interval" then some (Value.int z tz) else _) = _
        rw [if_pos rfl]
        have : front.getD (i + 1 - 1) 0 = z := hzz
        rw [this]
    · obtain rfl : i = front.length := by omega
      have hpos : 0 < front.length := List.length_pos_iff.mpr hne
      rcases htl with ⟨rfl, hlo⟩ | ⟨r, rfl, hlo⟩ | ⟨r, rfl, hlo⟩
      · -- the row is at its end
        have hx : vs.toArray[front.length]? = none := by
          have := hI.length
          simp at this
          simp; omega
        refine wpAny_pyNext_list_end (hh _) g.it row hx fun h₁ he₁ => ?_
        refine seg_again rfl ?_
        show Seg _ A _ _ (n + 1) s₀ _ (leafOf (.ok .next)) fs _
        exact hend _ _ _ _ _ (.inl rfl) ⟨rfl, hlo, by omega, hk.step (.inr rfl) he₁⟩
      all_goals
        obtain ⟨tz, hvz⟩ := hI.get _ _ (mid_get front _ r)
        refine wpAny_pyNext_list_item g.it row (by simpa using hvz) fun h₁ hit₁ hs₁ => ?_
        have F₁ : Fr h₀ Lg h₁ mf := LCg.fr_but g.F (fun b o hb e => hs₁.extBut b o (by simpa using hb) e) hLI hI₀
        have k₁ : Kept Lg It s₀ { s with heap := h₁ } := hk.step (.inr rfl) hs₁.extBut
        refine wpAny_assign_Name (wpAny_storeName_local (by rfl) F₁.ns (fun h₂ hn₂ hs₂ => ?_) (by rfl))
        have F₂ := F₁.set hn₂ hs₂
        have k₂ : Kept Lg It s₀ { s with heap := h₂, toks := s.toks + 1 } := k₁.step (.inl rfl) hs₂.extBut
        refine seg_execs_cons (seg_wrap (wpAny_If (wpAny_isTrue_Compare1 (ld F₂ (if_pos rfl) (name_K F₂ X (topRead_of T) (charmax w.params) (eq_int (wpAny_truthy_bool ?_)))) (by rfl))))
      · -- 127
        rw [if_pos (by rfl)]
        refine wpAny_execs_cons (wpAny_Return_none ?_)
        show Seg _ A _ _ (n + 1) s₀ _ (leafOf (.ok (.ret .none))) fs _
        exact hend _ _ _ _ _ (.inr rfl) ⟨rfl, hlo, by omega, k₂⟩
      · -- 0
        rw [if_neg (by decide)]
        refine wpAny_execs_nil ?_
        refine seg_execs_cons (seg_If (wpAny_isTrue_Compare1 (ld F₂ (if_pos rfl) (wpAny_Constant_int (eq_int (wpAny_truthy_bool ?_)))) (by rfl)))
        rw [if_pos (by rfl)]
        obtain ⟨tl, hl⟩ := hlast hpos
        have hml : (fun y => if y = Str.ofString "interval" then some (Value.int 0 tz) else mf y) (Str.ofString "last_interval") = some (.int (front.getD (front.length - 1) 0) tl) := by
          show (if _ then _ else _) = _
          rw [if_neg (by decide)]; exact hl
        refine seg_execs_cons (seg_wrap (wpAny_If (wpAny_isTrue_Compare1 (ld F₂ hml (Constant_none (is_int_none (wpAny_truthy_bool ?_)))) (by rfl))))
        rw [if_neg (by decide)]
        refine wpAny_execs_nil ?_
        have g₂ : GF h₀ Lg It R oR (front.length + 1) _ h₂ := ⟨F₂, hit₁.extBut hs₂.extBut (Ne.symm hLI), hs₂.extBut _ _ (Ne.symm hLR) (hs₁.extBut _ _ (Ne.symm hIR) g.row)⟩
        refine seg_execs_cons (seg_While2 fun p => ?_)
        exact gen_while hlo (split_ret hfs) (by simpa [Frame.guarded] using hfg) n s₀ _ _ _ tl (by omega) g₂ hml (k₂.toks _)

/-- the body of the generator, its places left open -/
abbrev gFor (q0 q1 q2 q3 q4 q5 q6 q7 q8 q9 q10 q11 q12 q13 q14 q15 q16 q17 q18 q19 q20 q21 q22 q23 q24 q25 q26 q27 q28 q29 : Pos) (raiseSt : Stmt) : List Stmt :=
  [.Assign [.Name (Str.ofString "last_interval") q25] (.Constant .none 0 q26) q27,
   .For (.Name (Str.ofString "interval") q0) (.Name (Str.ofString "grouping") q28)
    [.If (.Compare (.Name (Str.ofString "interval") q1) [.Eq] [.Name (Str.ofString "CHAR_MAX") q2] q3) [.Return none q4] [] q5,
      .If (.Compare (.Name (Str.ofString "interval") q6) [.Eq] [.Constant (.int 0) 0 q7] q8)
        [.If (.Compare (.Name (Str.ofString "last_interval") q9) [.Is] [.Constant .none 0 q10] q11) [raiseSt] [] q12,
         .While (.Constant (.bool true) 0 q13) [.Expr (.Yield (some (.Name (Str.ofString "last_interval") q14)) q15) q16] [] q17] [] q18,
      .Expr (.Yield (some (.Name (Str.ofString "interval") q19)) q20) q21, .Assign [.Name (Str.ofString "last_interval") q22] (.Name (Str.ofString "interval") q23) q24] [] q29]

theorem gen_start {mean : ExcName → Option Value} {mg mb : Str → Option Value} {q0 q1 q2 q3 q4 q5 q6 q7 q8 q9 q10 q11 q12 q13 q14 q15 q16 q17 q18 q19 q20 q21 q22 q23 q24 q25 q26 q27 q28 q29 : Pos} {vs : List Value} {tail : List Int} {raiseSt : Stmt} {s : Shared} {mf : Str → Option Value}
    (X : (hd.heap_39 w.params).In h₀) (T : Top hd.view_39 (looseW hd.view_39 []) mean mg mb h₀) (hI : IntsAre vs (front ++ tail)) (hoR : ∀ h : Heap, h.get? R = some oR → h.IsList R vs.toArray)
    (hLR : Lg ≠ R) (hne : front ≠ []) (hfr : ∀ z ∈ front, z ≠ 0 ∧ z ≠ 127) (hlen : front.length < N)
    (htl : (tail = [] ∧ loops = false) ∨ (∃ r, tail = 127 :: r ∧ loops = false) ∨ (∃ r, tail = 0 :: r ∧ loops = true)) (hA : A.handled = none)
    (F : Fr h₀ Lg s.heap mf) (hgr : mf (Str.ofString "grouping") = some (.ref R)) (hR : s.heap.get? R = some oR) (hIt : It = s.heap.objs.size) :
    Seg (model PySem.Challenge.rw_nb0128_01.row.prog w) A (gR Lg It front N loops) (gY h₀ Lg It R oR front N loops) N s
      (.func (gFor q0 q1 q2 q3 q4 q5 q6 q7 q8 q9 q10 q11 q12 q13 q14 q15 q16 q17 q18 q19 q20 q21 q22 q23 q24 q25 q26 q27 q28 q29 raiseSt) (gE Lg cd))
      ((model PySem.Challenge.rw_nb0128_01.row.prog w).den (.func (gFor q0 q1 q2 q3 q4 q5 q6 q7 q8 q9 q10 q11 q12 q13 q14 q15 q16 q17 q18 q19 q20 q21 q22 q23 q24 q25 q26 q27 q28 q29 raiseSt) (gE Lg cd))) [] s := by
  refine seg_func (seg_execs_cons (seg_wrap (wpAny_Assign_Name (Constant_none (wpAny_storeName_local (by rfl) F.ns (fun h₁ hn₁ hs₁ => ?_) (by rfl))))))
  have F₁ := F.set hn₁ hs₁
  have hR₁ : h₁.get? R = some oR := hs₁.extBut _ _ (Ne.symm hLR) hR
  have hsz : h₁.objs.size = It := hs₁.1.trans hIt.symm
  have k₁ : Kept Lg It s { s with heap := h₁, toks := s.toks + 1 } := Kept.refl.step (.inl rfl) hs₁.extBut
  have hgr₁ : (fun x => if x = Str.ofString "last_interval" then some Value.none else mf x) (Str.ofString "grouping") = some (.ref R) := by
    show (if _ then _ else _) = _
    rw [if_neg (by decide)]; exact hgr
  refine seg_execs_cons (seg_For (ld F₁ hgr₁ (wpAny_pyIter_list (hoR _ hR₁) fun p => ?_)))
  have hLI : Lg ≠ It := by rw [← hsz]; exact Nat.ne_of_lt F₁.ns.lt
  have hIR : It ≠ R := by rw [← hsz]; exact Nat.ne_of_gt (Heap.lt_size hR₁)
  have hI₀ : h₀.get? It = none := by rw [← hsz]; exact next_is_new F₁
  have g₂ : GF h₀ Lg It R oR 0 _ (h₁.push { cls := .type "list_iterator", data := .fields #[.ref R, .int 0 0] }) :=
    ⟨F₁.push _, ⟨_, by rw [← hsz]; exact Heap.get?_push_size _ rfl, rfl, rfl⟩, Heap.get?_push_of_some _ hR₁⟩
  have k₂ : Kept Lg It s { s with heap := h₁.push { cls := .type "list_iterator", data := .fields #[.ref R, .int 0 0] }, toks := s.toks + 1 } :=
    k₁.step (.inr rfl) fun b o _ e => Heap.get?_push_of_some _ e
  rw [hsz]
  refine gen_for (cd := cd) X T hI hoR hLI hLR hIR hI₀ hne hfr hlen htl rfl rfl (fun c => ?_) (fun n s₀ c f s' hf hr => ?_) N 0 s _ _ (Nat.zero_le _) (Nat.zero_add _) g₂ (fun h => absurd h (Nat.lt_irrefl _)) k₂
  · show (markOver none A.handled A.handled) = none
    rw [hA]; rfl
  · refine seg_leaf (.ok f) ?_
    rcases hf with rfl | rfl
    · exact seg_end (.ok (.ret .none)) hr
    · exact seg_end (.ok (.ret .none)) hr
end
end Mine
end

section
open PySem PySem.W PyProof.Rows
namespace Mine
set_option maxRecDepth 100000
set_option maxHeartbeats 8000000

section
variable {prog : Program} {w : World} {A : Around} {E : Value → Shared → Prop} {s : Shared}

theorem valueError_not_stop : isSubtype (.type "ValueError") (.type "StopIteration") = pure false := by rw [isSubtype_type]; kernel_rfl
theorem gen_left {M : Model} {α : Type} {a e : Addr} {g : Nat} {Q : α → Shared → Prop} (hg : s.heap.IsGen a g) (he : ∃ o, s.heap.get? e = some o ∧ o.cls = .type "ValueError") (h : E (.ref e) s) :
    wpAny M A (Builtin.Generator.genLeft (.ref a) (.ref e) : Sem α) Q E s := by
  obtain ⟨o, nm, qn, ho, hc, hd, hsl⟩ := hg
  unfold Builtin.Generator.genLeft Builtin.Generator.madeByALambda
  refine wpAny_bind (wpAny_bind (wpAny_load ho ?_))
  rw [hc, hd]
  refine wpAny_pure (wpAny_bind (wpAny_isInstance (T := "ValueError") (b := false) he valueError_not_stop ?_))
  unfold Builtin.Generator.genEscaped
  refine wpAny_bind (wpAny_isInstance (T := "ValueError") (b := false) he valueError_not_stop ?_)
  exact wpAny_throw h

/-- one next of a generator: it yields, comes to its end, or raises. -/
theorem next_gen {a : Addr} {g n : Nat} {gs : GenState} {R : GenEnd} {Y : Protocol} {Q : Option Value → Shared → Prop} (hh : A.handled = none)
    (hl : s.heap.NoLimit) (hroom : A.depth < recursionLimit) (hg : s.heap.IsGen a g) (hgs : s.gens[g]? = some gs)
    (hgo : gs.Goes (model prog w) A.in1 R Y n (.send .none) (s.setGen g .running))
    (hY : ∀ v s₁ gs', gs'.bare = true → Y (n - 1) (s.setGen g .running) v s₁ (fun r' s'' => match n with
        | 0 => False
        | m + 1 => gs'.Goes (model prog w) A.in1 R Y m r' s'') → Q (some v) (s₁.setGen g gs'))
    (hR : ∀ x s₁, R n (s.setGen g .running) x s₁ →
      (x = .ok (.ret .none) ∧ ∀ h', (∀ b o, s₁.heap.get? b = some o → h'.get? b = some o) → Q none { s₁.setGen g .finished with heap := h' }) ∨
      (∃ e, x = .error (.ref e) ∧ s₁.heap.IsGen a g ∧ (∃ o, s₁.heap.get? e = some o ∧ o.cls = .type "ValueError") ∧ E (.ref e) (s₁.setGen g .finished))) :
    wpAny (model prog w) A (pyNext (.ref a)) Q E s := by
  unfold pyNext
  refine wpAny_bind (wpAny_attempt (wpAny_callSpecial?_slot (name := Str.ofString "__next__") hg.typeIs slot_gen_next
    (wpAny_call_entry slot_gen_next hg.typeIs entry_gen_next ?_ (args_gen_next _))))
  show wpAny _ A.in1 (Builtin.Generator.genWake (.ref a) (.send .none)) _ _ s
  unfold Builtin.Generator.genWake
  refine wpAny_bind (wpAny_holding (wpAny_genNumber hg (wpAny_bind (wpAny_genState hgs ?_))))
  cases gs with
  | running => exact hgo.elim
  | finished => exact hgo.elim
  | _ =>
    refine wpAny_bind (wpAny_roomToWake hl hroom ?_)
    show wpAny _ A.in1 (.resume g (.send .none) [] _) _ _ s
    refine wpAny_resumeQ hgs hgo (fun x s₁ hx => ?_) (fun v s₁ gs' hb hv => ?_)
    · rcases hR x s₁ hx with ⟨rfl, hq⟩ | ⟨e, rfl, hg₁, ⟨o, ho, hc⟩, hE⟩
      · show wpAny _ A.in1 (newExc (.type "StopIteration") [] >>= _) _ _ _
        refine wpAny_bind ?_
        simp only [newExc, newTuple]
        refine wpAny_bind (wpAny_newObj_type ?_ (by size_fits))
        refine wpAny_bind (m := firstArgMember _ _) (wpAny_of_eq (a := Value.none) (by first | rfl | (simp only [firstArgMember]; rfl)) ?_)
        refine wpAny_newObj_type ?_ (by size_fits)
        simp only [raiseNew]
        refine wpAny_bind (wpAny_bind (wpAny_handled ?_))
        rw [show A.in1.handled = none from hh]
        refine wpAny_throw ?_
        refine wpAny_bind (wpAny_isInstance (T := "StopIteration") (b := true) ⟨_, Heap.get?_push_size _ rfl, rfl⟩ isSubtype_stop ?_)
        exact wpAny_pure (hq _ fun b o hb => Heap.get?_push_of_some _ (Heap.get?_push_of_some _ hb))
      · show wpAny _ A.in1 (Builtin.Generator.genLeft (.ref a) (.ref e)) _ _ _
        refine gen_left (s := s₁.setGen g .finished) hg₁ ⟨o, ho, hc⟩ ?_
        refine wpAny_bind (wpAny_isInstance (T := "ValueError") (b := false) ⟨o, ho, hc⟩ valueError_not_stop ?_)
        exact wpAny_throw hE
    · exact wpAny_pure ⟨v, rfl, wpAny_pure (hY v s₁ gs' hb hv)⟩
end
end Mine
end

section
open PySem PySem.W PyProof.Rows
namespace Mine
set_option maxRecDepth 100000
set_option maxHeartbeats 8000000

def lftS (pcs : List Str) (j : Nat) : Str := catS (pcs.drop j).reverse
abbrev cm (m₀ : Str → Option Value) (lf : Str) (u : Tok) (sz : Option Value) : Str → Option Value := fun y => if y = Str.ofString "left" then some (.str lf u) else if y = Str.ofString "size" then sz else m₀ y

theorem cm_size (m₀ : Str → Option Value) (lf : Str) (u : Tok) (sz v : Option Value) : (fun y => if y = Str.ofString "size" then v else cm m₀ lf u sz y) = cm m₀ lf u v := by
  funext y
  by_cases h : y = Str.ofString "size"
  · subst h
    have : ¬ (Str.ofString "size" = Str.ofString "left") := by decide
    simp [cm, this]
  · simp [cm, h]
theorem cm_left (m₀ : Str → Option Value) (lf lf' : Str) (u u' : Tok) (sz : Option Value) : (fun y => if y = Str.ofString "left" then some (.str lf' u') else cm m₀ lf u sz y) = cm m₀ lf' u' sz := by
  funext y
  by_cases h : y = Str.ofString "left"
  · simp [cm, h]
  · simp [cm, h]

theorem allBare_set {gens : Array GenState} {g : Nat} {x : GenState} (h : AllBare gens) (hx : x.bare = true) : AllBare (gens.setIfInBounds g x) := by
  intro y hy
  obtain ⟨i, hi, rfl⟩ := Array.mem_iff_getElem.mp hy
  have hi' : i < gens.size := by simpa using hi
  rw [Array.getElem_setIfInBounds hi']
  split
  · exact hx
  · exact h _ (Array.getElem_mem hi')

def CutPost (h₀ : Heap) (L P : Addr) (m₀ : Str → Option Value) (rest : List (Addr × Obj)) (s : Shared) (ge : Array GenState) (pcs : List Str) (mc j : Nat) : Flow → Shared → Prop
  | .next, s₃ => j < mc ∧ ∃ h' tk' vs' c' u' sz', s₃ = { s with heap := h', toks := tk', gens := ge } ∧ Fr h₀ L h' (cm m₀ (lftS pcs (j + 1)) u' sz') ∧ News h₀ L h' ((P, listOf (List.toArray vs') c') :: rest) ∧ StrsAre vs' (pcs.take (j + 1))
  | .brk, s₃ => j = mc ∧ ∃ h' tk' vs' c' u' sz', s₃ = { s with heap := h', toks := tk', gens := ge } ∧ Fr h₀ L h' (cm m₀ (lftS pcs j) u' sz') ∧ News h₀ L h' ((P, listOf (List.toArray vs') c') :: rest) ∧ StrsAre vs' (pcs.take j)
  | _, _ => False

section
variable {w : World} {A : Around} {h₀ : Heap} {Lg It G R L P : Nat} {oR oL oG : Obj} {front : List Int} {N g : Nat} {loops : Bool} {s : Shared} {news : List (Addr × Obj)} {m₀ : Str → Option Value} {pcs : List Str} {mc : Nat} {env : Env} {gs : GenState}

theorem cut_loop {mean : ExcName → Option Value} {mg mb : Str → Option Value} {Rr : Result → Shared → Prop} {px : Pos} {body : List Stmt} {u0 : Tok} {sz0 : Option Value}
    (T : Top hd.view_39 (looseW hd.view_39 []) mean mg mb h₀) (hA : A.handled = none) (hroom : A.depth < recursionLimit) (hEL : env.locals = L) (hx : env.kindOf (Str.ofString "size") = some .local)
    (hp : (env.scope.kind == .class || (env.scope.kind == .module && env.locals != env.globals)) = false)
    (hPL : P < Lg) (hLL : L < Lg) (hG : G = Lg + 1) (hIt : It = Lg + 2) (hnL : ∀ p ∈ news, @LT.lt Nat _ p.1 P) (hRn : (R, oR) ∈ news)
    (hN : mc + 2 ≤ N) (hfl : front.length ≤ mc) (hlp : loops = false → mc = front.length)
    (F : Fr h₀ L s.heap (cm m₀ (lftS pcs 0) u0 sz0)) (Nw : News h₀ L s.heap ((P, listOf #[] 0) :: ([(Lg, oL), (G, oG)] ++ news)))
    (hg : ∀ h : Heap, h.get? G = some oG → h.IsGen G g) (hgs : s.gens[g]? = some gs) (hbare : AllBare s.gens) (hsz : s.heap.objs.size = It)
    (go : ∀ s'' : Shared, s''.heap.get? Lg = some oL → s''.heap.get? R = some oR → h₀.StaysIn s''.heap → s''.heap.objs.size = It →
      gs.Goes (model PySem.Challenge.rw_nb0128_01.row.prog w) A.in1 (gR Lg It front N loops) (gY h₀ Lg It R oR front N loops) N (.send .none) s'')
    (turn : ∀ j u vs c h tk ge own tz (E' : Value → Shared → Prop), (j < mc ∨ (j = mc ∧ loops = true)) → Fr h₀ L h (cm m₀ (lftS pcs j) u (some (.int (outv front j) tz))) → News h₀ L h ((P, listOf (List.toArray vs) c) :: (own ++ news)) → (∀ p ∈ own ++ news, p.1 ≠ P) →
      StrsAre vs (pcs.take j) → wpAny (model PySem.Challenge.rw_nb0128_01.row.prog w) A (execs body env) (CutPost h₀ L P m₀ (own ++ news) s ge pcs mc j) E' { s with heap := h, toks := tk, gens := ge })
    (done : ∀ vs c u sz h tk ge own, AllBare ge → StrsAre vs (pcs.take mc) → Fr h₀ L h (cm m₀ (lftS pcs mc) u sz) → News h₀ L h ((P, listOf (List.toArray vs) c) :: (own ++ news)) → Rr (.ok .next) { s with heap := h, toks := tk, gens := ge }) :
    codeAny (model PySem.Challenge.rw_nb0128_01.row.prog w) A (.forLoop (.Name (Str.ofString "size") px) (.ref G) body [] env) Rr s := by
  subst hEL
  let Inv : Nat → Shared → Prop := fun k s' => ∃ j h tk ge vs c u sz own gs', k = mc + 1 - j ∧ j ≤ mc ∧ s' = { s with heap := h, toks := tk, gens := ge } ∧ AllBare ge ∧ ge[g]? = some gs' ∧
    Fr h₀ env.locals h (cm m₀ (lftS pcs j) u sz) ∧ News h₀ env.locals h ((P, listOf (List.toArray vs) c) :: (own ++ news)) ∧ StrsAre vs (pcs.take j) ∧ (G, oG) ∈ own ∧ (∀ p ∈ own, p.1 = Lg ∨ p.1 = It ∨ p.1 = G) ∧ (j = 0 → h.objs.size = It) ∧
    ∀ s'' : Shared, (∀ p ∈ own, s''.heap.get? p.1 = some p.2) → s''.heap.get? R = some oR → h₀.StaysIn s''.heap → (j = 0 → s''.heap.objs.size = It) →
      gs'.Goes (model PySem.Challenge.rw_nb0128_01.row.prog w) A.in1 (gR Lg It front N loops) (gY h₀ Lg It R oR front N loops) (N - j) (.send .none) s''
  refine codeAny_forLoop Inv ?_ (mc + 1) ⟨0, s.heap, s.toks, s.gens, [], 0, u0, sz0, [(Lg, oL), (G, oG)], gs, rfl, Nat.zero_le _, rfl, hbare, hgs, F, Nw, .nil, by simp, by simp, fun _ => hsz, fun s'' ho hR hs hz => go s'' (ho (Lg, oL) (by simp)) hR hs (hz rfl)⟩
  rintro k s' ⟨j, h, tk, ge, vs, c, u, sz, own, gs', rfl, hj, rfl, hba, hge, F', N', hS, hGo, hown, hz, go'⟩
  have hGg : h.get? G = some oG := (N' (G, oG) (by simp [hGo])).1
  have hRg : h.get? R = some oR := (N' (R, oR) (by simp [hRn])).1
  have hRlt : R < P := hnL _ hRn
  have hap : ∀ own' : List (Addr × Obj), (∀ p ∈ own', p.1 = Lg ∨ p.1 = It ∨ p.1 = G) → ∀ p ∈ own' ++ news, p.1 ≠ P := fun own' ho p hp => by
    rcases List.mem_append.mp hp with hp | hp
    · rcases ho p hp with e | e | e <;> rw [e] <;> refine neN ?_ <;> omega
    · exact Nat.ne_of_lt (hnL p hp)
  obtain ⟨q, hq⟩ : ∃ q, N - j = q + 1 := ⟨N - j - 1, by omega⟩
  rw [hq] at go'
  have hL₀ : ∀ b, env.locals ≤ b → h₀.get? b = none := fun b hb => Heap.get?_none_of_le (Nat.le_trans F'.above hb)
  have low : ∀ b o, h₀.get? b = some o → b ≠ Lg ∧ b ≠ It := fun b o e => by
    have h1 : @LT.lt Nat _ b h₀.objs.size := Heap.lt_size e
    have h2 := F'.above
    constructor <;> refine neN ?_ <;> omega
  have FK : ∀ h₁ : Heap, (∀ b o, b ≠ Lg → b ≠ It → h.get? b = some o → h₁.get? b = some o) → Fr h₀ env.locals h₁ (cm m₀ (lftS pcs j) u sz) := fun h₁ hk =>
    ⟨F'.ns.at' fun o e => hk _ o (by omega) (by omega) e, fun b o e => hk b o (low b o e).1 (low b o e).2 (F'.keep b o e), F'.above⟩
  have keepP : ∀ h₁ : Heap, (∀ b o, b ≠ Lg → b ≠ It → h.get? b = some o → h₁.get? b = some o) → ∀ p ∈ ((P, listOf vs.toArray c) :: news), h₁.get? p.1 = some p.2 ∧ p.1 ≠ env.locals ∧ h₀.get? p.1 = none := fun h₁ hk p hp => by
    have hlt : @LE.le Nat _ p.1 P := by
      rcases List.mem_cons.mp hp with rfl | hp
      · exact Nat.le_refl _
      · exact Nat.le_of_lt (hnL p hp)
    have z := N' p (by rcases List.mem_cons.mp hp with rfl | hp; simp; simp [hp])
    exact ⟨hk _ _ (by omega) (by omega) z.1, z.2⟩
  refine next_gen (R := gR Lg It front N loops) (Y := gY h₀ Lg It R oR front N loops) (n := q + 1) hA (T.nolimit.keeps F'.keep) hroom (hg _ hGg) hge
    (go' _ (fun p hp => (N' p (by simp [hp])).1) hRg F'.keep hz) (fun v s₁ gs₁ hb hy => ?_) (fun x s₁ hx => .inl ?_)
  · -- it yields
    obtain ⟨⟨h₁, tk₁, rfl, hk₁⟩, ⟨tz, rfl⟩, hlo, oL₁, oI₁, hL₁, hI₁, hkap⟩ := hy
    have ej : N - 1 - (q + 1 - 1) = j := by omega
    rw [ej] at hlo ⊢
    have F₁ := FK h₁ hk₁
    refine wpAny_assign_Name (wpAny_storeName_local hx F₁.ns (fun h₂ hn₂ hs₂ => ?_) hp)
    have F₂ := F₁.set hn₂ hs₂
    rw [cm_size] at F₂
    have hown₂ : ∀ p ∈ [(Lg, oL₁), (It, oI₁), (G, oG)], p.1 = Lg ∨ p.1 = It ∨ p.1 = G := by simp
    have N₂ : News h₀ env.locals h₂ ((P, listOf vs.toArray c) :: ([(Lg, oL₁), (It, oI₁), (G, oG)] ++ news)) := fun p hp => by
      have up : ∀ b o, b ≠ env.locals → h₁.get? b = some o → h₂.get? b = some o := fun b o hb e => hs₂.extBut b o hb e
      have cases4 : p ∈ ((P, listOf vs.toArray c) :: news) ∨ p = (Lg, oL₁) ∨ p = (It, oI₁) ∨ p = (G, oG) := by
        simp only [List.mem_cons, List.cons_append, List.nil_append] at hp ⊢
        rcases hp with h | h | h | h | h <;> simp [h]
      rcases cases4 with hm | rfl | rfl | rfl
      · have z := keepP h₁ hk₁ p hm
        exact ⟨up _ _ z.2.1 z.1, z.2⟩
      · exact ⟨up _ _ (by show Lg ≠ _; omega) hL₁, by show Lg ≠ _; omega, hL₀ _ (Nat.le_of_lt hLL)⟩
      · exact ⟨up _ _ (by show It ≠ _; omega) hI₁, by show It ≠ _; omega, hL₀ _ (by show _ ≤ It; omega)⟩
      · exact ⟨up _ _ (by show G ≠ _; omega) (hk₁ G oG (neN (by omega)) (neN (by omega)) hGg), by show G ≠ _; omega, hL₀ _ (by show _ ≤ G; omega)⟩
    have hge₂ : ((ge.setIfInBounds g .running).setIfInBounds g gs₁)[g]? = some gs₁ := setGen_self (s := { s with gens := ge.setIfInBounds g .running }) (gs := .running) (setGen_self (s := { s with gens := ge }) hge)
    have hba₂ : AllBare ((ge.setIfInBounds g .running).setIfInBounds g gs₁) := allBare_set (allBare_set hba rfl) hb
    refine wpAny_mono (turn j u vs c h₂ (tk₁ + 1) _ _ tz _ ?_ F₂ N₂ (hap _ hown₂) hS) (fun f s₃ hf => ?_) fun _ _ e => e
    · rcases hlo with hlo | hlo
      · by_cases hjm : j < mc
        · exact .inl hjm
        · exact .inr ⟨by omega, hlo⟩
      · exact .inl (by omega)
    · cases f with
      | next =>
        obtain ⟨hjm, h₃, tk₃, vs₃, c₃, u₃, sz₃, rfl, F₃, N₃, S₃⟩ := hf
        refine ⟨mc + 1 - (j + 1), by omega, j + 1, h₃, tk₃, _, vs₃, c₃, u₃, sz₃, _, gs₁, rfl, by omega, rfl, hba₂, hge₂, F₃, N₃, S₃, by simp, hown₂, fun h => absurd h (by omega), fun s'' ho hR hs _ => ?_⟩
        have e : N - (j + 1) = q := by omega
        rw [e]
        rcases hkap with hkap | hkap
        · omega
        · exact hkap s'' (ho (Lg, oL₁) (by simp)) (ho (It, oI₁) (by simp)) hR hs
      | brk =>
        obtain ⟨rfl, h₃, tk₃, vs₃, c₃, u₃, sz₃, rfl, F₃, N₃, S₃⟩ := hf
        exact done vs₃ c₃ u₃ sz₃ h₃ tk₃ _ _ hba₂ S₃ F₃ N₃
      | cont => exact hf.elim
      | ret v => exact hf.elim
  · -- it comes to its end
    obtain ⟨rfl, hlo, hn, h₁, tk₁, rfl, hk₁⟩ := hx
    have hjm : j = mc := by have := hlp hlo; omega
    subst hjm
    refine ⟨rfl, fun h₂ hk₂ => wpAny_execs_nil (done vs c u sz h₂ tk₁ _ [] (allBare_set (allBare_set hba rfl) rfl) hS (FK h₂ fun b o h1 h2 e => hk₂ b o (hk₁ b o h1 h2 e)) ?_)⟩
    intro p hp
    exact keepP h₂ (fun b o h1 h2 e => hk₂ b o (hk₁ b o h1 h2 e)) p (by simpa using hp)
end
end Mine
end

section
open PySem PySem.W PyProof.Rows PySem.Calls
namespace Mine
set_option maxRecDepth 100000
set_option maxHeartbeats 8000000

theorem call_gen_K {prog : Program} {w : World} {A : Around} {s : Shared} {h₀ : Heap} {L : Addr} {m : Str → Option Value} {K : Frag} {Q E : Value → Shared → Prop}
    {name qual : Str} {prm : Arguments} {bd : List Stmt} {sc : Scope} {dV kV doc pm cdv cT oc : Value} {aN oD : Option Addr} {osl : Array (Option Value)} {f : Addr} {args : List Value} {binds : List (Str × Value)}
    (F : Fr h₀ L s.heap m) (X : K.In h₀) (hlim : h₀.NoLimit)
    (ho : K.lookup f = some ⟨oc, oD, .func (fnOf name qual prm bd sc dV kV doc pm aN cdv cT), osl⟩) (hcd : codeIn K cdv qual = true) (hroom : A.depth < recursionLimit)
    (hbind : bindArgs (fnOf name qual prm bd sc dV kV doc pm aN cdv cT) ⟨args, []⟩ = pure binds) (hloc : ∀ y ∈ binds, sc.names.lookup y.1 = some .local)
    (h : ∀ h₁ tk (oG : Obj), oG.isFreed = false → (∀ (h : Heap) (a : Addr), h.get? a = some oG → h.IsGen a s.gens.size) → Fr s.heap s.heap.objs.size h₁ (fun x => binds.reverse.lookup x) → h₁.objs.size = s.heap.objs.size + 1 → (∀ b o, s.heap.get? b = some o → h₁.get? b = some o) →
      Q (.ref h₁.objs.size) { s with gens := s.gens.push (.fresh (.func bd (envOf qual sc s.heap.objs.size f cdv))), toks := tk, heap := h₁.push oG })
    (hco : sc.isCoroutine = false) (hgen : sc.isGenerator = true) (hk : sc.kind = .function) (hcell : ∀ x ∈ sc.names, x.2 ≠ .cell) :
    wpAny (model prog w) A (call (.ref f) args) Q E s := by
  have X' := X.keeps F.keep
  refine wpAny_call (codeAny_call_generator (fd := fnOf name qual prm bd sc dV kV doc pm aN cdv cT) hroom (X' _ _ ho) rfl hco hgen rfl (codeRec_of X' hcd) ?_)
  rw [hbind]
  refine wpAny_pure (wpAny_newFunctionEnv hcell hloc (fun h₁ hns hsb => ⟨(hlim.keeps F.keep).fresh _ hsb, ?_⟩) hk)
  have up : ∀ b o, s.heap.get? b = some o → h₁.get? b = some o := fun b o e => hsb.extBut b o (Nat.ne_of_lt (Heap.lt_size e)) (Heap.get?_push_of_some _ e)
  exact h h₁ _ _ rfl (fun h a e => ⟨_, _, _, e, rfl, rfl, rfl⟩) ⟨hns, up, Nat.le_refl _⟩ (hsb.1.trans (Heap.size_push _ _)) up

abbrev TC (k : Nat) (w : World) (mean : ExcName → Option Value) (mg mb : Str → Option Value) (written : Str) (zs : List Int) (pre : Prop) (tag : Str) (parts : List Str) (left : Str) : Prop :=
  ∀ (news : List (Addr × Obj)) (dp un : Nat) (gd : Option (List Code)) (cn : Str) (cs : Scope) (a : Addr) (ccd : Value) (cl : List (Str × Addr)) (outer : List Env) (A₀ : Around) (base h₀ : Heap) (L R : Addr) (tw : Tok) (vs : List Value) (cR : Nat) (m : Str → Option Value) (s : Shared) (Q E : Value → Shared → Prop),
    Below A₀ base outer h₀ → Fr h₀ L s.heap m → (hd.heap_39 w.params).In h₀ → News h₀ L s.heap news → Top hd.view_39 (looseW hd.view_39 []) mean mg mb h₀ → cs.kind = .function → (R, listOf vs.toArray cR) ∈ news → IntsAre vs zs → AllBare s.gens →
    pre → dp + k < recursionLimit → un + 10 * k < cLine → (∀ (r p : Addr) (a b : Tok) (c cp : Nat) (ps : List Value) (h' : Heap) (tk' : Nat) (ge : Array GenState), AllBare ge → Fr h₀ L h' m → News h₀ L h' ((r, listOf #[.str tag a, .ref p, .str left b] c) :: (p, listOf ps.toArray cp) :: news) → StrsAre ps parts → Q (.ref r) { s with heap := h', toks := tk', gens := ge }) →
      wpAny (model PySem.Challenge.rw_nb0128_01.row.prog w) (ktrTop dp un gd cn cs L a ccd cl outer) (call (.ref 82) [.str written tw, .ref R]) Q E s

theorem cm_intro {m₁ : Str → Option Value} {lf : Str} {u : Tok} (hm : m₁ (Str.ofString "size") = none) : (fun y => if y = Str.ofString "left" then some (.str lf u) else m₁ y) = cm m₁ lf u none := by
  funext y
  by_cases h : y = Str.ofString "size"
  · subst h; simp [cm, hm]
  · simp [cm, h]

theorem news_gen {h₀ h h₁ : Heap} {L P : Addr} {oP oL oG : Obj} {news : List (Addr × Obj)} {m : Str → Option Value} (F : Fr h₀ L h m) (N : News h₀ L h ((P, oP) :: news)) (hsz : h₁.objs.size = h.objs.size + 1)
    (up : ∀ b o, h.get? b = some o → h₁.get? b = some o) (hoL : h₁.get? h.objs.size = some oL) (hGf : oG.isFreed = false) : News h₀ L (h₁.push oG) ((P, oP) :: ([(h.objs.size, oL), (h₁.objs.size, oG)] ++ news)) := by
  have hL₀ : ∀ b : Addr, L ≤ b → h₀.get? b = none := fun b hb => Heap.get?_none_of_le (Nat.le_trans F.above hb)
  intro p hp
  have c4 : p ∈ ((P, oP) :: news) ∨ p = (h.objs.size, oL) ∨ p = (h₁.objs.size, oG) := by
    simp only [List.mem_cons, List.cons_append, List.nil_append] at hp ⊢
    rcases hp with h | h | h | h
    · exact .inl (.inl h)
    · exact .inr (.inl h)
    · exact .inr (.inr h)
    · exact .inl (.inr h)
  rcases c4 with hm | rfl | rfl
  · have z := N p hm
    exact ⟨Heap.get?_push_of_some _ (up _ _ z.1), z.2⟩
  · exact ⟨Heap.get?_push_of_some _ hoL, Nat.ne_of_gt F.ns.lt, hL₀ _ (Nat.le_of_lt F.ns.lt)⟩
  · refine ⟨Heap.get?_push_size _ hGf, ?_, hL₀ _ ?_⟩
    · show h₁.objs.size ≠ _
      rw [hsz]; exact Nat.ne_of_gt (Nat.lt_succ_of_lt F.ns.lt)
    · show _ ≤ h₁.objs.size
      rw [hsz]; exact Nat.le_succ_of_le (Nat.le_of_lt F.ns.lt)

theorem slice_right {x : Str} {a b : List Nat} (h : x.cps.toList = a ++ b) (hb : 0 < b.length) : Txt.slice x (some (-(b.length : Int))) none = ⟨b.toArray⟩ := by
  have hl : x.length = a.length + b.length := by have := congrArg List.length h; simpa [Str.length] using this
  have e := eq_of_beq (slice_closes_from_neg (x := x) (i := -(b.length : Int)) (a := (a.length : Int)) (b := (x.length : Int)) (by omega) (by omega) (by omega) rfl)
  rw [e, h]
  refine congrArg Str.mk (congrArg List.toArray ?_)
  have e1 : ((a.length : Int)).toNat = a.length := by omega
  have e2 : ((x.length : Int) - (a.length : Int)).toNat = b.length := by omega
  rw [e1, e2, List.drop_left, List.take_length]
theorem slice_left {x : Str} {a b : List Nat} (h : x.cps.toList = a ++ b) (hb : 0 < b.length) : Txt.slice x none (some (-(b.length : Int))) = ⟨a.toArray⟩ := by
  have hl : x.length = a.length + b.length := by have := congrArg List.length h; simpa [Str.length] using this
  have e := eq_of_beq (slice_closes_to_neg (x := x) (j := -(b.length : Int)) (k := (a.length : Int)) (by omega) (by omega) (by omega))
  rw [e, h]
  refine congrArg Str.mk (congrArg List.toArray ?_)
  have e1 : ((0 : Int)).toNat = 0 := rfl
  have e2 : ((a.length : Int) - 0).toNat = a.length := by omega
  rw [e1, e2, List.drop_zero, List.take_left]
theorem lft_split (pcs : List Str) {j : Nat} (hj : j < pcs.length) : (lftS pcs j).cps.toList = (lftS pcs (j + 1)).cps.toList ++ (pcs.getD j ⟨#[]⟩).cps.toList := by
  unfold lftS catS
  have e : pcs.drop j = pcs.getD j ⟨#[]⟩ :: pcs.drop (j + 1) := by
    rw [List.getD_eq_getElem?_getD, List.getElem?_eq_getElem hj]
    exact List.drop_eq_getElem_cons hj
  rw [e]
  simp
theorem lft_ne (pcs : List Str) {j : Nat} (hj : j < pcs.length) (hp : 0 < (pcs.getD j ⟨#[]⟩).length) : lftS pcs j ≠ Str.ofString "" := by
  intro e
  have h0 : (Str.ofString "").cps.toList = [] := by decide +kernel
  have h1 := lft_split pcs hj
  rw [e, h0] at h1
  have h2 := (List.append_eq_nil_iff.mp h1.symm).2
  have h3 : (pcs.getD j ⟨#[]⟩).length = (pcs.getD j ⟨#[]⟩).cps.toList.length := rfl
  rw [h3, h2] at hp
  exact absurd hp (Nat.lt_irrefl _)
theorem lft_le (pcs : List Str) (j : Nat) : (lftS pcs j).length ≤ (lftS pcs 0).length := by
  induction j with
  | zero => exact Nat.le_refl _
  | succ j ih =>
    by_cases hj : j < pcs.length
    · have := congrArg List.length (lft_split pcs hj)
      simp [Str.length] at this ih ⊢
      omega
    · have : pcs.drop (j + 1) = [] := List.drop_eq_nil_of_le (by omega)
      have e : (lftS pcs (j + 1)).length = 0 := by unfold lftS catS; rw [this]; rfl
      omega

theorem CutPost.next' {h₀ : Heap} {L P : Addr} {m₀ : Str → Option Value} {rest : List (Addr × Obj)} {s : Shared} {ge : Array GenState} {pcs : List Str} {mc j : Nat} {h' : Heap} {tk' c' : Nat} {vs' : List Value} {u u' t : Tok} {sz : Option Value} {lf lf' pc : Str} {ar : Array Value}
    (hj : j < mc) (hjp : j < pcs.length) (F : Fr h₀ L h' (fun y => if y = Str.ofString "left" then some (.str lf' u') else cm m₀ lf u sz y)) (N : News h₀ L h' ((P, listOf ar c') :: rest)) (e : ar = (vs' ++ [Value.str pc t]).toArray) (S : StrsAre vs' (pcs.take j))
    (hlf : lf' = lftS pcs (j + 1)) (hpc : pc = pcs.getD j ⟨#[]⟩) : CutPost h₀ L P m₀ rest s ge pcs mc j .next { s with heap := h', toks := tk', gens := ge } := by
  subst hlf hpc e
  rw [cm_left] at F
  refine ⟨hj, h', tk', _, c', u', sz, rfl, F, N, ?_⟩
  have e : pcs.take (j + 1) = pcs.take j ++ [pcs.getD j ⟨#[]⟩] := by
    rw [List.take_add_one, List.getD_eq_getElem?_getD, List.getElem?_eq_getElem hjp]; rfl
  rw [e]
  exact S.append' (.cons _ _ .nil)

theorem ret_cut {h₀ : Heap} {L : Addr} {m : Str → Option Value} {s : Shared} {Q : Value → Shared → Prop} {news : List (Addr × Obj)} {tag left : Str} {parts : List Str} {r p : Addr} {a b : Tok} {c cp tk' : Nat} {ps : List Value} {h' : Heap} {led : List (Addr × Obj)} {ge : Array GenState}
    (hret : ∀ (r p : Addr) (a b : Tok) (c cp : Nat) (ps : List Value) (h' : Heap) (tk' : Nat) (ge : Array GenState), AllBare ge → Fr h₀ L h' m → News h₀ L h' ((r, listOf #[.str tag a, .ref p, .str left b] c) :: (p, listOf ps.toArray cp) :: news) → StrsAre ps parts → Q (.ref r) { s with heap := h', toks := tk', gens := ge })
    (hb : AllBare ge) (F : Fr h₀ L h' m) (N : News h₀ L h' led) (hr : (r, listOf #[.str tag a, .ref p, .str left b] c) ∈ led) (hp : (p, listOf ps.toArray cp) ∈ led) (hn : ∀ q ∈ news, q ∈ led) (S : StrsAre ps parts) : Q (.ref r) { s with heap := h', toks := tk', gens := ge } :=
  hret r p a b c cp ps h' tk' ge hb F (fun q hq => N q (by
    rcases List.mem_cons.mp hq with rfl | hq
    · exact hr
    · rcases List.mem_cons.mp hq with rfl | hq
      · exact hp
      · exact hn q hq)) S

local macro_rules | `(tactic| walk_at "call builtin:list.append") => `(tactic| (k_here; (with_reducible show wpAny _ _ (call (Value.builtin _) [Value.ref _, _]) _ _ _); k_dflt (refine' append_K ?k1 ?k2 (Upd.head ?k3) ?_ ?z; (case k1 => k_asm); (case k2 => k_asm); (case k3 => assumption); (case z => (simp only [sizeLine_eq, List.size_toArray]; omega)); k_whole); intro h' F' N'; (try k_sweep)))

theorem law_cut {w mean mg mb} (front tail : List Int) (pcs : List Str) (mc : Nat) (loops : Bool) (hne : front ≠ []) (hfr : ∀ z ∈ front, z ≠ 0 ∧ z ≠ 127) (hfl : front.length ≤ mc) (hlp : loops = false → mc = front.length) (hmc : mc ≤ 100)
    (hps : ∀ j, j < mc → outv front j = ((pcs.getD j ⟨#[]⟩).length : Int)) (hpp : ∀ j, j < mc → 0 < (pcs.getD j ⟨#[]⟩).length) (hmp : mc ≤ pcs.length) (hlo : loops = true → mc = pcs.length) (hbd : (lftS pcs 0).length ≤ 1000)
    (htl : (tail = [] ∧ loops = false) ∨ (∃ r, tail = 127 :: r ∧ loops = false) ∨ (∃ r, tail = 0 :: r ∧ loops = true)) :
    TC 6 w mean mg mb (lftS pcs 0) (front ++ tail) (mc ≤ 100) (Str.ofString "cut") (pcs.take mc) (lftS pcs mc) := by
  unfold TC; k_fill
  intro news dp un gd cn cs a ccd cl outer A₀ base h₀ L R tw vs cR m s Q E h1 h2 h3 h4 h5 h6 hRm hI hba hpre h8 h9 hret
  refine wpAny_call ?_
  k_dflt cell_enter
  iterate 16 walk1
  refine wpAny_For ?_
  k_steps
  k_dflt (refine' call_gen_K ?F ?X ?hl ?ho ?hcd ?hroom ?hbind ?hloc ?_ ?c1 ?c2 ?c3 ?c4)
  case F => k_asm
  case X => k_asm
  case hl => exact Top.nolimit (by k_asm)
  case ho => k_is
  case hcd => k_is
  case hroom => ktr_room
  case hbind => exact rfl
  case hloc => exact locs rfl
  case c1 => exact rfl
  case c2 => exact rfl
  case c3 => exact rfl
  case c4 => decide
  (rename Fr _ _ _ _ => Fc)
  (rename News _ _ _ _ => Nc)
  (rename (∀ p ∈ news, p.1 < _) => lt1)
  (rename Top _ _ _ _ _ _ => Tc)
  (rename Frag.In _ _ => Xc)
  intro h₁ tk₁ oG hGf hGi FL hsz₁ up
  refine wpAny_pyIter_gen (hGi _ _ (Heap.get?_push_size _ hGf)) ?_
  obtain ⟨oL, es, ep, hoL, hdL, hrL⟩ := FL.ns
  have hPs := Nc _ (List.mem_cons_self ..)
  have hRs := Nc _ (List.mem_cons_of_mem _ hRm)
  have push : ∀ b o, h₁.get? b = some o → (h₁.push oG).get? b = some o := fun b o e => Heap.get?_push_of_some _ e
  have hoR : ∀ h : Heap, h.get? R = some (listOf vs.toArray cR) → h.IsList R vs.toArray := fun h e => ⟨_, e, rfl, _, rfl⟩
  have Fc' := Fc.keeps (fun b o e => push b o (up b o e))
  rw [cm_intro rfl] at Fc'
  have hsz₂ : h₁.objs.size = _ + 1 := hsz₁
  refine cut_loop (It := h₁.objs.size + 1) (oR := listOf vs.toArray cR) (front := front) (N := mc + 3) (loops := loops) (pcs := pcs) (mc := mc) (oL := oL) (oG := oG) Tc rfl (by ktr_room) rfl rfl rfl
    (Heap.lt_size hPs.1) Fc.ns.lt hsz₁ (congrArg (· + 1) hsz₁) lt1 hRm (by omega) hfl hlp Fc' ?Nw (fun h e => hGi h _ e) (Array.getElem?_push_size ..) (hba.push rfl) (Heap.size_push _ _) ?go ?turn ?done
  case Nw => exact news_gen Fc Nc hsz₁ up hoL hGf
  case go =>
    intro s'' a1 a2 a3 a4
    refine ⟨rfl, ?_⟩
    exact gen_start (front := front) (mf := fun x => _) Xc Tc hI hoR (Nat.ne_of_gt (Heap.lt_size hRs.1)) hne hfr (by omega) htl rfl ⟨⟨oL, es, ep, a1, hdL, hrL⟩, a3, Nat.le_trans Fc.above (Nat.le_of_lt Fc.ns.lt)⟩ rfl a2 a4.symm
  case turn =>
    intro j u vs' c' h tk ge own tz E' hj F' N' hap hS
    have hbj : (lftS pcs j).length ≤ 1000 := Nat.le_trans (lft_le pcs j) hbd
    have hvl : vs'.length ≤ j := by rw [hS.length]; simp; omega
    clear Fc' Fc Nc FL
    rcases hj with hj | ⟨rfl, hj⟩
    · have h1 := hps j hj
      have h2 := hpp j hj
      have hjp : j < pcs.length := Nat.lt_of_lt_of_le hj hmp
      have hsp := lft_split pcs hjp
      k_steps
      · exfalso
        (rename (lftS pcs j == Str.ofString "") = true => hz)
        exact lft_ne pcs hjp h2 (eq_of_beq hz)
      · exact CutPost.next' hj hjp (by k_asm) (by k_asm) (List.push_toArray ..) hS (by rw [h1]; exact slice_left hsp h2) (by rw [h1]; exact slice_right hsp h2)
    · have hemp : lftS pcs j = Str.ofString "" := by
        have : pcs.drop j = [] := List.drop_eq_nil_of_le (by have := hlo hj; omega)
        unfold lftS catS; rw [this]; decide
      k_steps
      · show CutPost _ _ _ _ _ _ _ _ _ _ .brk _
        exact ⟨rfl, _, _, _, _, _, _, rfl, by k_asm, by k_asm, hS⟩
      · exfalso
        (rename (lftS pcs j == Str.ofString "") = false => hz)
        rw [hemp] at hz
        exact absurd hz (by decide +kernel)
  case done =>
    intro vs' c' u sz h tk ge own hb hS F' N'
    clear Fc' Fc Nc FL
    k_steps
    exact ret_cut hret hb (by k_asm) (by k_asm) (by k_mem) (by k_mem) (fun q hq => List.mem_cons_of_mem _ (List.mem_cons_of_mem _ (List.mem_append_right _ hq))) hS
end Mine
end

section
open PySem PySem.W PyProof.Rows PySem.Calls
namespace Mine
set_option maxRecDepth 100000
set_option maxHeartbeats 8000000

theorem noValueError (P : Params) : nsIn (hd.heap_39 P) mainGlobals (Str.ofString "ValueError") = some none := by kernel_rfl
theorem bootValueError : bootBuiltins (Str.ofString "ValueError") = some (.type "ValueError") := by first | boot_fast | kernel_rfl

def rR (base gH : Heap) (outerC : List Env) (news : List (Addr × Obj)) : GenEnd := fun _ s₀ r s₁ =>
  ∃ e t vs h' tk', r = .error (.ref e) ∧ s₁ = { s₀ with heap := h', toks := tk' } ∧ RaisedS base gH outerC e (.type "ValueError") t vs news h' ∧ gH.UpToSlots h'

section
variable {w : World} {A : Around} {base gH : Heap} {outerC : List Env} {Lg R : Addr} {cd : Value} {oR : Obj} {news : List (Addr × Obj)} {Y : Protocol} {n : Nat}

def ownBack (env : Env) (x : Value) : Sem Unit := do
  if (← field x 1) == Value.none then unsupported "frame.own-activation:exception-without-traceback"
  setFlight x env.frame

/-- an exception that leaves a loop of the generator's own body, and the generator -/
theorem seg_loopE {prog : Program} {R : GenEnd} {s₀ s : Shared} {bd : List Stmt} {env : Env} {e : Value} {cF : Code} {p : Pos} {K0 : Flow → Sem PySem.Fin} {B : Around}
    (hAA : A.over cF [.ret (afterLoop env K0 (fun e => (leaving env e).wrap (fun _ => .raise e) .raise id id) id id) none (id false) (id []) (.func bd env) p []] = A.over (.func bd env) [])
    (h : wpAny (model prog w) B (leaving env e) (fun _ s₃ => R n s₀ (.error e) s₃) (fun _ _ => False) s) (hB : A.over (.func bd env) [] = B) :
    Seg (model prog w) A R Y n s₀ cF (loopE env e) [.ret (afterLoop env K0 (fun e => (leaving env e).wrap (fun _ => .raise e) .raise id id) id id) none (id false) (id []) (.func bd env) p []] s := by
  subst hB
  have again := wpAny_leaving_again (A' := A.over (.func bd env) []) (A'' := A.over (.func bd env) []) (SameStack.refl _) (what := "frame.own-activation:exception-without-traceback") (E₂ := fun _ _ => False) (E₃ := fun _ _ => False) h
  show Seg _ A R Y n s₀ cF ((do noteFrame e env; theTreesLotGoes e : Sem Unit).bind fun _ => .raise e) _ s
  rw [Sem.bind_eq_wrap]
  refine seg_wrap ?_
  rw [hAA]
  refine wpAny_bind (wpAny_mono again (fun _ s₁ h₁ => wpAny_theTreesLotGoes ?_) fun _ _ x => x.elim)
  refine seg_leaf (.error e) ?_
  show Seg _ A R Y n s₀ (.func bd env) ((ownBack env e >>= fun _ => (.raise e : Sem Flow)).wrap _ _ id id) [] s₁
  refine seg_bw (wpAny_mono h₁ (fun _ s₂ h₂ => ?_) fun _ _ x => x.elim)
  show Seg _ A R Y n s₀ (.func bd env) ((leaving env e).wrap (fun _ => .raise e) .raise id id) [] s₂
  exact seg_wrap (wpAny_mono h₂ (fun _ s₃ h₃ => seg_end (.error e) h₃) fun _ _ x => x.elim)

theorem gen_raise {mean : ExcName → Option Value} {mg mb : Str → Option Value} {q0 q1 q2 q3 q4 q5 q6 q7 q8 q9 q10 q11 q12 q13 q14 q15 q16 q17 q18 q19 q20 q21 q22 q23 q24 q25 q26 q27 q28 q29 r1 r2 r3 r4 : Pos} {msg : Str} {vs : List Value} {t0 : Tok} {s : Shared} {mf : Str → Option Value}
    (Bl : Below A base outerC gH) (X : (hd.heap_39 w.params).In gH) (T : Top hd.view_39 (looseW hd.view_39 []) mean mg mb gH) (hA : A.handled = none)
    (F : Fr gH Lg s.heap mf) (N : News gH Lg s.heap news) (hgr : mf (Str.ofString "grouping") = some (.ref R)) (hRm : (R, oR) ∈ news) (hoR : ∀ h : Heap, h.get? R = some oR → h.IsList R vs.toArray) (hv : vs[0]? = some (.int 0 t0)) :
    Seg (model PySem.Challenge.rw_nb0128_01.row.prog w) A (rR base gH outerC news) Y n s
      (.func (gFor q0 q1 q2 q3 q4 q5 q6 q7 q8 q9 q10 q11 q12 q13 q14 q15 q16 q17 q18 q19 q20 q21 q22 q23 q24 q25 q26 q27 q28 q29 (.Raise (some (.Call (.Name (Str.ofString "ValueError") r1) [.Constant (.str msg) 0 r2] [] r3)) none r4)) (gE Lg cd))
      ((model PySem.Challenge.rw_nb0128_01.row.prog w).den (.func (gFor q0 q1 q2 q3 q4 q5 q6 q7 q8 q9 q10 q11 q12 q13 q14 q15 q16 q17 q18 q19 q20 q21 q22 q23 q24 q25 q26 q27 q28 q29 (.Raise (some (.Call (.Name (Str.ofString "ValueError") r1) [.Constant (.str msg) 0 r2] [] r3)) none r4)) (gE Lg cd))) [] s := by
  refine seg_func (seg_execs_cons (seg_wrap (wpAny_Assign_Name (Constant_none (stN F N fun h₁ F₁ N₁ => ?_)))))
  have hgr₁ : (fun x => if x = Str.ofString "last_interval" then some Value.none else mf x) (Str.ofString "grouping") = some (.ref R) := by
    show (if _ then _ else _) = _
    rw [if_neg (by decide)]; exact hgr
  refine seg_execs_cons (seg_For (ld F₁ hgr₁ (wpAny_pyIter_list (hoR _ (N₁ _ hRm).1) fun p => ?_)))
  have F₂ := F₁.push { cls := .type "list_iterator", data := .fields #[.ref R, .int 0 0] }
  have N₂ : News gH Lg (h₁.push { cls := .type "list_iterator", data := .fields #[.ref R, .int 0 0] }) news := fun p hp => ⟨Heap.get?_push_of_some _ (N₁ p hp).1, (N₁ p hp).2⟩
  have hI₀ : gH.get? h₁.objs.size = none := next_is_new F₁
  have hLI : Lg ≠ h₁.objs.size := Nat.ne_of_lt F₁.ns.lt
  have hnI : ∀ p ∈ news, p.1 ≠ h₁.objs.size := fun p hp => Nat.ne_of_lt (Heap.lt_size (N₁ p hp).1)
  refine seg_forLoop (wpAny_pyNext_list_item (i := 0) ⟨_, Heap.get?_push_size _ rfl, rfl, rfl⟩ (hoR _ (N₂ _ hRm).1) (x := .int 0 t0) (by simpa using hv) fun h₃ hit₃ hs₃ => ?_)
  have F₃ : Fr gH Lg h₃ _ := LCg.fr_but F₂ (fun b o hb e => hs₃.extBut b o (by simpa using hb) e) hLI hI₀
  have N₃ : News gH Lg h₃ news := LCg.news_but N₂ (fun b o hb e => hs₃.extBut b o (by simpa using hb) e) hnI
  refine wpAny_assign_Name (stN (s := { s with heap := h₃, toks := s.toks + 1 }) F₃ N₃ fun h₄ F₄ N₄ => ?_)
  refine seg_execs_cons (seg_wrap (wpAny_If (wpAny_isTrue_Compare1 (ld F₄ (if_pos rfl) (name_K F₄ X (topRead_of T) (charmax w.params) (eq_int (wpAny_truthy_bool ?_)))) (by rfl))))
  rw [if_neg (by decide)]
  refine wpAny_execs_nil ?_
  refine seg_execs_cons (seg_If (wpAny_isTrue_Compare1 (ld F₄ (if_pos rfl) (wpAny_Constant_int (eq_int (wpAny_truthy_bool ?_)))) (by rfl)))
  rw [if_pos (by rfl)]
  have hml : (fun y => if y = Str.ofString "interval" then some (Value.int 0 t0) else if y = Str.ofString "last_interval" then some Value.none else mf y) (Str.ofString "last_interval") = some .none := by
    show (if _ then _ else _) = _
    rw [if_neg (by decide), if_pos rfl]
  refine seg_execs_cons (seg_wrap (wpAny_If (wpAny_isTrue_Compare1 (ld F₄ hml (Constant_none (is_none_none (wpAny_truthy_bool ?_)))) (by rfl))))
  rw [if_pos (by rfl)]
  have hh : ∀ c fs, (∀ x, marksOver fs x = x) → (A.over c fs).handled = none := fun c fs hm => by
    show (marksOver fs (A.handled, A.handled)).1 = none
    rw [hm]; exact hA
  refine wpAny_execs_cons (wpAny_Raise_call PySem.F.excCall_ValueError PySem.F.excRaise_ValueError (hh _ _ fun x => rfl) (by rfl) (name_B F₄ X (topRead_of T) (noValueError w.params) bootValueError (by decide) ⟨rfl, evalArgs_plain (spliced_more (Calls.Constant_str (spliced_none ⟨rfl, (by size_fits), fun h₅ e hx => ?_⟩)))⟩))
  -- the exception goes out of the loop, out of the generator
  have eA : A.over (.func (gFor q0 q1 q2 q3 q4 q5 q6 q7 q8 q9 q10 q11 q12 q13 q14 q15 q16 q17 q18 q19 q20 q21 q22 q23 q24 q25 q26 q27 q28 q29 (.Raise (some (.Call (.Name (Str.ofString "ValueError") r1) [.Constant (.str msg) 0 r2] [] r3)) none r4)) (gE Lg cd)) [] = A.deeper (gE Lg cd) := by
    rfl
  have hleave := leave_raiseS (E := fun _ _ => False) (Q := fun _ s₃ => rR base gH outerC news n s (.error (.ref e)) s₃) (name := Str.ofString "_grouping_intervals") (scope := gscope) (a := 21) (cd := cd)
    (s' := { s with heap := h₅, toks := s.toks + 1 + 1 + 1 + 1 }) (M := model PySem.Challenge.rw_nb0128_01.row.prog w) Bl hx.of F₄ N₄ (fun h' t RS _ up => ⟨e, t, _, h', _, rfl, rfl, RS, up⟩)
  refine seg_loopE ?_ hleave eA
  exact rfl
end
end Mine
end

section
open PySem PySem.W PyProof.Rows PySem.Calls
namespace Mine
set_option maxRecDepth 100000
set_option maxHeartbeats 8000000

/-- a call out of the outermost frame, into a def that catches -/
theorem enter_catching {prog : Program} {w : World} {A₀ A : Around} {s : Shared} {base h₀ : Heap} {L : Addr} {m : Str → Option Value} {env : Env} {news : List (Addr × Obj)} {K : Frag} {p : Program} {loose : List Str} {mean : ExcName → Option Value} {mg mb : Str → Option Value}
    {R : Result → Shared → Prop} {name qual : Str} {prm : Arguments} {bd : List Stmt} {sc : Scope} {dV kV doc pm cdv cT oc : Value} {aN oD : Option Addr} {osl : Array (Option Value)} {f : Addr} {args : Args} {binds : List (Str × Value)}
    (B : Below A₀ base [] h₀) (F : Fr h₀ L s.heap m) (X₀ : K.In h₀) (N : News h₀ L s.heap news) (T : Top p loose mean mg mb h₀) (hA : A.frames = some [env]) (hf : env.frame = some L) (hke : env.scope.kind = .function)
    (ho : K.lookup f = some ⟨oc, oD, .func (fnOf name qual prm bd sc dV kV doc pm aN cdv cT), osl⟩) (hcd : codeIn K cdv qual = true) (hroom : A.depth < recursionLimit)
    (hbind : BindsTo s (fnOf name qual prm bd sc dV kV doc pm aN cdv cT) args binds) (hloc : ∀ y ∈ binds, sc.names.lookup y.1 = some .local)
    (h : ∀ g L' h₁, Fr h₀ L g m → Fr g L' h₁ (fun y => binds.reverse.lookup y) → News g L' h₁ news → Below A base [env] g → K.In g → Top p loose mean mg mb g → KtsDicts ([env].filterMap (·.frame)) g →
      wpAny (model prog w) (A.deeper (envOf qual sc L' f cdv)) (execs bd (envOf qual sc L' f cdv))
        (fun fl s' => LeaveS0 ([env].filterMap (·.frame)) h₀ L m g R (match fl with | .ret v => v | _ => .none) s')
        (fun e s' => wpAny (model prog w) (A.deeper (envOf qual sc L' f cdv)) (leaving (envOf qual sc L' f cdv) e) (fun _ s'' => R (.error e) s'') (fun e' s'' => R (.error e') s'') s')
        { s with heap := h₁, toks := s.toks + binds.length })
    (hco : sc.isCoroutine = false) (hgen : sc.isGenerator = false) (hk : sc.kind = .function) (hcell : ∀ x ∈ sc.names, x.2 ≠ .cell) : codeAny (model prog w) A (.call (.ref f) args) R s := by
  obtain ⟨FG, BG, st, _⟩ := groundX (R := R) B F N hA hf hke
  have X := X₀.keeps F.keep
  have hfl : [env].filterMap (·.frame) = [L] := by simp [hf]
  have nL₀ : h₀.get? L = none := Heap.get?_none_of_le F.above
  obtain ⟨oL, es, ep, hoL, hdL, hkL, hrL⟩ := FG.ns
  refine codeAny_call_def (fd := fnOf name qual prm bd sc dV kV doc pm aN cdv cT) (body := bd) (binds := binds) hroom (X _ _ ho) rfl (T.nolimit.keeps F.keep) (codeRec_of X hcd) rfl hbind hcell hloc (fun h₁ hns hk₁ => ?_) hco hgen hk
  refine wpAny_mono (h _ s.heap.objs.size h₁ FG ⟨hns, fun b o e => hk₁ b o (of_hideAll _ e), Nat.le_of_eq (hideAll_size _ _)⟩
    (fun q hq => ⟨hk₁ _ _ (N q hq).1, Nat.ne_of_lt (Heap.lt_size (N q hq).1), hideAll_none _ (List.mem_map_of_mem hq)⟩) BG (X₀.keeps st) (T.keeps st) (fun b hb => ?_)) (fun fl s' hl => ?_) fun _ _ y => y
  · rw [hfl] at hb
    rw [List.mem_singleton.mp hb]
    exact ⟨oL, es, ep, hoL, hdL⟩
  · obtain ⟨g', L', m', news', T', F', N', k⟩ := hl
    rw [hfl] at T'
    obtain ⟨sl, hs⟩ := T'.frame L oL hoL (List.mem_singleton.mpr rfl)
    refine k ⟨⟨_, es, ep, F'.keep _ _ hs, hdL, hkL, hrL⟩, fun b o e => F'.keep b o (T'.other b o (st b o e) fun hb => ?_), F.above⟩ fun q hq => ⟨(N' q hq).1, fun z => ?_, ?_⟩
    · rw [List.mem_singleton.mp hb, nL₀] at e; cases e
    · have z' := (N' q hq).2.2
      rw [z, hs] at z'; cases z'
    · cases e : h₀.get? q.1 with
      | none => rfl
      | some o =>
        obtain ⟨sl', hs'⟩ := T'.up (st _ _ e)
        have z' := (N' q hq).2.2
        rw [hs'] at z'; cases z'

theorem sub_ve_base : isSubtype (.type "ValueError") (.type "BaseException") = pure true := by rw [isSubtype_type]; kernel_rfl
theorem sub_ve_self : isSubtype (.type "ValueError") (.type "ValueError") = pure true := by rw [isSubtype_type]; kernel_rfl
theorem meta_ve_tuple : isSubtype (.type ((Manifest.find? "ValueError").elim "type" fun y => y.metatype)) (.type "tuple") = pure false := by rw [isSubtype_type]; kernel_rfl

abbrev TCR (k : Nat) (w : World) (mean : ExcName → Option Value) (mg mb : Str → Option Value) (written : Str) (rest : List Int) (tag : Str) (parts : List Str) (left : Str) : Prop :=
  ∀ (news : List (Addr × Obj)) (dp un : Nat) (gd : Option (List Code)) (cn : Str) (cs : Scope) (a : Addr) (ccd : Value) (cl : List (Str × Addr)) (A₀ : Around) (h₀ : Heap) (L R : Addr) (tw : Tok) (vs : List Value) (cR : Nat) (m : Str → Option Value) (s : Shared) (Q E : Value → Shared → Prop),
    Below A₀ h₀ [] h₀ → Fr h₀ L s.heap m → (hd.heap_39 w.params).In h₀ → News h₀ L s.heap news → Top hd.view_39 (looseW hd.view_39 []) mean mg mb h₀ → cs.kind = .function → (R, listOf vs.toArray cR) ∈ news → IntsAre vs (0 :: rest) → AllBare s.gens →
    dp + k < recursionLimit → un + 10 * k < cLine → (∀ (r p : Addr) (a b : Tok) (c cp : Nat) (ps : List Value) (h' : Heap) (tk' : Nat) (ge : Array GenState), AllBare ge → Fr h₀ L h' m → News h₀ L h' ((r, listOf #[.str tag a, .ref p, .str left b] c) :: (p, listOf ps.toArray cp) :: news) → StrsAre ps parts → Q (.ref r) { s with heap := h', toks := tk', gens := ge }) →
      wpAny (model PySem.Challenge.rw_nb0128_01.row.prog w) (ktrTop dp un gd cn cs L a ccd cl []) (call (.ref 82) [.str written tw, .ref R]) Q E s

abbrev cutScope : Scope := { kind := ScopeKind.function, names := [(Str.ofString "written", NameKind.local), (Str.ofString "row", NameKind.local), (Str.ofString "parts", NameKind.local), (Str.ofString "left", NameKind.local), (Str.ofString "size", NameKind.local), (Str.ofString "_grouping_intervals", NameKind.globalImplicit), (Str.ofString "ValueError", NameKind.globalImplicit)], isGenerator := false, isCoroutine := false }
theorem law_refused {w mean mg mb} (written : Str) (rest : List Int) : TCR 6 w mean mg mb written rest (Str.ofString "refused") [] written := by
  unfold TCR; k_fill
  intro news dp un gd cn cs a ccd cl A₀ h₀ L R tw vs cR m s Q E h1 h2 h3 h4 h5 h6 hRm hI hba h8 h9 hret
  refine wpAny_call ?_
  k_dflt (refine' enter_catching ?k1 ?k2 ?k3 ?k4 ?k5 ?kA ?kF ?kK ?k6 ?k7 ?k8 ?k9 ?kB ?_ ?c2 ?c3 ?c4 ?c5; (case kA => exact rfl); (case kF => exact rfl); (case kK => assumption); (case k1 => k_asm); (case k2 => k_asm); (case k3 => k_asm); (case k4 => k_asm); (case k5 => k_asm); (case k6 => k_is); (case k7 => k_is); (case k8 => ktr_room); (case k9 => exact BindsTo.of_eq rfl); (case c5 => decide); (case kB => exact locs rfl); (case c2 => exact rfl); (case c3 => exact rfl); (case c4 => exact rfl); k_whole; intro g' L' h' FG' F' N' B' X' T' D'; (try dsimp only); (try k_lift B'); (try k_fold))
  iterate 16 walk1
  refine wpAny_For ?_
  k_steps
  k_dflt (refine' call_gen_K ?F ?X ?hl ?ho ?hcd ?hroom ?hbind ?hloc ?_ ?c1 ?c2 ?c3 ?c4)
  case F => k_asm
  case X => k_asm
  case hl => exact Top.nolimit (by k_asm)
  case ho => k_is
  case hcd => k_is
  case hroom => ktr_room
  case hbind => exact rfl
  case hloc => exact locs rfl
  case c1 => exact rfl
  case c2 => exact rfl
  case c3 => exact rfl
  case c4 => decide
  (rename Fr _ _ _ _ => Fc)
  (rename News _ _ _ _ => Nc)
  intro h₁ tk₁ oG hGf hGi FL hsz₁ up
  refine wpAny_pyIter_gen (hGi _ _ (Heap.get?_push_size _ hGf)) ?_
  rename_i P _ _ _ _ hc
  obtain ⟨oL, es, ep, hoL, hdL, hrL⟩ := FL.ns
  obtain ⟨FG₂, BG₂, st₂, _⟩ := groundX (s := { s with heap := _ }) (A := ((ktrTop dp un gd cn cs L a ccd cl []).deeper (envOf (Str.ofString "_law_cut") cutScope L' 82 (.ref 81))).in1) (R := fun _ _ => True) B' Fc Nc rfl rfl rfl
  have hv : ∃ t0, vs[0]? = some (.int 0 t0) := by
    cases hI with
    | cons => exact ⟨_, rfl⟩
  obtain ⟨t0, hv⟩ := hv
  have hoR : ∀ h : Heap, h.get? R = some (listOf vs.toArray cR) → h.IsList R vs.toArray := fun h e => ⟨_, e, rfl, _, rfl⟩
  have push : ∀ b o, h₁.get? b = some o → (h₁.push oG).get? b = some o := fun b o e => Heap.get?_push_of_some _ e
  have hP0 := Nc _ (List.mem_cons_self ..)
  refine codeAny_forLoop (fun _ s' => s' = _) ?_ 0 rfl
  rintro n s' rfl
  refine next_gen (R := rR h₀ (hideAll hc (List.map (fun x => x.fst) ((P, listOf #[] 0) :: news))) (envOf (Str.ofString "_law_cut") cutScope L' 82 (.ref 81) :: [envX cn cs L a ccd cl]) ((h₁.objs.size, oG) :: (P, listOf #[] 0) :: news)) (Y := fun _ _ _ _ _ => False) (n := 0) rfl ?nl ?rm (hGi _ _ (Heap.get?_push_size _ hGf)) (Array.getElem?_push_size ..) ?go ?hY ?hR
  case nl => exact T'.nolimit.keeps fun b o e => push _ _ (up b o (Fc.keep b o e))
  case rm => ktr_room
  case hY => intro v s₁ gs' _ h; exact h.elim
  case go =>
    refine ⟨rfl, ?_⟩
    refine gen_raise (mf := fun x => _) BG₂ (X'.keeps st₂) (T'.keeps st₂) rfl ⟨⟨oL, es, ep, push _ _ hoL, hdL, hrL⟩, fun b o e => push _ _ (up b o (of_hideAll _ e)), Nat.le_of_eq (hideAll_size _ _)⟩ ?N rfl (List.mem_cons_of_mem _ (List.mem_cons_of_mem _ hRm)) hoR hv
    exact fun q hq => by
      rcases List.mem_cons.mp hq with rfl | hq
      · have hlt : hc.objs.size < h₁.objs.size := by rw [hsz₁]; exact Nat.lt_succ_self _
        exact ⟨Heap.get?_push_size _ hGf, Nat.ne_of_gt hlt, Heap.get?_none_of_le (Nat.le_trans (Nat.le_of_eq (hideAll_size _ _)) (Nat.le_of_lt hlt))⟩
      · have z := Nc q hq
        exact ⟨push _ _ (up _ _ z.1), Nat.ne_of_lt (Heap.lt_size z.1), hideAll_none _ (List.mem_map_of_mem hq)⟩
  case hR =>
    intro x s₁ hx
    obtain ⟨e, t, vs', h'', tk', rfl, rfl, RS, upS⟩ := hx
    refine .inr ⟨e, rfl, ?_, ?_, ?_⟩
    · obtain ⟨⟨B, _, _, hl, hfl, _⟩, _⟩ := RS
      exact hGi _ _ (hfl.1 _ _ (hl _ (List.mem_cons_self ..)).1)
    · obtain ⟨⟨B, _, _, hl, hfl, _⟩, _⟩ := RS
      exact hfl.there
    · have hbare : ∀ c : Code, AllBare (((s.gens.push (.fresh c)).setIfInBounds s.gens.size .running).setIfInBounds s.gens.size .finished) := fun c => allBare_set (allBare_set (hba.push rfl) rfl) rfl
      refine PassesOwn.looking _ _ (caught_S0 RS FG₂ B' upS h3 h5 D' KtsTurn.refl (noValueError _) bootValueError (by decide) sub_ve_base meta_ve_tuple sub_ve_self ?_)
      intro h3' g3 news₂ T3 F3 N3 Got3 N4 B4 X4 P4 D4
      have Nn : News g3 L' h3' ((P, listOf #[] 0) :: news) := fun q hq => N4 q (List.mem_cons_of_mem _ hq)
      clear N4 N3 Got3 Fc Nc FL FG₂ BG₂ B'
      k_steps
      exact ret_cut (ps := []) hret (hbare _) (by k_asm) (by k_asm) (by k_mem) (by k_mem) (fun q hq => List.mem_cons_of_mem _ (List.mem_cons_of_mem _ hq)) .nil
end Mine
end

section
open PySem PySem.W PyProof.Rows PySem.Calls
namespace Mine
set_option maxRecDepth 100000
set_option maxHeartbeats 8000000

theorem catS_len : ∀ xs : List Str, (catS xs).length = (xs.map (·.length)).sum
  | [] => rfl
  | x :: xs => by
    have := catS_len xs
    simp only [catS, Str.length, List.map_cons, List.flatten_cons, List.sum_cons] at this ⊢
    simp at this ⊢
    omega

theorem tr2_cat (i j : Int) (l : List Nat) : trL (tabOf j) (trL (tabOf i) l) = ((l.map (sp2 i j)).map fun x => x.cps.toList).flatten := by
  induction l with
  | nil => rfl
  | cons c l ih =>
    have e : c :: l = [c] ++ l := rfl
    rw [e, trL_append, trL_append, ih]
    simp [sp2, tr]

theorem tab_pos (i : Int) : (tabOf i).all (fun p => decide (0 < p.2.length)) = true := by
  unfold tabOf
  split
  · decide +kernel
  split
  · decide +kernel
  split
  · decide +kernel
  split
  · decide +kernel
  · decide +kernel
theorem look_pos {tab : Tab} (h : tab.all (fun p => decide (0 < p.2.length)) = true) (c : Nat) : 0 < (look tab c).length := by
  unfold look
  induction tab with
  | nil => simp
  | cons p tab ih =>
    simp only [List.all_cons, Bool.and_eq_true, decide_eq_true_eq] at h
    by_cases hc : c = p.1
    · subst hc
      simp only [List.lookup, beq_self_eq_true, Option.getD_some]
      exact h.1
    · have h1 : (c == p.1) = false := by simpa using hc
      simp only [List.lookup, h1]
      exact ih h.2
theorem trL_pos {tab : Tab} (h : tab.all (fun p => decide (0 < p.2.length)) = true) {l : List Nat} (hl : 0 < l.length) : 0 < (trL tab l).length := by
  cases l with
  | nil => simp at hl
  | cons c l =>
    have := look_pos h c
    simp only [trL, List.flatMap_cons, List.length_append]
    omega
theorem sp2_pos (i j : Int) (c : Nat) : 0 < (sp2 i j c).length := by
  have h1 : 0 < (trL (tabOf i) [c]).length := trL_pos (tab_pos i) (by simp)
  have h2 := trL_pos (tab_pos j) h1
  simpa [sp2, tr, Str.length] using h2

theorem spL_len (t : Str) (i j : Int) : (spL t i j).length = t.length := by simp [spL, Str.length]
theorem spL_at (t : Str) (i j : Int) {k : Nat} (hk : k < t.length) : (spL t i j).getD k ⟨#[]⟩ = sp2 i j (t.cps.toList.getD k 0) := by
  have h : k < t.cps.toList.length := by simpa [Str.length] using hk
  unfold spL
  rw [List.getD_eq_getElem?_getD, List.getD_eq_getElem?_getD, List.getElem?_map, List.getElem?_eq_getElem h]
  rfl
theorem ahL_len (t : Str) (more i j : Int) : (ahL t more i j).length = more.toNat := by simp [ahL]

def pcsOf (t : Str) (more i j : Int) : List Str := (ahL t more i j ++ spL t i j).reverse
theorem pcs_len (t : Str) (more i j : Int) : (pcsOf t more i j).length = t.length + more.toNat := by simp [pcsOf, ahL_len, spL_len]
theorem pcs_eq (t : Str) (more i j : Int) : pcsOf t more i j = (spL t i j).reverse ++ (ahL t more i j).reverse := by simp [pcsOf]
theorem pcs_left0 (t : Str) (more i j : Int) : lftS (pcsOf t more i j) 0 = catS (ahL t more i j ++ spL t i j) := by simp [lftS, pcsOf]
theorem pcs_at (t : Str) (more i j : Int) (ht : 1 ≤ t.length) {k : Nat} (hk : k < t.length + more.toNat) :
    (pcsOf t more i j).getD k ⟨#[]⟩ = sp2 i j (t.cps.toList.getD (t.length - 1 - k) 0) := by
  rw [pcs_eq]
  by_cases h : k < t.length
  · rw [List.getD_eq_getElem?_getD, List.getElem?_append_left (by rw [List.length_reverse, spL_len]; exact h), List.getElem?_reverse (by rw [spL_len]; exact h), spL_len, ← List.getD_eq_getElem?_getD]
    exact spL_at t i j (by omega)
  · have e : t.length - 1 - k = 0 := by omega
    rw [e, List.getD_eq_getElem?_getD, List.getElem?_append_right (by rw [List.length_reverse, spL_len]; omega), List.length_reverse, spL_len]
    unfold ahL
    rw [List.reverse_replicate, List.getElem?_replicate, if_pos (by omega)]
    exact spL_at t i j (by omega)

theorem row_at (t : Str) (i j : Int) {k : Nat} (hk : k < t.length) (d : Int) : (rowOf t i j t.length).getD k d = ((sp2 i j (t.cps.toList.getD (t.length - 1 - k) 0)).length : Int) := by
  unfold rowOf
  rw [List.getD_eq_getElem?_getD, List.getElem?_map, List.getElem?_range hk]
  rfl
theorem row_len (t : Str) (i j : Int) : (rowOf t i j t.length).length = t.length := by simp [rowOf]
theorem row_out (t : Str) (more i j : Int) (ht : 1 ≤ t.length) {k : Nat} (hk : k < t.length + more.toNat) : outv (rowOf t i j t.length) k = (((pcsOf t more i j).getD k ⟨#[]⟩).length : Int) := by
  rw [pcs_at t more i j ht hk]
  unfold outv
  rw [row_len]
  by_cases h : k < t.length
  · exact row_at t i j h _
  · rw [getD_out (by rw [row_len]; omega), row_at t i j (by omega)]
    have e : t.length - 1 - k = t.length - 1 - (t.length - 1) := by omega
    rw [e]
theorem row_ok (t : Str) (i j : Int) : ∀ z ∈ rowOf t i j t.length, z ≠ 0 ∧ z ≠ 127 := by
  intro z hz
  obtain ⟨k, _, rfl⟩ := List.mem_map.mp hz
  have e : sz t i j k = ((sp2 i j (t.cps.toList.getD (t.length - 1 - k) 0)).length : Int) := rfl
  have h1 := sp2_pos i j (t.cps.toList.getD (t.length - 1 - k) 0)
  have h2 := sp2_le i j (t.cps.toList.getD (t.length - 1 - k) 0)
  rw [e]; omega

theorem written_eq (t z : Str) (more i j : Int) (ht : 1 ≤ t.length) (hz : z.cps.toList = List.replicate more.toNat (t.cps.toList.getD 0 0) ++ t.cps.toList) :
    tr (tabOf j) (tr (tabOf i) z) = catS (ahL t more i j ++ spL t i j) := by
  refine str_ext ?_
  unfold tr
  show trL (tabOf j) (trL (tabOf i) z.cps.toList) = _
  rw [tr2_cat, hz]
  unfold ahL
  rw [spL_at t i j (by omega)]
  simp [catS, spL]

theorem cut_all {w mean mg mb} (t : Str) (more i j kd : Int) (ht1 : 1 ≤ t.length) (ht7 : t.length ≤ 7) (hm0 : 0 ≤ more) (hm5 : more < 5) (hk0 : 0 ≤ kd) (hk4 : kd < 4)
    {news : List (Addr × Obj)} {dp un : Nat} {gd : Option (List Code)} {cn : Str} {cs : Scope} {a : Addr} {ccd : Value} {cl : List (Str × Addr)} {A₀ : Around} {h₀ : Heap} {L R : Addr} {tw : Tok} {vs : List Value} {cR : Nat} {m : Str → Option Value} {s : Shared} {Q E : Value → Shared → Prop}
    (B : Below A₀ h₀ [] h₀) (F : Fr h₀ L s.heap m) (X : (hd.heap_39 w.params).In h₀) (N : News h₀ L s.heap news) (T : Top hd.view_39 (looseW hd.view_39 []) mean mg mb h₀) (hc : cs.kind = .function) (hR : (R, listOf vs.toArray cR) ∈ news) (hI : IntsAre vs (rowFor t i j kd)) (hb : AllBare s.gens)
    (hd : dp + 6 < recursionLimit) (hu : un + 10 * 6 < cLine) (hret : ∀ (r p : Addr) (a b : Tok) (c cp : Nat) (ps : List Value) (h' : Heap) (tk' : Nat) (ge : Array GenState), AllBare ge → Fr h₀ L h' m → News h₀ L h' ((r, listOf #[.str (dueTag kd) a, .ref p, .str (dueLeft t more i j kd) b] c) :: (p, listOf ps.toArray cp) :: news) → StrsAre ps (dueParts t more i j kd) → Q (.ref r) { s with heap := h', toks := tk', gens := ge }) :
    wpAny (model PySem.Challenge.rw_nb0128_01.row.prog w) (ktrTop dp un gd cn cs L a ccd cl []) (call (.ref 82) [.str (catS (ahL t more i j ++ spL t i j)) tw, .ref R]) Q E s := by
  have hbd : (lftS (pcsOf t more i j) 0).length ≤ 1000 := by
    rw [pcs_left0, catS_len]
    refine Nat.le_trans (sum_le_of fun x hx => ?_) (?_ : 36 * (ahL t more i j ++ spL t i j).length ≤ 1000)
    · rcases List.mem_append.mp hx with hx | hx
      · rw [List.eq_of_mem_replicate hx, spL_at t i j (by omega)]
        exact sp2_le ..
      · obtain ⟨c, _, rfl⟩ := List.mem_map.mp hx
        exact sp2_le ..
    · rw [List.length_append, ahL_len, spL_len]; omega
  have hpl := pcs_len t more i j
  have hrl := row_len t i j
  have hne : rowOf t i j t.length ≠ [] := by intro e; rw [e] at hrl; simp at hrl; omega
  have hpp : ∀ k, k < t.length + more.toNat → 0 < ((pcsOf t more i j).getD k ⟨#[]⟩).length := fun k hk => by rw [pcs_at t more i j ht1 hk]; exact sp2_pos ..
  have hcase : kd = 0 ∨ kd = 1 ∨ kd = 2 ∨ kd = 3 := by omega
  rcases hcase with rfl | rfl | rfl | rfl
  · have C := law_cut (w := w) (mean := mean) (mg := mg) (mb := mb) (rowOf t i j t.length) [0, 3, 127] (pcsOf t more i j) (t.length + more.toNat) true hne (row_ok t i j) (by omega) (fun h => by cases h) (by omega)
      (fun k hk => row_out t more i j ht1 hk) hpp (by omega) (fun _ => by omega) hbd (.inr (.inr ⟨_, rfl, rfl⟩))
    rw [pcs_left0] at C
    refine C news dp un gd cn cs a ccd cl [] A₀ h₀ h₀ L R tw vs cR m s Q E B F X N T hc hR hI hb (by omega) hd hu ?_
    have e1 : (pcsOf t more i j).take (t.length + more.toNat) = dueParts t more i j 0 := by rw [List.take_of_length_le (by omega)]; rfl
    have e2 : lftS (pcsOf t more i j) (t.length + more.toNat) = dueLeft t more i j 0 := by unfold lftS; rw [List.drop_eq_nil_of_le (by omega)]; rfl
    rw [e1, e2]
    exact hret
  · have C := law_cut (w := w) (mean := mean) (mg := mg) (mb := mb) (rowOf t i j t.length) [127, 2, 0] (pcsOf t more i j) t.length false hne (row_ok t i j) (by omega) (fun _ => hrl.symm) (by omega)
      (fun k hk => row_out t more i j ht1 (by omega)) (fun k hk => hpp k (by omega)) (by omega) (fun h => by cases h) hbd (.inr (.inl ⟨_, rfl, rfl⟩))
    rw [pcs_left0] at C
    refine C news dp un gd cn cs a ccd cl [] A₀ h₀ h₀ L R tw vs cR m s Q E B F X N T hc hR hI hb (by omega) hd hu ?_
    have hsl : (spL t i j).reverse.length = t.length := by rw [List.length_reverse, spL_len]
    have e1 : (pcsOf t more i j).take t.length = dueParts t more i j 1 := by rw [pcs_eq, List.take_left' hsl]; rfl
    have e2 : lftS (pcsOf t more i j) t.length = dueLeft t more i j 1 := by unfold lftS; rw [pcs_eq, List.drop_left' hsl, List.reverse_reverse]; rfl
    rw [e1, e2]
    exact hret
  · have C := law_cut (w := w) (mean := mean) (mg := mg) (mb := mb) (rowOf t i j t.length) [] (pcsOf t more i j) t.length false hne (row_ok t i j) (by omega) (fun _ => hrl.symm) (by omega)
      (fun k hk => row_out t more i j ht1 (by omega)) (fun k hk => hpp k (by omega)) (by omega) (fun h => by cases h) hbd (.inl ⟨rfl, rfl⟩)
    rw [pcs_left0, List.append_nil] at C
    refine C news dp un gd cn cs a ccd cl [] A₀ h₀ h₀ L R tw vs cR m s Q E B F X N T hc hR hI hb (by omega) hd hu ?_
    have hsl : (spL t i j).reverse.length = t.length := by rw [List.length_reverse, spL_len]
    have e1 : (pcsOf t more i j).take t.length = dueParts t more i j 2 := by rw [pcs_eq, List.take_left' hsl]; rfl
    have e2 : lftS (pcsOf t more i j) t.length = dueLeft t more i j 2 := by unfold lftS; rw [pcs_eq, List.drop_left' hsl, List.reverse_reverse]; rfl
    rw [e1, e2]
    exact hret
  · exact law_refused (w := w) (mean := mean) (mg := mg) (mb := mb) (catS (ahL t more i j ++ spL t i j)) (rowOf t i j t.length) news dp un gd cn cs a ccd cl A₀ h₀ L R tw vs cR m s Q E B F X N T hc hR hI hb hd hu hret
end Mine
end

section
open PySem PySem.W PyProof.Rows PySem.Calls
namespace Mine
set_option maxRecDepth 100000
set_option maxHeartbeats 8000000

def okS (x : Str) : Prop := ∀ c ∈ x.cps.toList, c < 0x110000
theorem okS.out {x : Str} (h : okS x) : PyData.strOk x = true := by
  unfold PyData.strOk
  rw [← Array.all_toList, List.all_eq_true]
  exact fun c hc => decide_eq_true (h c hc)
def TextEnd (h₀ : Heap) (L : Addr) (m : Str → Option Value) (news : List (Addr × Obj)) (s : Shared) (v : Value) (s' : Shared) : Prop :=
  ∃ t tok h' tk', v = .str t tok ∧ 1 ≤ t.length ∧ t.length ≤ 7 ∧ okS t ∧ s' = { s with heap := h', toks := tk' } ∧ Fr h₀ L h' m ∧ News h₀ L h' news
theorem TextEnd.intro {h₀ h' : Heap} {L : Addr} {m : Str → Option Value} {news led : List (Addr × Obj)} {s : Shared} {t : Str} {tok : Tok} {tk' : Nat} (h1 : 1 ≤ t.length) (h7 : t.length ≤ 7) (hok : okS t) (F : Fr h₀ L h' m) (N : News h₀ L h' led) (hs : ∀ p ∈ news, p ∈ led) :
    TextEnd h₀ L m news s (.str t tok) { s with heap := h', toks := tk' } := ⟨t, tok, h', tk', rfl, h1, h7, hok, rfl, F, fun p hp => N p (hs p hp)⟩
theorem text_mid {M : Model} {A : Around} {x : Sem Value} {Q E : Value → Shared → Prop} {h₀ : Heap} {L : Addr} {z : Int} {th : Tok} {m : Str → Option Value} {news : List (Addr × Obj)} {s : Shared} (_F : Fr h₀ L s.heap (fun y => if y = Str.ofString "head" then some (.int (z.fmod 500) th) else m y)) (_N : News h₀ L s.heap news)
    (h1 : wpAny M A x (TextEnd h₀ L (fun y => if y = Str.ofString "head" then some (.int (z.fmod 500) th) else m y) news s) E s)
    (h2 : ∀ (head : Int), 0 ≤ head → head < 500 → ∀ t tok h' tk', 1 ≤ t.length → t.length ≤ 7 → okS t → Fr h₀ L h' (fun y => if y = Str.ofString "head" then some (.int head th) else m y) → News h₀ L h' [] → Q (.str t tok) { s with heap := h', toks := tk' }) : wpAny M A x Q E s :=
  wpAny_mono h1 (fun v s' h => by obtain ⟨t, tok, h', tk', rfl, h1, h7, hok, rfl, F, N⟩ := h; exact h2 _ (Int.fmod_nonneg_of_pos _ (by decide)) (Int.fmod_lt_of_pos _ (by decide)) t tok h' tk' h1 h7 hok F (fun _ hp => (List.not_mem_nil hp).elim)) fun _ _ x => x

theorem rest_mid {G : Prop} {h₀ h : Heap} {L : Addr} {x : Int} {a b c d : Tok} {m : Str → Option Value}
    (F : Fr h₀ L h (fun y => if y = Str.ofString "more" then some (.int (x.fdiv 100) a) else if y = Str.ofString "kind" then some (.int ((x.fdiv 25).fmod 4) b) else if y = Str.ofString "second" then some (.int ((x.fdiv 5).fmod 5) c) else if y = Str.ofString "first" then some (.int (x.fmod 5) d) else m y))
    (h0 : 0 ≤ x) (h5 : x < 500)
    (k : ∀ more kd i j : Int, 0 ≤ more → more < 5 → 0 ≤ kd → kd < 4 → 0 ≤ i → i < 5 → 0 ≤ j → j < 5 → Fr h₀ L h (fun y => if y = Str.ofString "more" then some (.int more a) else if y = Str.ofString "kind" then some (.int kd b) else if y = Str.ofString "second" then some (.int j c) else if y = Str.ofString "first" then some (.int i d) else m y) → G) : G :=
  k (x.fdiv 100) ((x.fdiv 25).fmod 4) (x.fmod 5) ((x.fdiv 5).fmod 5) (by rw [Int.fdiv_eq_ediv_of_nonneg _ (by decide)]; omega) (by rw [Int.fdiv_eq_ediv_of_nonneg _ (by decide)]; omega)
    (Int.fmod_nonneg_of_pos _ (by decide)) (Int.fmod_lt_of_pos _ (by decide)) (Int.fmod_nonneg_of_pos _ (by decide)) (Int.fmod_lt_of_pos _ (by decide)) (Int.fmod_nonneg_of_pos _ (by decide)) (Int.fmod_lt_of_pos _ (by decide)) F

section
variable {prog : Program} {w : World} {A : Around} {E : Value → Shared → Prop} {s : Shared} {h₀ : Heap} {L : Addr} {m : Str → Option Value} {news : List (Addr × Obj)} {Q : Value → Shared → Prop}
theorem item_0 {t : Str} (ht : 1 ≤ t.length) : Txt.item t 0 = ⟨#[t.cps.toList.getD 0 0]⟩ := by
  unfold Txt.item
  have e : Txt.charAt t 0 = t.cps.toList[0]? := by
    unfold Txt.charAt seqIndex?
    have h1 : ¬ ((0 : Int) < 0) := by omega
    have h2 : (0 : Int) < (t.length : Int) := by omega
    have h3 : (decide ((0 : Int) ≤ 0) && decide ((0 : Int) < (t.length : Int))) = true := by
      rw [Bool.and_eq_true, decide_eq_true_eq, decide_eq_true_eq]; omega
    simp only [if_neg h1, h3, if_true, Option.bind_some, Array.getElem?_toList]
    rfl
  rw [e, List.getD_eq_getElem?_getD]
theorem mul_item {t : Str} {n : Int} {u v : Tok} (ht : 1 ≤ t.length) (h0 : 0 ≤ n) (h5 : n < 5)
    (h : ∀ z : Str, z.cps.toList = List.replicate n.toNat (t.cps.toList.getD 0 0) → z.length = n.toNat → ∀ t' k, Q (.str z t') { s with toks := k }) :
    wpAny (model prog w) A (binaryOp .Mult (.str (Txt.item t 0) u) (.int n v)) Q E s := by
  rw [item_0 ht]
  have hl : (⟨#[t.cps.toList.getD 0 0]⟩ : Str).length = 1 := rfl
  refine SB.mul ⟨?_, ?_, ?_⟩ (h _ (mul_one_list _ _) ?_)
  · simp; omega
  · intro h1 _
    rw [hl]
    have : (1 : Int) ≤ (2 ^ 63 - 1) / n := by
      have hn : n = 1 ∨ n = 2 ∨ n = 3 ∨ n = 4 := by omega
      rcases hn with rfl | rfl | rfl | rfl <;> decide
    omega
  · intro _ _
    rw [hl]
    have hn : n = 0 ∨ n = 1 ∨ n = 2 ∨ n = 3 ∨ n = 4 := by omega
    rcases hn with rfl | rfl | rfl | rfl | rfl <;> decide
  · have := congrArg List.length (mul_one_list (t.cps.toList.getD 0 0) n)
    simpa [Str.length] using this
theorem add_text {x y : Str} {l : List Nat} {u v : Tok} (hx : x.cps.toList = l) (hl : x.length + y.length ≤ 1000)
    (h : ∀ z : Str, z.cps.toList = l ++ y.cps.toList → z.length = x.length + y.length → ∀ t' k, Q (.str z t') { s with toks := k }) :
    wpAny (model prog w) A (binaryOp .Add (.str x u) (.str y v)) Q E s :=
  SB.add (h _ (by rw [← hx]; simp [Str.cps_append]) (by simp [Str.length, Str.cps_append])) (by rw [sizeLine_eq]; omega)

theorem reads_strs {h : Heap} : ∀ {vs : List Value} {ss : List Str}, StrsAre vs ss → ReadsAll h vs (ss.map PyData.str) []
  | _, _, .nil => .nil
  | _, _, .cons x t r => .cons (Reads.str _ _) (reads_strs r)
theorem eqv_strs : ∀ ss : List Str, PyData.eqvAll (ss.map PyData.str) (ss.map PyData.str) = true
  | [] => by simp [PyData.eqvAll]
  | x :: ss => by simp [PyData.eqvAll, PyData.eqv, eqv_strs ss]
theorem lay_strs : ∀ {ss : List Str}, (∀ x ∈ ss, okS x) → PyData.canLayAll0 (ss.map PyData.str) = true
  | [], _ => by simp [PyData.canLayAll0]
  | x :: ss, h => by simp [PyData.canLayAll0, PyData.canLay0, (h x (List.mem_cons_self ..)).out, lay_strs (ss := ss) fun y hy => h y (List.mem_cons_of_mem _ hy)]
theorem dep_strs : ∀ ss : List Str, PyData.depthAll (ss.map PyData.str) = 0
  | [] => by simp [PyData.depthAll]
  | x :: ss => by simp [PyData.depthAll, PyData.depth, dep_strs ss]
theorem eq_due {tag left : Str} {parts : List Str} {r1 p1 r2 p2 : Addr} {a1 b1 a2 b2 : Tok} {c1 q1 c2 q2 : Nat} {ps1 ps2 : List Value} (N : News h₀ L s.heap news) (hr1 : (r1, listOf #[.str tag a1, .ref p1, .str left b1] c1) ∈ news) (hp1 : (p1, listOf ps1.toArray q1) ∈ news)
    (hr2 : (r2, listOf #[.str tag a2, .ref p2, .str left b2] c2) ∈ news) (hp2 : (p2, listOf ps2.toArray q2) ∈ news) (S1 : StrsAre ps1 parts) (S2 : StrsAre ps2 parts) (o1 : okS tag) (o2 : okS left) (o3 : ∀ x ∈ parts, okS x) (hu : A.units + 64 < cLine)
    (h : Q (.bool true) s) : wpAny (model prog w) A (compareOp .Eq (.ref r1) (.ref r2)) Q E s := by
  have R1 : Reads s.heap (.ref r1) (.list [.str tag, .list (parts.map PyData.str), .str left]) _ := reads_list_at (N _ hr1).1 rfl rfl (.cons (Reads.str _ _) (.cons (reads_list_at (N _ hp1).1 rfl rfl (reads_strs S1)) (.cons (Reads.str _ _) .nil)))
  have R2 : Reads s.heap (.ref r2) (.list [.str tag, .list (parts.map PyData.str), .str left]) _ := reads_list_at (N _ hr2).1 rfl rfl (.cons (Reads.str _ _) (.cons (reads_list_at (N _ hp2).1 rfl rfl (reads_strs S2)) (.cons (Reads.str _ _) .nil)))
  have sh : SeqAt.shaped (.list [.str tag, .list (parts.map PyData.str), .str left]) = true := by
    simp [SeqAt.shaped, PyData.canLay0, PyData.canLayAll0, PyData.depth, PyData.depthAll, o1.out, o2.out, lay_strs o3, dep_strs]
  have ee : PyData.eqv (.list [.str tag, .list (parts.map PyData.str), .str left]) (.list [.str tag, .list (parts.map PyData.str), .str left]) = true := by
    simp [PyData.eqv, PyData.eqvAll, eqv_strs]
  refine eq_dataH R1 R2 sh sh hu ?_
  rw [ee]; exact h
end

theorem singles : ∀ {ys : List Value}, (∀ (i : Nat) (y : Value), ys[i]? = some y → ∃ x u, y = .str x u ∧ x.length = 1 ∧ okS x) → ∃ xs : List Str, StrsAre ys xs ∧ (∀ x ∈ xs, x.length = 1) ∧ ∀ x ∈ xs, okS x
  | [], _ => ⟨[], .nil, by simp, by simp⟩
  | y :: ys, h => by
    obtain ⟨x, u, rfl, hx, ho⟩ := h 0 y rfl
    obtain ⟨xs, hS, hl, hok⟩ := singles (ys := ys) fun i z hz => h (i + 1) z (by simpa using hz)
    exact ⟨x :: xs, .cons _ _ hS, by simpa [hx] using hl, List.forall_mem_cons.mpr ⟨ho, hok⟩⟩
theorem ints_at : ∀ {vs : List Value} {zs : List Int}, IntsAre vs zs → ∀ {k : Nat} {v : Value}, vs[k]? = some v → ∃ z t, v = .int z t
  | _, _, .nil, _, _, h => by simp at h
  | _, _, .cons z t r, 0, _, h => by simp at h; exact ⟨z, t, h.symm⟩
  | _, _, .cons z t r, k + 1, _, h => ints_at r (by simpa using h)
theorem take_len {l : List Int} (h : ¬ l.drop 1 = []) : (List.take (min 8 l.length - 1) (l.drop 1)).length ≤ 7 ∧ 1 ≤ (List.take (min 8 l.length - 1) (l.drop 1)).length := by
  have h2 : ¬ l.length ≤ 1 := fun e => h (List.drop_eq_nil_of_le e)
  rw [List.length_take, List.length_drop]
  omega
theorem sign_of (z : Int) : ([Str.ofString "&", Str.ofString "<", Str.ofString ">", Str.ofString "\"", Str.ofString "a", Str.ofString " ", Str.ofString "\x0d", Str.ofString ";", Str.ofString "7", Str.ofString "\t", Str.ofString "\n", Str.ofString "#"].getD (z.fmod 12).toNat Str.empty).length = 1 ∧
    okS ([Str.ofString "&", Str.ofString "<", Str.ofString ">", Str.ofString "\"", Str.ofString "a", Str.ofString " ", Str.ofString "\x0d", Str.ofString ";", Str.ofString "7", Str.ofString "\t", Str.ofString "\n", Str.ofString "#"].getD (z.fmod 12).toNat Str.empty) := by
  have h0 : 0 ≤ z.fmod 12 := Int.fmod_nonneg_of_pos _ (by decide)
  have h1 : z.fmod 12 < 12 := Int.fmod_lt_of_pos _ (by decide)
  have h2 : (z.fmod 12).toNat < 12 := by omega
  generalize (z.fmod 12).toNat = n at h2
  unfold okS
  revert n
  decide +kernel
theorem sum_ones : ∀ {xs : List Str}, (∀ x ∈ xs, x.length = 1) → (xs.map (·.length)).sum = xs.length
  | [], _ => rfl
  | x :: xs, h => by
    have h1 := h x (List.mem_cons_self ..)
    have h2 := sum_ones (xs := xs) fun y hy => h y (List.mem_cons_of_mem _ hy)
    simp only [List.map_cons, List.sum_cons, List.length_cons]; omega


theorem trL_ok {tab : Tab} (h : tab.all (fun p => p.2.all (fun c => decide (c < 0x110000))) = true) {l : List Nat} (hl : ∀ c ∈ l, c < 0x110000) : ∀ c ∈ trL tab l, c < 0x110000 := by
  intro c hc
  obtain ⟨x, hx, hc2⟩ := List.mem_flatMap.mp hc
  clear hc
  rename c ∈ look tab x => hc
  unfold look at hc
  cases e : tab.lookup x with
  | none => rw [e] at hc; simp at hc; subst hc; exact hl _ hx
  | some r =>
    rw [e] at hc
    simp at hc
    have hm : ∃ k, (k, r) ∈ tab := by
      clear h hc
      induction tab with
      | nil => simp at e
      | cons p tab ih =>
        by_cases hk : x = p.1
        · subst hk; simp [List.lookup] at e; exact ⟨p.1, by simp [← e]⟩
        · have h1 : (x == p.1) = false := by simpa using hk
          simp only [List.lookup, h1] at e
          obtain ⟨k, hk⟩ := ih e
          exact ⟨k, List.mem_cons_of_mem _ hk⟩
    obtain ⟨k, hm⟩ := hm
    have h2 := List.all_eq_true.mp h _ hm
    exact of_decide_eq_true (List.all_eq_true.mp h2 _ hc)
theorem tab_ok (i : Int) : (tabOf i).all (fun p => p.2.all (fun c => decide (c < 0x110000))) = true := by
  unfold tabOf
  split
  · decide +kernel
  split
  · decide +kernel
  split
  · decide +kernel
  split
  · decide +kernel
  · decide +kernel
theorem sp2_ok (i j : Int) {c : Nat} (h : c < 0x110000) : okS (sp2 i j c) := by
  have := trL_ok (tab_ok j) (trL_ok (tab_ok i) (l := [c]) (by simpa using h))
  simpa [okS, sp2, tr] using this
theorem cat_ok {xs : List Str} (h : ∀ x ∈ xs, okS x) : okS (catS xs) := by
  intro c hc
  simp only [catS, List.mem_flatten, List.mem_map] at hc
  obtain ⟨l, ⟨x, hx, rfl⟩, hc⟩ := hc
  exact h x hx c hc
theorem spL_ok {t : Str} (h : okS t) (i j : Int) : ∀ x ∈ spL t i j, okS x := by
  intro x hx
  obtain ⟨c, hc, rfl⟩ := List.mem_map.mp hx
  exact sp2_ok i j (h c hc)
theorem ahL_ok {t : Str} (h : okS t) (ht : 1 ≤ t.length) (more i j : Int) : ∀ x ∈ ahL t more i j, okS x := by
  intro x hx
  rw [List.eq_of_mem_replicate hx, spL_at t i j (by omega)]
  refine sp2_ok i j ?_
  have hl : 0 < t.cps.toList.length := ht
  rw [List.getD_eq_getElem?_getD, List.getElem?_eq_getElem hl]
  exact h _ (List.getElem_mem hl)
theorem dueTag_ok (kd : Int) : okS (dueTag kd) := by
  unfold dueTag
  split <;> (intro c hc; revert c; decide +kernel)
theorem dueLeft_ok {t : Str} (h : okS t) (ht : 1 ≤ t.length) (more i j kd : Int) : okS (dueLeft t more i j kd) := by
  have both : ∀ x ∈ ahL t more i j ++ spL t i j, okS x := List.forall_mem_append.mpr ⟨ahL_ok h ht more i j, spL_ok h i j⟩
  unfold dueLeft
  split
  · exact cat_ok both
  split
  · exact cat_ok (by simp)
  · exact cat_ok (ahL_ok h ht more i j)
theorem dueParts_ok {t : Str} (h : okS t) (ht : 1 ≤ t.length) (more i j kd : Int) : ∀ x ∈ dueParts t more i j kd, okS x := by
  have both : ∀ x ∈ ahL t more i j ++ spL t i j, okS x := List.forall_mem_append.mpr ⟨ahL_ok h ht more i j, spL_ok h i j⟩
  unfold dueParts
  split
  · simp
  split
  · intro x hx; exact both x (List.mem_reverse.mp hx)
  · intro x hx; exact spL_ok h i j x (List.mem_reverse.mp hx)

section
variable {w : World} {mean : ExcName → Option Value} {mg mb : Str → Option Value} {news : List (Addr × Obj)} {dp un : Nat} {gd : Option (List Code)} {cn : Str} {cs : Scope} {a : Addr} {ccd : Value} {cl : List (Str × Addr)} {A₀ : Around} {h₀ : Heap} {L : Addr} {m : Str → Option Value} {s : Shared} {Q E : Value → Shared → Prop}
theorem row_use {t : Str} {tk : Tok} {i : Int} {tk2 : Tok} {j : Int} {tk3 : Tok} {kd : Int} {tk4 : Tok} {outer : List Env} {base : Heap} (B : Below A₀ base outer h₀) (F : Fr h₀ L s.heap m) (X : (hd.heap_39 w.params).In h₀) (N : News h₀ L s.heap news) (T : Top hd.view_39 (looseW hd.view_39 []) mean mg mb h₀) (hc : cs.kind = .function)
    (ht : t.length ≤ 7) (hk0 : 0 ≤ kd) (hk4 : kd < 4) (hd : dp + 6 < recursionLimit) (hu : un + 10 * 6 < cLine)
    (hret : ∀ (r : Addr) (us : List Value) (c : Nat) (h' : Heap) (tk' : Nat), Fr h₀ L h' m → News h₀ L h' ((r, listOf us.toArray c) :: news) → (∀ p ∈ news, p.1 < r) → IntsAre us (rowFor t i j kd) → Q (.ref r) { s with heap := h', toks := tk' }) :
    wpAny (model PySem.Challenge.rw_nb0128_01.row.prog w) (ktrTop dp un gd cn cs L a ccd cl outer) (call (.ref 89) [.str t tk, .int i tk2, .int j tk3, .int kd tk4]) Q E s :=
  law_row t tk i tk2 j tk3 kd tk4 news dp un gd cn cs a ccd cl outer A₀ base h₀ L m s Q E B F X N T hc ⟨by omega, hk0, hk4⟩ hd hu hret
theorem cut_use {t z : Str} {more i j kd : Int} {R : Addr} {tw : Tok} {vs : List Value} {cR : Nat} (B : Below A₀ h₀ [] h₀) (F : Fr h₀ L s.heap m) (X : (hd.heap_39 w.params).In h₀) (N : News h₀ L s.heap news) (T : Top hd.view_39 (looseW hd.view_39 []) mean mg mb h₀) (hc : cs.kind = .function)
    (hR : (R, listOf vs.toArray cR) ∈ news) (hI : IntsAre vs (rowFor t i j kd)) (hz : z.cps.toList = List.replicate more.toNat (t.cps.toList.getD 0 0) ++ t.cps.toList) (ht1 : 1 ≤ t.length) (ht7 : t.length ≤ 7) (hm0 : 0 ≤ more) (hm5 : more < 5) (hk0 : 0 ≤ kd) (hk4 : kd < 4) (hb : AllBare s.gens)
    (hd : dp + 6 < recursionLimit) (hu : un + 10 * 6 < cLine)
    (hret : ∀ (r p : Addr) (a b : Tok) (c cp : Nat) (ps : List Value) (h' : Heap) (tk' : Nat) (ge : Array GenState), AllBare ge → Fr h₀ L h' m → News h₀ L h' ((r, listOf #[.str (dueTag kd) a, .ref p, .str (dueLeft t more i j kd) b] c) :: (p, listOf ps.toArray cp) :: news) → StrsAre ps (dueParts t more i j kd) → Q (.ref r) { s with heap := h', toks := tk', gens := ge }) :
    wpAny (model PySem.Challenge.rw_nb0128_01.row.prog w) (ktrTop dp un gd cn cs L a ccd cl []) (call (.ref 82) [.str (tr (tabOf j) (tr (tabOf i) z)) tw, .ref R]) Q E s := by
  rw [written_eq t z more i j ht1 hz]
  exact cut_all t more i j kd ht1 ht7 hm0 hm5 hk0 hk4 B F X N T hc hR hI hb hd hu hret
theorem due_use {t : Str} {tk : Tok} {more : Int} {tk1 : Tok} {i : Int} {tk2 : Tok} {j : Int} {tk3 : Tok} {kd : Int} {tk4 : Tok} {outer : List Env} {base : Heap} (B : Below A₀ base outer h₀) (F : Fr h₀ L s.heap m) (X : (hd.heap_39 w.params).In h₀) (N : News h₀ L s.heap news) (T : Top hd.view_39 (looseW hd.view_39 []) mean mg mb h₀) (hc : cs.kind = .function)
    (hp : 1 ≤ t.length ∧ t.length ≤ 7 ∧ 0 ≤ more ∧ more < 5 ∧ 0 ≤ i ∧ i < 5 ∧ 0 ≤ j ∧ j < 5 ∧ 0 ≤ kd ∧ kd < 4) (hd : dp + 8 < recursionLimit) (hu : un + 10 * 8 < cLine)
    (hret : ∀ (r p : Addr) (a b : Tok) (c cp : Nat) (ps : List Value) (h' : Heap) (tk' : Nat), Fr h₀ L h' m → News h₀ L h' ((r, listOf #[.str (dueTag kd) a, .ref p, .str (dueLeft t more i j kd) b] c) :: (p, listOf ps.toArray cp) :: news) → StrsAre ps (dueParts t more i j kd) → Q (.ref r) { s with heap := h', toks := tk' }) :
    wpAny (model PySem.Challenge.rw_nb0128_01.row.prog w) (ktrTop dp un gd cn cs L a ccd cl outer) (call (.ref 94) [.str t tk, .int more tk1, .int i tk2, .int j tk3, .int kd tk4]) Q E s :=
  law_due t tk more tk1 i tk2 j tk3 kd tk4 news dp un gd cn cs a ccd cl outer A₀ base h₀ L m s Q E B F X N T hc hp hd hu hret
end
end Mine
end

section
open PySem PySem.W PyProof.Rows PySem.Calls
namespace Mine
set_option maxRecDepth 100000
set_option maxHeartbeats 8000000

local macro_rules | `(tactic| walk_at "eval ListComp") => `(tactic| (k_here; k_dflt (refine ListComp_R (F₀ := by k_asm) (by with_unfolding_all rfl) (by decide) (by rfl) (by decide) (by rfl) ?_)))
local macro_rules | `(tactic| walk_at "call builtin:str.join") => `(tactic| (k_here; k_dflt (refine' join_strs ?N ?m ?s ?b ?_; (case N => k_asm); (case m => k_mem); (case s => assumption); (case b => omega); k_whole; intro t' k')))
local macro_rules | `(tactic| walk_at "binaryOp Mult str int") => `(tactic| (k_here; k_dflt (refine' mul_item ?a ?b ?c ?_; (case a => assumption); (case b => omega); (case c => omega); k_whole; intro z' hz' hl' t' k')))
local macro_rules | `(tactic| walk_at "binaryOp Add str str") => `(tactic| (k_here; k_dflt (refine' add_text ?a ?b ?_; (case a => assumption); (case b => omega); k_whole; intro z' hz' hl' t' k')))
local macro_rules | `(tactic| walk_at "call ref") => `(tactic| (k_here; k_dflt (first
  | ((refine' esc_use ?B ?F ?X ?N ?T ?K ?P ?d ?u ?_); (case B => k_asm); (case F => k_asm); (case X => k_asm); (case N => k_asm); (case T => k_asm); (case K => first | exact rfl | assumption); (case P => first | assumption | omega); (case d => ktr_room); (case u => ktr_units); k_whole; intro t' h' tk' F' N' htk' hl'; (try k_sweep))
  | ((refine' row_use ?B ?F ?X ?N ?T ?K ?P ?P0 ?P4 ?d ?u ?_); (case B => k_asm); (case F => k_asm); (case X => k_asm); (case N => k_asm); (case T => k_asm); (case K => first | exact rfl | assumption); (case P => omega); (case P0 => omega); (case P4 => omega); (case d => ktr_room); (case u => ktr_units); k_whole; intro r' us' c' h' tk' F' N' lt' hI'; (try k_sweep)))))

theorem good_true {c : ClaimW} {cl : Str → Option Addr} {mean : ExcName → Option Value} {args : List WData} {s₁ s' : Shared} {L : Addr} {m : Str → Option Value} (F : Fr s₁.heap L s'.heap m) (hb : AllBare s'.gens) (hn : ∀ cls, c.raises args cls = false) (hp : c.post args (.bool true) args = true) (hos : s'.os = s₁.os) :
    GoodWG c cl mean args s₁ (.ok (.ret (.bool true))) s' := ⟨.inl ⟨_, _, [], rfl, hn, .bool true, hp, unshared_nil⟩, .of_keep F.keep, hos, hb⟩

theorem law_holds : PySem.Challenge.rw_nb0128_01.Holds := by
  refine hd ?_
  k_fill
  intro w s₀ s₁ mg mb G Y fa o pm cd doc dV kV ho hd hcd hD hmg hg args vals as hpre hlay hrd hwl hlo
  have KX := kIn_of Y
  lge_behind G ho hd hcd hD hmg hpre hlay hrd hwl hlo cd
  (rename LGe.Mark => lgeM)
  clear lgeM
  k_drop
  try k_fold
  iterate 58 walk1
  clear hcd hD
  (rename News _ _ _ _ => Nt)
  (rename Fr _ _ _ _ => Ft)
  refine text_mid Ft Nt ?text ?rest
  case text =>
    k_steps
    · exact TextEnd.intro (by decide +kernel) (by decide +kernel) (by intro c hc; revert c; decide +kernel) (by k_asm) (by k_asm) (fun p hp => by repeat (first | exact hp | refine List.Mem.tail _ ?_))
    · (rename IntsAre _ (List.take _ _) => hIt)
      (rename decide (List.drop 1 _ = []) = false => hne)
      k_dflt (refine' LCg.CompSrc.ledger ?hh ?F ?N ?hm ?hsz ?_)
      case hh => exact rfl
      case F => k_asm
      case N => k_asm
      case hm => k_mem
      case hsz => rw [sizeLine_eq]; simp; have := hIt.length; omega
      intro gg
      refine rest_of (El := fun k y => ∃ x u, y = .str x u ∧ x.length = 1 ∧ okS x) (.inr ⟨_, by k_mem, rfl, _, rfl⟩) ?turn ?fin
      case turn =>
        intro k v I oI C oC D m₂ h tk3 ys E' hk hP hC hx F' N' off ne
        obtain ⟨z, u, rfl⟩ := ints_at hIt (by simpa using hP)
        try dsimp only
        k_steps
        exact ElEnd.intro ⟨_, _, rfl, (sign_of z).1, (sign_of z).2⟩ (by k_asm) (by k_asm) (fun p hp => hp)
      case fin =>
        intro ys hl hy
        obtain ⟨xs, hS, hx1, hxo⟩ := singles hy
        have hs1 := sum_ones hx1
        have hxl := hS.length
        have hln : xs.length ≤ 7 ∧ 1 ≤ xs.length := by
          have h1 := hIt.length
          simp only [List.size_toArray] at hl
          rw [← hxl, hl, h1]
          exact take_len (of_decide_eq_false hne)
        k_steps
        exact TextEnd.intro (by rw [catS_len, hs1]; exact hln.2) (by rw [catS_len, hs1]; exact hln.1) (cat_ok hxo) (by k_asm) (by k_asm) (fun p hp => by repeat (first | exact hp | refine List.Mem.tail _ ?_))
  case rest =>
    intro head hh0 hh500 t tok h' tk' ht1 ht7 hok F' N'
    clear Ft Nt
    iterate 35 walk1
    (rename Fr _ _ _ _ => F2)
    refine rest_mid F2 hh0 hh500 ?_
    clear F2
    intro more kd i j hm0 hm5 hk0 hk4 hi0 hi5 hj0 hj5 F2
    iterate 62 walk1
    (rename Fr _ _ _ _ => F3)
    (rename News _ _ _ _ => N3)
    (rename IntsAre _ (rowFor _ _ _ _) => hIr)
    (rename (Str.cps _).toList = List.replicate _ _ ++ _ => hz)
    k_dflt (refine' cut_use ?B ?F ?X ?N ?T ?K ?hR ?hI ?hz ht1 ht7 hm0 hm5 hk0 hk4 ?hb ?d ?u ?_)
    case B => k_asm
    case F => exact F3
    case X => k_asm
    case N => exact N3
    case T => k_asm
    case K => exact rfl
    case hR => k_mem
    case hI => exact hIr
    case hz => exact hz
    case hb => exact .of_eq hg
    case d => ktr_room
    case u => ktr_units
    clear F3 N3
    intro r1 p1 a1 b1 c1 cp1 ps1 h1 tk1 ge hge F3 N3 hS1
    iterate 15 walk1
    k_dflt (refine' due_use ?B ?F ?X ?N ?T ?K ⟨ht1, ht7, hm0, hm5, hi0, hi5, hj0, hj5, hk0, hk4⟩ ?d ?u ?_)
    case B => k_asm
    case F => exact F3
    case X => k_asm
    case N => exact N3
    case T => k_asm
    case K => exact rfl
    case d => ktr_room
    case u => ktr_units
    clear F3 N3
    intro r2 p2 a2 b2 c2 cp2 ps2 h2 tk2 F3 N3 hS2
    refine eq_due N3 (by k_mem) (by k_mem) (by k_mem) (by k_mem) hS1 hS2 (dueTag_ok kd) (dueLeft_ok hok ht1 more i j kd) (dueParts_ok hok ht1 more i j kd) ?u ?_
    case u => ke_room
    show GoodWG _ _ _ _ _ _ _
    refine good_true F3 hge ?hn ?hp rfl
    case hn => exact raisesW_false (by wrow_none_raised)
    case hp =>
      first | rfl | decide +kernel | exact postW_of (by o_shape) (by wtm_val) (by w_fin)
end Mine
end

theorem PySem.Challenge.cw_nb0128_01_holds : PySem.Challenge.rw_nb0128_01.Holds := by
  exact Mine.law_holds
