import PyProof.Rows.All
import Wide.All
import OpenK.AllK
import Wide.FinOn
import PySem.Challenge.RW_pe0019_01
open PySem PySem.W PyProof.Rows
set_option Elab.async false
/-! # H0 -/
namespace Mine
set_option maxRecDepth 100000 in
set_option maxHeartbeats 8000000 in
open_top hd for PySem.Challenge.rw_pe0019_01
end Mine

/-! # Pre -/
namespace Mine
abbrev nl : Str := Str.ofString "\n"
abbrev tupO (vs : List Value) : Obj := { cls := .type "tuple", data := .seq vs.toArray }
abbrev lisO (vs : List Value) : Obj := { cls := .type "list", data := .seq vs.toArray }
def sdocL (ls : List Str) : Str × Str :=
  if ls.length = 1 then (ls.getD 0 (Str.ofString ""), Str.ofString "")
  else if 2 ≤ ls.length ∧ (Txt.rstrip (ls.getD 1 (Str.ofString ""))).length = 0 then (ls.getD 0 (Str.ofString ""), Txt.join nl (ls.drop 2))
  else (Str.ofString "", Txt.join nl ls)
def sdoc (x : Str) : Str × Str := sdocL (Txt.split (Txt.strip x) nl)
theorem strValues_drop (l : List (Str × Tok)) (k : Nat) : (strValues l).drop k = strValues (l.drop k) := by
  simp [strValues]
theorem strValues_length (l : List (Str × Tok)) : (strValues l).length = l.length := by simp [strValues]
theorem strs_split_bound {l : List (Str × Tok)} {x : Str} (hx : l.map (·.1) = Txt.split (Txt.strip x) nl) (hz : x.length ≤ 1000) : ((l.map (·.1)).map (·.length)).sum + (l.map (·.1)).length ≤ 1001 := by
  have hw : ((l.map (·.1)).map (·.length)).sum + (l.map (·.1)).length ≤ (Txt.strip x).length + 1 := weighs_of_split hx (by decide)
  have h1 := fact_strip x
  omega
theorem mem_len {ls : List Str} {i : Nat} {y x : Str} {B : Nat} (h : ls[i]? = some y) (ha : ∀ a ∈ ls, a.length ≤ B) (hb : B ≤ x.length) (hx : x.length ≤ 1000) : y.length ≤ sizeLine := by
  have := ha y (List.mem_of_getElem? h)
  rw [sizeLine_eq]; omega
section
variable {prog : Program} {w : World} {A : Around} {E : Value → Shared → Prop} {s : Shared} {h₀ : Heap} {L : Addr} {m : Str → Option Value} {news : List (Addr × Obj)}
theorem truthy_r {y : Str} {t : Tok} {Q : Bool → Shared → Prop} (hr : (Txt.rstrip y).length ≤ y.length) (hb : y.length ≤ sizeLine) (h : Q (!decide ((Txt.rstrip y).length = 0)) { s with toks := s.toks + 1 + 1 }) : wpAny (model prog w) A (PySem.truthy (.str (Txt.rstrip y) t)) Q E s := by
  rw [sizeLine_eq] at hb
  refine SBL.truthy (by omega) ?_
  have : (((Txt.rstrip y).length : Int) != 0) = !decide ((Txt.rstrip y).length = 0) := by
    by_cases e : (Txt.rstrip y).length = 0
    · simp [e]
    · simp [e]
  rw [this]; exact h
/-- a made list of texts, cut from a place on -/
theorem slice_strs {value slice : PySem.Expr} {l : Addr} {k : Int} {u : Tok} {ls : List (Str × Tok)} {x : Str} {Q : Value → Shared → Prop} (F : Fr h₀ L s.heap m) (N : News h₀ L s.heap news) (hl : (l, lisO (strValues ls)) ∈ news)
    (hx : ls.map (·.1) = Txt.split (Txt.strip x) nl) (hz : x.length ≤ 1000) (h0 : 0 ≤ k) (hk : k ≤ ls.length)
    (h : ∀ D h', Fr h₀ L h' m → News h₀ L h' ((D, lisO (strValues (ls.drop k.toNat))) :: news) → AllLt D news → Q (.ref D) { s with heap := h' })
    (hs : subscripted slice false (.ref l) (.ref s.heap.objs.size) = operate [.ref s.heap.objs.size, .ref l] (getItem (.ref l) (.ref s.heap.objs.size)) := by with_unfolding_all rfl)
    (ht : ∀ r, letTemporaryGo value (.ref l) r = pure () := by intro _; with_unfolding_all rfl) :
    wpAny (model prog w) A (subscriptTail value slice (.ref l) (.ref s.heap.objs.size)) Q E { s with heap := s.heap.push { cls := .type "slice", data := .fields #[.int k u, .none, .none] } } := by
  have hw' := strs_split_bound hx hz
  rw [List.length_map] at hw'
  have ek : k = (k.toNat : Int) := by omega
  refine kmk_slice_lit F N (News.isList N hl) (.int _ _) .none (zs := strValues (ls.drop k.toNat)) ?_ (fun D h' F' N' l1 => h D h' F' N' (allLt_of l1)) hs ht (by rw [sizeLine_eq]; simp only [List.size_toArray, strValues_length]; omega)
  rw [ek, slicePick_from _ _ (by simp only [List.size_toArray, strValues_length]; omega)]
  simp only [strValues_drop]; rfl
theorem join_strs {l : Addr} {ls : List (Str × Tok)} {x sep : Str} {k : Nat} {t : Tok} {Q : Value → Shared → Prop} (N : News h₀ L s.heap news) (hl : (l, lisO (strValues (ls.drop k))) ∈ news)
    (hx : ls.map (·.1) = Txt.split (Txt.strip x) nl) (hz : x.length ≤ 1000) (hs : sep.length ≤ 16) (h : ∀ t' k', Q (.str (Txt.join sep ((ls.drop k).map (·.1))) t') { s with toks := k' }) :
    wpAny (model prog w) A (call (.builtin "str.join") [.str sep t, .ref l]) Q E s := by
  refine join_listW (News.isList N hl) (strsAre_of_values _) hs ?_ h
  have hb := strs_split_bound hx hz
  have e : ∀ (l : List Str) (k : Nat), ((l.drop k).map (·.length)).sum + (l.drop k).length ≤ (l.map (·.length)).sum + l.length := by
    intro l
    induction l with
    | nil => intro k; simp
    | cons a r ih =>
      intro k
      cases k with
      | zero => simp
      | succ k => have := ih k; simp only [List.drop_succ_cons, List.map_cons, List.sum_cons, List.length_cons]; omega
  have := e (ls.map (·.1)) k
  rw [List.map_drop]
  omega
end
theorem sdoc1 {l : List (Str × Tok)} {x y : Str} (hx : l.map (·.1) = Txt.split (Txt.strip x) nl) (h1 : (l.length : Int) = 1) (hy : (l.map (·.1))[Int.toNat 0]? = some y) : sdoc x = (y, Str.ofString "") := by
  unfold sdoc sdocL
  rw [← hx, List.length_map, if_pos (by omega)]
  have : (l.map (·.1)).getD 0 (Str.ofString "") = y := by rw [List.getD_eq_getElem?_getD]; erw [hy]; rfl
  rw [this]
theorem sdoc2 {l : List (Str × Tok)} {x y z : Str} (hx : l.map (·.1) = Txt.split (Txt.strip x) nl) (h1 : ¬ (l.length : Int) = 1) (h2 : 2 ≤ (l.length : Int)) (hz : (l.map (·.1))[Int.toNat 1]? = some z) (hr : (Txt.rstrip z).length = 0) (hy : (l.map (·.1))[Int.toNat 0]? = some y) :
    sdoc x = (y, Txt.join nl ((l.drop 2).map (·.1))) := by
  unfold sdoc sdocL
  have e0 : (l.map (·.1)).getD 0 (Str.ofString "") = y := by rw [List.getD_eq_getElem?_getD]; erw [hy]; rfl
  have e1 : (l.map (·.1)).getD 1 (Str.ofString "") = z := by rw [List.getD_eq_getElem?_getD]; erw [hz]; rfl
  rw [← hx, List.length_map, if_neg (by omega), e1, if_pos ⟨by omega, hr⟩, e0, List.map_drop]
theorem sdoc3 {l : List (Str × Tok)} {x z : Str} (hx : l.map (·.1) = Txt.split (Txt.strip x) nl) (h1 : ¬ (l.length : Int) = 1) (hz : (l.map (·.1))[Int.toNat 1]? = some z) (hr : ¬ (Txt.rstrip z).length = 0) :
    sdoc x = (Str.ofString "", Txt.join nl ((l.drop 0).map (·.1))) := by
  unfold sdoc sdocL
  have e1 : (l.map (·.1)).getD 1 (Str.ofString "") = z := by rw [List.getD_eq_getElem?_getD]; erw [hz]; rfl
  rw [← hx, List.length_map, if_neg (by omega), e1, if_neg (fun h => hr h.2)]; rfl
theorem sdoc4 {l : List (Str × Tok)} {x : Str} (hx : l.map (·.1) = Txt.split (Txt.strip x) nl) (h1 : ¬ (l.length : Int) = 1) (h2 : ¬ 2 ≤ (l.length : Int)) :
    sdoc x = (Str.ofString "", Txt.join nl ((l.drop 0).map (·.1))) := by
  unfold sdoc sdocL
  rw [← hx, List.length_map, if_neg (by omega), if_neg (fun h => h2 (by omega))]; rfl
theorem sd_end {h₀ h' : Heap} {L : Addr} {m : Str → Option Value} {news rest : List (Addr × Obj)} {s : Shared} {Q : Value → Shared → Prop} {x y z : Str} {D : Addr} {t1 t2 : Tok} {tk' : Nat}
    (hret : ∀ (D : Addr) (t1 t2 : Tok) (h' : Heap) (tk' : Nat), Fr h₀ L h' m → News h₀ L h' ((D, tupO [.str (sdoc x).1 t1, .str (sdoc x).2 t2]) :: news) → AllLt D news → Q (.ref D) { s with heap := h', toks := tk' })
    (e : sdoc x = (y, z)) (F : Fr h₀ L h' m) (N : News h₀ L h' ((D, tupO [.str y t1, .str z t2]) :: rest)) (hs : ∀ p ∈ news, p ∈ rest) (hl : AllLt D news) : Q (.ref D) { s with heap := h', toks := tk' } := by
  refine hret D t1 t2 h' tk' F ?_ hl
  rw [e]
  intro p hp
  rcases List.mem_cons.mp hp with rfl | hp
  · exact N _ (.head _)
  · exact N _ (.tail _ (hs p hp))
theorem sub0 {α : Type} {l : List α} : ∀ p ∈ l, p ∈ l := fun _ h => h
theorem sub1 {α : Type} {a : α} {l : List α} : ∀ p ∈ l, p ∈ a :: l := fun _ h => .tail _ h
theorem sub2 {α : Type} {a b : α} {l : List α} : ∀ p ∈ l, p ∈ a :: b :: l := fun _ h => .tail _ (.tail _ h)
/-- what one turn of the program's replace makes -/
def rp (x a b : Str) : Str := Txt.join b (Txt.split x a)
section
variable {prog : Program} {w : World} {A : Around} {E : Value → Shared → Prop} {s : Shared} {h₀ : Heap} {L : Addr} {m : Str → Option Value} {news : List (Addr × Obj)}
theorem rp_split {x y : Str} {t u : Tok} {Q : Value → Shared → Prop} (hF : Fr h₀ L s.heap m) (hN : News h₀ L s.heap news) (hy : 1 ≤ y.length) (hx : x.length ≤ 100000)
    (h : ∀ D l h' k, l.map (·.1) = Txt.split x y → Fr h₀ L h' m → News h₀ L h' ((D, lisO (strValues l)) :: news) → AllLt D news → Q (.ref D) { s with heap := h', toks := k }) :
    wpAny (model prog w) A (call (.builtin "str.split") [.str x t, .str y u]) Q E s :=
  KSpl.split1 hF hN (by simp only [beq_eq_false_iff_ne]; omega) (fun D l h' k e _ F N hl => h D l h' k e F N (allLt_of hl)) (by rw [sizeLine_eq]; omega)
theorem rp_join {D : Addr} {l : List (Str × Tok)} {x a b : Str} {t : Tok} {Q : Value → Shared → Prop} (N : News h₀ L s.heap news) (hl : (D, lisO (strValues l)) ∈ news)
    (e : l.map (·.1) = Txt.split x a) (ha : 1 ≤ a.length) (hb : b.length ≤ 4) (hx : x.length ≤ 100000) (h : ∀ t' k', (rp x a b).length ≤ 4 * (x.length + 1) → Q (.str (rp x a b) t') { s with toks := k' }) :
    wpAny (model prog w) A (call (.builtin "str.join") [.str b t, .ref D]) Q E s := by
  have hw := weighs_of_split e ha
  have hw' : ((l.map (·.1)).map (·.length)).sum + (l.map (·.1)).length ≤ x.length + 1 := hw
  refine join_listW (News.isList N hl) (strsAre_of_values _) (by omega) (by omega) fun t' k' => ?_
  have e2 : Txt.join b (l.map (·.1)) = rp x a b := by rw [e]; rfl
  rw [e2]
  exact h t' k' (by rw [← e2]; exact len_join_le hw hb)
end
theorem rp_end {h₀ h' : Heap} {L : Addr} {m : Str → Option Value} {news rest : List (Addr × Obj)} {s : Shared} {Q : Value → Shared → Prop} {x : Str} {t : Tok} {tk' : Nat}
    (hret : ∀ (t : Tok) (h' : Heap) (tk' : Nat), Fr h₀ L h' m → News h₀ L h' news → Q (.str x t) { s with heap := h', toks := tk' })
    (F : Fr h₀ L h' m) (N : News h₀ L h' rest) (hs : ∀ p ∈ news, p ∈ rest) : Q (.str x t) { s with heap := h', toks := tk' } := hret t h' tk' F fun p hp => N p (hs p hp)
section
variable {prog : Program} {w : World} {A : Around} {E : Value → Shared → Prop} {s : Shared} {h₀ : Heap} {L : Addr} {m : Str → Option Value} {news : List (Addr × Obj)}
theorem slice_tup2 {value slice : PySem.Expr} {t : Addr} {v0 v1 : Value} {vs : List Value} {u : Tok} {Q : Value → Shared → Prop}
    (F : Fr h₀ L s.heap m) (N : News h₀ L s.heap news) (ht : (t, tupO (v0 :: v1 :: vs)) ∈ news) (hz : vs.length ≤ 100)
    (h : ∀ D h', Fr h₀ L h' m → News h₀ L h' ((D, tupO vs) :: news) → AllLt D news → Q (.ref D) { s with heap := h' })
    (hs : subscripted slice false (.ref t) (.ref s.heap.objs.size) = operate [.ref s.heap.objs.size, .ref t] (getItem (.ref t) (.ref s.heap.objs.size)) := by with_unfolding_all rfl)
    (hg : ∀ r, letTemporaryGo value (.ref t) r = pure () := by intro _; with_unfolding_all rfl) :
    wpAny (model prog w) A (subscriptTail value slice (.ref t) (.ref s.heap.objs.size)) Q E { s with heap := s.heap.push { cls := .type "slice", data := .fields #[.int 2 u, .none, .none] } } :=
  slice_tuple_from (a := 2) F N (News.isTup N ht) (by decide) (by simp) (fun h' F' N' => h _ h' F' N' (allLt_of fun p hp => Nat.lt_succ_of_lt (Heap.lt_size (N p hp).1))) hs hg (by rw [sizeLine_eq]; simp; omega)
end
end Mine

/-! # Seq -/
namespace Mine
/-- the end of a cut: the statements have gone through, and P holds -/
def Reach (P : Shared → Prop) (f : Flow) (s : Shared) : Prop := f = .next ∧ P s
/-- the walk stands still here -/
def StopAt (P : Prop) : Prop := P
theorem StopAt.go {P : Prop} (h : P) : StopAt P := h
theorem StopAt.out {P : Prop} (h : StopAt P) : P := h
section
variable {M : Model} {A : Around} {E : Value → Shared → Prop} {env : Env} {Q : Flow → Shared → Prop}
theorem seq_wp (P : Shared → Prop) (Γ) : ∀ (ss : List Stmt) {rest : List Stmt} (p) (s : Shared), Sem.wp M Γ (execs ss env) (fun a _ s' => Reach P a s') (fun e _ s' => E e s') p s → (∀ p' s', P s' → Sem.wp M Γ (execs rest env) (fun a _ s' => Q a s') (fun e _ s' => E e s') p' s') →
    Sem.wp M Γ (execs (ss ++ rest) env) (fun a _ s' => Q a s') (fun e _ s' => E e s') p s
  | [], rest, p, s, h1, h2 => h2 p s (show Reach P .next s from h1).2
  | st :: ss, rest, p, s, h1, h2 => by
    rw [List.cons_append, execs_cons, Sem.wp_bind']
    rw [execs_cons, Sem.wp_bind'] at h1
    refine Sem.wp_mono M Γ _ (fun f p' s' h' => ?_) (fun _ _ _ h' => h') _ _ h1
    cases f with
    | next => exact seq_wp P Γ ss p' s' h' h2
    | brk => exact absurd (show Reach P .brk s' from h').1 (by intro e; cases e)
    | cont => exact absurd (show Reach P .cont s' from h').1 (by intro e; cases e)
    | ret v => exact absurd (show Reach P (.ret v) s' from h').1 (by intro e; cases e)
theorem seq_app (P : Shared → Prop) (ss : List Stmt) {rest : List Stmt} {s : Shared} (h1 : wpAny M A (execs ss env) (Reach P) E s) (h2 : ∀ s', P s' → wpAny M A (execs rest env) Q E s') : wpAny M A (execs (ss ++ rest) env) Q E s :=
  fun Γ p hΓ => seq_wp P Γ ss p s (h1 Γ p hΓ) fun p' s' hp => h2 s' hp Γ p' hΓ
variable {s : Shared} {rest : List Stmt}
theorem seq1 {a : Stmt} (P : Shared → Prop) (h1 : wpAny M A (execs [a] env) (Reach P) E s) (h2 : ∀ s', P s' → wpAny M A (execs rest env) Q E s') : wpAny M A (execs (a :: rest) env) Q E s := seq_app P [a] h1 h2
theorem seq2 {a b : Stmt} (P : Shared → Prop) (h1 : wpAny M A (execs [a, b] env) (Reach P) E s) (h2 : ∀ s', P s' → wpAny M A (execs rest env) Q E s') : wpAny M A (execs (a :: b :: rest) env) Q E s := seq_app P [a, b] h1 h2
theorem seq3 {a b c : Stmt} (P : Shared → Prop) (h1 : wpAny M A (execs [a, b, c] env) (Reach P) E s) (h2 : ∀ s', P s' → wpAny M A (execs rest env) Q E s') : wpAny M A (execs (a :: b :: c :: rest) env) Q E s := seq_app P [a, b, c] h1 h2
theorem seq5 {a b c d e : Stmt} (P : Shared → Prop) (h1 : wpAny M A (execs [a, b, c, d, e] env) (Reach P) E s) (h2 : ∀ s', P s' → wpAny M A (execs rest env) Q E s') : wpAny M A (execs (a :: b :: c :: d :: e :: rest) env) Q E s := seq_app P [a, b, c, d, e] h1 h2
end
end Mine

/-! # S1 -/
namespace Mine
section
local macro_rules | `(tactic| walk_at "call builtin:str.rstrip") => `(tactic| ((refine SCL.rstrip (hsz := ?hsz) ?_); (case hsz => exact mem_len (by assumption) (by assumption) (by assumption) (by assumption)); intro _ _ _))
local macro_rules | `(tactic| walk_at "truthy str") => `(tactic| (refine truthy_r (by assumption) (mem_len (by assumption) (by assumption) (by assumption) (by assumption)) ?_))
local macro_rules | `(tactic| walk_at "subscriptTail Name Slice ref ref") => `(tactic| (k_dflt (refine slice_strs (by k_asm) (by k_asm) (by k_mem) (by assumption) (by assumption) (by decide) (by omega) ?_); intro D' h' F' N' l1; (try k_sweep)))
local macro_rules | `(tactic| walk_at "call builtin:str.join") => `(tactic| (k_dflt (first | (refine join_strs (by k_asm) (by k_mem) (by assumption) (by assumption) (by decide) ?_; k_whole) | (refine join_strs (k := 0) (by k_asm) (by k_mem) (by assumption) (by assumption) (by decide) ?_; k_whole)); intro _ _))

set_option maxRecDepth 100000 in
set_option maxHeartbeats 4000000 in
theorem splitdoc_c (w : World) (p : Program) (loose : List Str) (mean : ExcName → Option Value) (mg mb : Str → Option Value) :
  ∀ (x : Str) (tx : Tok) (dp un : Nat) (gd : Option (List Code)) (cn : Str) (cs : Scope) (a : Addr) (ccd : Value) (cl : List (Str × Addr)) (outer : List Env) (A₀ : Around) (base h₀ : Heap) (L : Addr) (m : Str → Option Value) (news : List (Addr × Obj)) (s : Shared) (Q E : Value → Shared → Prop),
    Below A₀ base outer h₀ → Fr h₀ L s.heap m → (Mine.hd.heap_39 w.params).In h₀ → News h₀ L s.heap news → Top p loose mean mg mb h₀ → cs.kind = .function →
    x.length ≤ 1000 →
    dp + 1 < recursionLimit → un + 8 < cLine → 
    (∀ (D : Addr) (t1 t2 : Tok) (h' : Heap) (tk' : Nat), Fr h₀ L h' m → News h₀ L h' ((D, tupO [.str (sdoc x).1 t1, .str (sdoc x).2 t2]) :: news) → AllLt D news → Q (.ref D) { s with heap := h', toks := tk' }) →
      wpAny (model Challenge.rw_pe0019_01.row.prog w) (ktrTop dp un gd cn cs L a ccd cl outer) (call (.ref 21) [.str x tx]) Q E s := by
  w_top off
  k_fill
  intros
  rename_i hret
  refine wpAny_call ?_
  k_dflt cell_enter
  k_steps
  · exact sd_end hret (sdoc1 (by assumption) (by assumption) (by assumption)) (by assumption) (by assumption) sub1 (by exact And.right (by assumption))
  · exact sd_end hret (sdoc2 (by assumption) (by assumption) (by assumption) (by assumption) (by assumption) (by assumption)) (by assumption) (by assumption) sub2 (by exact And.right (And.right (by assumption)))
  · exact sd_end hret (sdoc3 (by assumption) (by assumption) (by assumption) (by assumption)) (by assumption) (by assumption) sub1 (by exact And.right (by assumption))
  · exact sd_end hret (sdoc4 (by assumption) (by assumption) (by omega)) (by assumption) (by assumption) sub1 (by exact And.right (by assumption))
end
end Mine

/-! # R0 -/
namespace Mine
section
local macro_rules | `(tactic| walk_at "idle") => `(tactic| fail)
local macro_rules | `(tactic| walk_at "exec") => `(tactic| (k_here; k_dflt (refine whl_start 100 ?_)))

local macro_rules | `(tactic| walk_at "call builtin:str.split") => `(tactic| (k_dflt (refine rp_split (by k_asm) (by k_asm) (by assumption) (by omega) ?_; k_whole); intro D' l' h' k' e' F' N' l1; (try k_sweep)))
local macro_rules | `(tactic| walk_at "call builtin:str.join") => `(tactic| (k_dflt (refine rp_join (by k_asm) (by k_mem) (by assumption) (by assumption) (by assumption) (by omega) ?_; k_whole); intro t' k' len'))
local macro_rules | `(tactic| walk_at "subscriptTail Name Slice ref ref") => `(tactic| (k_dflt (refine slice_tup2 (by k_asm) (by k_asm) (by k_mem) (Nat.le_of_ble_eq_true rfl) ?_; k_whole); intro D' h' F' N' l1; (try k_sweep)))
set_option maxRecDepth 100000 in
set_option maxHeartbeats 4000000 in
theorem replace_c (w : World) (p : Program) (loose : List Str) (mean : ExcName → Option Value) (mg mb : Str → Option Value) :
  ∀ (x a1 b1 a2 b2 a3 b3 : Str) (tx t1 t2 t3 t4 t5 t6 : Tok) (dp un : Nat) (gd : Option (List Code)) (cn : Str) (cs : Scope) (a : Addr) (ccd : Value) (cl : List (Str × Addr)) (outer : List Env) (A₀ : Around) (base h₀ : Heap) (L : Addr) (m : Str → Option Value) (news : List (Addr × Obj)) (s : Shared) (Q E : Value → Shared → Prop),
    Below A₀ base outer h₀ → Fr h₀ L s.heap m → (Mine.hd.heap_39 w.params).In h₀ → News h₀ L s.heap news → Top p loose mean mg mb h₀ → cs.kind = .function →
    x.length ≤ 100 → 1 ≤ a1.length → 1 ≤ a2.length → 1 ≤ a3.length → b1.length ≤ 4 → b2.length ≤ 4 → b3.length ≤ 4 →
    dp + 1 < recursionLimit → un + 8 < cLine → 
    (∀ (t : Tok) (h' : Heap) (tk' : Nat), Fr h₀ L h' m → News h₀ L h' news → Q (.str (rp (rp (rp x a1 b1) a2 b2) a3 b3) t) { s with heap := h', toks := tk' }) →
      wpAny (model Challenge.rw_pe0019_01.row.prog w) (ktrTop dp un gd cn cs L a ccd cl outer) (call (.ref 28) [.str x tx, .str a1 t1, .str b1 t2, .str a2 t3, .str b2 t4, .str a3 t5, .str b3 t6]) Q E s := by
  w_top off
  k_fill
  intros
  rename_i hret
  refine wpAny_call ?_
  k_dflt (refine' kp_rest ?k1 ?k2 ?k3 ?k4 ?k5 ?kA ?kF ?kK ?k6 ?k7 ?k8 ?kV ?kP ?kG ?kB ?_ ?c2 ?c3 ?c4 ?c5; (case kA => exact rfl); (case kF => exact rfl); (case kK => assumption); (case k1 => k_asm); (case k2 => k_asm); (case k3 => k_asm); (case k4 => k_asm); (case k5 => k_asm); (case k6 => k_is); (case k7 => k_is); (case k8 => ktr_room); (case kV => kl_lit); (case kP => exact rfl); (case kG => exact fun _ => rfl); (case kB => exact fun _ => locs rfl); (case c5 => decide); (case c2 => exact rfl); (case c3 => exact rfl); (case c4 => exact rfl); k_whole; intro D' g' L' h' l1 FG' F' N' B' X' T'; (try k_lt l1); (try dsimp only); (try k_lift B'); (try k_fold))
  k_steps
  all_goals exact rp_end hret (by assumption) (by assumption) (fun p hp => by repeat (first | exact hp | refine List.Mem.tail _ ?_))
end
end Mine

/-! # T2 -/
namespace Mine
/-- how many signs (or 4: no text) -/
def sizeOf (x : Int) : Int := Int.fmod (Int.fdiv x 9) 5
def alpha : Str := Str.ofString "ab!ns. \n"
def signOf (x k : Int) : Str := ⟨#[alpha.cps.getD (Int.fmod (Int.fdiv (Int.fdiv x 45) (8 ^ k.toNat)) 8).toNat 0]⟩
def textOf (x : Int) : Str := Txt.join (Str.ofString "") ((rangeKs 0 (sizeOf x - 0).toNat).map (signOf x))
section
variable {prog : Program} {w : World} {A : Around} {E : Value → Shared → Prop} {s : Shared} {h₀ : Heap} {L : Addr} {m : Str → Option Value} {news : List (Addr × Obj)}
theorem tup3 {value slice : PySem.Expr} {D : Addr} {v0 v1 v2 : Value} {k : Int} {u : Tok} {Q : Value → Shared → Prop} (N : News h₀ L s.heap news) (hm : (D, tupO [v0, v1, v2]) ∈ news) (h0 : 0 ≤ k) (h3 : k < 3)
    (q0 : k = 0 → Q v0 s) (q1 : k = 1 → Q v1 s) (q2 : k = 2 → Q v2 s)
    (hs : subscripted slice false (.ref D) (.int k u) = operate [.ref D, .int k u] (getItem (.ref D) (.int k u)) := by with_unfolding_all rfl) :
    wpAny (model prog w) A (subscriptTail value slice (.ref D) (.int k u)) Q E s := by
  rcases (by omega : k = 0 ∨ k = 1 ∨ k = 2) with rfl | rfl | rfl
  · exact item_tupleT (l := [v0, v1, v2]) (j := 0) (News.isTup N hm) (by decide) (by decide) (by rfl) rfl (q0 rfl) hs
  · exact item_tupleT (l := [v0, v1, v2]) (j := 1) (News.isTup N hm) (by decide) (by decide) (by rfl) rfl (q1 rfl) hs
  · exact item_tupleT (l := [v0, v1, v2]) (j := 2) (News.isTup N hm) (by decide) (by decide) (by rfl) rfl (q2 rfl) hs
theorem item_alpha {value slice : PySem.Expr} {k : Int} {u t : Tok} {Q : Value → Shared → Prop} (h0 : 0 ≤ k) (h8 : k < 8) (h : ∀ t', Q (.str ⟨#[alpha.cps.getD k.toNat 0]⟩ t') { s with toks := s.toks + 1 })
    (hs : subscripted slice false (.str (Str.ofString "ab!ns. \n") t) (.int k u) = operate [.str (Str.ofString "ab!ns. \n") t, .int k u] (getItem (.str (Str.ofString "ab!ns. \n") t) (.int k u)) := by with_unfolding_all rfl) :
    wpAny (model prog w) A (subscriptTail value slice (.str (Str.ofString "ab!ns. \n") t) (.int k u)) Q E s := by
  refine tail_any (typeIs_str _ _ _) F.slot_str_getitem.lookup ?_ hs
  refine P.getItem_str (c := alpha.cps.getD k.toNat 0) ?_ ?_ (h _)
  · simp; omega
  · rcases (by omega : k = 0 ∨ k = 1 ∨ k = 2 ∨ k = 3 ∨ k = 4 ∨ k = 5 ∨ k = 6 ∨ k = 7) with rfl | rfl | rfl | rfl | rfl | rfl | rfl | rfl <;> decide +kernel
end
theorem fmod_bnd (a : Int) {b : Int} (hb : 0 < b) : 0 ≤ Int.fmod a b ∧ Int.fmod a b < b := ⟨Int.fmod_nonneg_of_pos a hb, Int.fmod_lt_of_pos a hb⟩
section
local macro_rules | `(tactic| k_steps) => `(tactic| repeat' (first | (k_unfold; (try dsimp only)) | walk1 | (dsimp only; walk1) | fail "no step"))
local macro_rules | `(tactic| walk_at "idle") => `(tactic| fail)
local macro_rules | `(tactic| walk_at "idle") => `(tactic| fail)
local macro_rules | `(tactic| walk_at "subscriptTail Name BinOp ref int") => `(tactic| (k_dflt (refine tup3 (by k_asm) (by k_mem) (fmod_bnd _ (by decide)).1 (fmod_bnd _ (by decide)).2 ?_ ?_ ?_) <;> intro hidx))
local macro_rules | `(tactic| walk_at "subscriptTail") => `(tactic| (with_reducible show wpAny _ _ (subscriptTail _ _ (Value.str _ _) (Value.int _ _)) _ _ _; k_dflt (refine item_alpha (fmod_bnd _ (by decide)).1 (fmod_bnd _ (by decide)).2 ?_); intro _))
local macro_rules | `(tactic| walk_at "binaryOp FloorDiv int int") => `(tactic| (refine floordiv_int (by exact Int.pow_ne_zero (by decide)) ?_))
local macro_rules | `(tactic| walk_at "CompSrc") => `(tactic| refine StopAt.out ?_)
set_option maxRecDepth 100000 in
set_option maxHeartbeats 4000000 in
theorem thing_c (w : World) (p : Program) (loose : List Str) (mean : ExcName → Option Value) (mg mb : Str → Option Value) :
  ∀ (x : Int) (tx : Tok) (dp un : Nat) (gd : Option (List Code)) (cn : Str) (cs : Scope) (a : Addr) (ccd : Value) (cl : List (Str × Addr)) (outer : List Env) (A₀ : Around) (base h₀ : Heap) (L : Addr) (m : Str → Option Value) (news : List (Addr × Obj)) (s : Shared) (Q E : Value → Shared → Prop),
    Below A₀ base outer h₀ → Fr h₀ L s.heap m → (Mine.hd.heap_39 w.params).In h₀ → News h₀ L s.heap news → Top p loose mean mg mb h₀ → cs.kind = .function →
    0 ≤ x → x < 23040 →
    dp + 1 < recursionLimit → un + 8 < cLine → 
    (sizeOf x ≠ 4 → ∀ (t : Tok) (h' : Heap) (tk' : Nat), Fr h₀ L h' m → News h₀ L h' news → Q (.str (textOf x) t) { s with heap := h', toks := tk' }) →
    (sizeOf x = 4 → ∀ (h' : Heap) (tk' : Nat), Fr h₀ L h' m → News h₀ L h' news → Q .none { s with heap := h', toks := tk' }) →
    (sizeOf x = 4 → ∀ (t : Tok) (h' : Heap) (tk' : Nat), Fr h₀ L h' m → News h₀ L h' news → Q (.int x t) { s with heap := h', toks := tk' }) →
    (sizeOf x = 4 → ∀ (D : Addr) (t : Tok) (h' : Heap) (tk' : Nat), Fr h₀ L h' m → News h₀ L h' ((D, lisO [.str (Str.ofString "a!") t]) :: news) → AllLt D news → Q (.ref D) { s with heap := h', toks := tk' }) →
      wpAny (model Challenge.rw_pe0019_01.row.prog w) (ktrTop dp un gd cn cs L a ccd cl outer) (call (.ref 41) [.int x tx]) Q E s := by
  w_top off
  k_fill
  intro x tx
  intros
  rename_i hS hN hI hL
  refine wpAny_call ?_
  k_dflt (refine' code_defC ?k1 ?k2 ?k3 ?k4 ?k5 ?kA ?kF ?kK ?k6 ?k7 ?k8 ?k9 ?kB ?kD ?_ ?c2 ?c3 ?c4; (case kA => exact rfl); (case kF => exact rfl); (case kK => assumption); (case k1 => k_asm); (case k2 => k_asm); (case k3 => k_asm); (case k4 => k_asm); (case k5 => k_asm); (case k6 => k_is); (case k7 => k_is); (case k8 => ktr_room); (case k9 => first | exact BindsTo.of_eq rfl | exact binds_K (by k_in) rfl (by k_is) rfl rfl rfl | fail "k_enter: no rule for these arguments"); (case kB => exact rfl); (case kD => decide +kernel); (case c2 => exact rfl); (case c3 => exact rfl); (case c4 => exact rfl); k_whole; intro g' L' h' tk' cells' FG' F' N' Y' B' X' T' l1; (try k_lt l1); k_cells Y'; (try simp only [List.cons_append, List.nil_append] at N'); (try dsimp only); (try k_lift B'); (try k_fold))
  k_steps
  rotate_left 3
  refine StopAt.go ?_
  have hb := fmod_bnd (Int.fdiv x 9) (b := 5) (by decide)
  refine LCg.CompSrc.range (by rfl) (by k_asm) (by k_asm) (by assumption) (by first | decide | exact small_one (by l_bnd) (by l_bnd) (by l_bnd) (by l_bnd)) (by first | exact rangeSize_nat _ _ | rfl) ?sz ?_
  case sz => rw [PySem.sizeLine_eq]; omega
  intro g'
  refine' kct_range (signOf x) (fun k' t' I' oI' C' oC' D' m' ys' h' tk' E' hlo' hhi' hC' hx' F' N' off' ne' => ?_) ?_
  · show KPfMark → _
    intro hMark'
    k_steps
    have hk3 : k' = 0 ∨ k' = 1 ∨ k' = 2 := by omega
    have hp8 : (8 ^ k'.toNat : Int).natAbs < 1073741824 := by rcases hk3 with e | e | e <;> rw [e] <;> decide
    refine floordiv_int (Int.pow_ne_zero (by decide)) ?_ (Or.inl (PyProof.noPylong_small hp8))
    k_steps
    exact LCg.CompEnd.intro F' N' _ (fun _ h => h) off' trivial ⟨rfl, _, rfl⟩
  · k_steps
    rename Fr _ _ _ _ => kF
    rename News _ _ _ _ => kN
    exact hS (by assumption) _ _ _ kF fun p hp => kN p (.tail _ (.tail _ hp))
  · rename Fr _ _ _ _ => kF
    rename News _ _ _ _ => kN
    exact hN (by assumption) _ _ kF fun p hp => kN p (.tail _ (.tail _ (.tail _ hp)))
  · rename Fr _ _ _ _ => kF
    rename News _ _ _ _ => kN
    exact hI (by assumption) _ _ _ kF fun p hp => kN p (.tail _ (.tail _ (.tail _ hp)))
  · rename Fr _ _ _ _ => kF
    rename News _ _ _ _ => kN
    exact hL (by assumption) _ _ _ _ kF (List.forall_mem_cons.mpr ⟨kN _ (.tail _ (.head _)), fun p hp => kN p (.tail _ (.tail _ (.tail _ hp)))⟩) (by exact And.right (by assumption))
end
end Mine

/-! # W0 -/
namespace Mine
def encS (c : Nat) : List Nat := if c = 33 then [33, 98] else if c = 10 then [33, 110] else if c = 32 then [33, 115] else [c]
def encRow (s : Str) : Str := ⟨(46 :: s.cps.toList.flatMap encS).toArray⟩
def failRow (k : Int) : Str := Str.ofString "<" ++ Str.ofString (toString k) ++ Str.ofString " <lambda>() failed>"
section
local macro_rules | `(tactic| k_steps) => `(tactic| repeat' (first | (k_unfold; (try dsimp only)) | walk1 | (dsimp only; walk1) | fail "no step"))
set_option maxRecDepth 100000 in
set_option maxHeartbeats 4000000 in
theorem row_non (w : World) (p : Program) (loose : List Str) (mean : ExcName → Option Value) (mg mb : Str → Option Value) :
  ∀ (v : Value) (k : Int) (tk : Tok) (dp un : Nat) (gd : Option (List Code)) (cn : Str) (cs : Scope) (a : Addr) (ccd : Value) (cl : List (Str × Addr)) (outer : List Env) (A₀ : Around) (base h₀ : Heap) (L : Addr) (m : Str → Option Value) (news : List (Addr × Obj)) (s : Shared) (Q E : Value → Shared → Prop),
    Below A₀ base outer h₀ → Fr h₀ L s.heap m → (Mine.hd.heap_39 w.params).In h₀ → News h₀ L s.heap news → Top p loose mean mg mb h₀ → cs.kind = .function →
    (v = .none ∨ (∃ i t, v = .int i t) ∨ ∃ D vs, v = .ref D ∧ (D, lisO vs) ∈ news) → 0 ≤ k → k < 100 →
    dp + 1 < recursionLimit → un + 8 < cLine → 
    (∀ (t : Tok) (h' : Heap) (tk' : Nat), Fr h₀ L h' m → News h₀ L h' news → Q (.str (failRow k) t) { s with heap := h', toks := tk' }) →
      wpAny (model Challenge.rw_pe0019_01.row.prog w) (ktrTop dp un gd cn cs L a ccd cl outer) (call (.ref 48) [v, .int k tk]) Q E s := by
  w_top off
  k_fill
  intros
  rename_i hv hk0 hk1 hd hu hret
  rcases hv with rfl | ⟨i, t, rfl⟩ | ⟨D, vs, rfl, hD⟩
  all_goals (refine wpAny_call ?_; k_dflt cell_enter; k_steps)
  all_goals exact rp_end hret (by assumption) (by assumption) sub0
theorem encRow_nil : Str.ofString "." = encRow (KStt.txt []) := by decide +kernel
theorem encRow_snoc (pre : List Int) (n : Nat) : encRow (KStt.txt (pre ++ [(n : Int)])) = encRow (KStt.txt pre) ++ ⟨(encS n).toArray⟩ := by
  rw [KStt.txt_snoc]
  refine PySem.Str.ext' (Array.toList_inj.mp ?_)
  unfold encRow
  rw [PySem.Str.cps_append, Array.toList_append]
  simp [PySem.Str.cps_append]
theorem encS_len (n : Nat) : (encS n).length ≤ 2 := by unfold encS; repeat' (first | split | simp)
theorem enc_turn {pre : List Int} {n : Nat} {r y : Str} (h1 : r = encRow (KStt.txt pre)) (h2 : r.length ≤ 1 + 2 * pre.length) (hy : y = ⟨(encS n).toArray⟩) :
    r ++ y = encRow (KStt.txt (pre ++ [(n : Int)])) ∧ (r ++ y).length ≤ 1 + 2 * (pre ++ [(n : Int)]).length := by
  subst hy
  refine ⟨by rw [encRow_snoc, h1], ?_⟩
  have := encS_len n
  rw [PySem.Str.length_append]
  simp only [List.length_append, List.length_cons, List.length_nil]
  have e : (⟨(encS n).toArray⟩ : Str).length = (encS n).length := by simp [PySem.Str.length]
  omega
theorem sign_eq {n : Nat} {c : Nat} {y : Str} (hy : y = ⟨#[c]⟩) (h : ((⟨#[n]⟩ : Str) == y) = true) : n = c := by
  subst hy
  have := eq_of_beq h
  injection this with e
  simpa using e
theorem sign_ne {n : Nat} {c : Nat} {y : Str} (hy : y = ⟨#[c]⟩) (h : ((⟨#[n]⟩ : Str) == y) = false) : n ≠ c := by
  subst hy
  rintro rfl
  rw [beq_self_eq_true] at h
  cases h
theorem e_b {n : Nat} (h : ((⟨#[n]⟩ : Str) == Str.ofString "!") = true) : Str.ofString "!b" = ⟨(encS n).toArray⟩ := by
  rw [sign_eq (c := 33) (by decide) h]; decide +kernel
theorem e_n {n : Nat} (h : ((⟨#[n]⟩ : Str) == Str.ofString "\n") = true) : Str.ofString "!n" = ⟨(encS n).toArray⟩ := by
  rw [sign_eq (c := 10) (by decide) h]; decide +kernel
theorem e_s {n : Nat} (h : ((⟨#[n]⟩ : Str) == Str.ofString " ") = true) : Str.ofString "!s" = ⟨(encS n).toArray⟩ := by
  rw [sign_eq (c := 32) (by decide) h]; decide +kernel
theorem e_o {n : Nat} (h1 : ((⟨#[n]⟩ : Str) == Str.ofString "!") = false) (h2 : ((⟨#[n]⟩ : Str) == Str.ofString "\n") = false) (h3 : ((⟨#[n]⟩ : Str) == Str.ofString " ") = false) : (⟨#[n]⟩ : Str) = ⟨(encS n).toArray⟩ := by
  have a := sign_ne (c := 33) (by decide) h1
  have b := sign_ne (c := 10) (by decide) h2
  have c := sign_ne (c := 32) (by decide) h3
  unfold encS
  rw [if_neg a, if_neg b, if_neg c]
set_option maxRecDepth 100000 in
set_option maxHeartbeats 4000000 in
theorem row_str (w : World) (p : Program) (loose : List Str) (mean : ExcName → Option Value) (mg mb : Str → Option Value) :
  ∀ (x : Str) (tx : Tok) (k : Int) (tk : Tok) (dp un : Nat) (gd : Option (List Code)) (cn : Str) (cs : Scope) (a : Addr) (ccd : Value) (cl : List (Str × Addr)) (outer : List Env) (A₀ : Around) (base h₀ : Heap) (L : Addr) (m : Str → Option Value) (news : List (Addr × Obj)) (s : Shared) (Q E : Value → Shared → Prop),
    Below A₀ base outer h₀ → Fr h₀ L s.heap m → (Mine.hd.heap_39 w.params).In h₀ → News h₀ L s.heap news → Top p loose mean mg mb h₀ → cs.kind = .function →
    x.length ≤ 100 →
    dp + 1 < recursionLimit → un + 8 < cLine → 
    (∀ (t : Tok) (h' : Heap) (tk' : Nat), Fr h₀ L h' m → News h₀ L h' news → Q (.str (encRow x) t) { s with heap := h', toks := tk' }) →
      wpAny (model Challenge.rw_pe0019_01.row.prog w) (ktrTop dp un gd cn cs L a ccd cl outer) (call (.ref 48) [.str x tx, .int k tk]) Q E s := by
  w_top off
  k_fill
  intro x tx
  intros
  rename_i hx hd hu hret
  refine wpAny_call ?_
  k_dflt cell_enter
  k_with "pyIter str" => k_state (fun pre row => row = encRow (KStt.txt pre) ∧ row.length ≤ 1 + 2 * pre.length) "row"
  k_with "state" => first | exact ⟨encRow_nil, by decide⟩ | exact enc_turn (by assumption) (by assumption) (e_b (by assumption)) | exact enc_turn (by assumption) (by assumption) (e_n (by assumption)) | exact enc_turn (by assumption) (by assumption) (e_s (by assumption)) | exact enc_turn (by assumption) (by assumption) (e_o (by simp_all) (by simp_all) (by simp_all))
  k_steps
  rename _ = encRow (KStt.txt (KStt.codes x)) => he
  rw [KStt.txt_codes] at he
  subst he
  exact rp_end hret (by assumption) (by assumption) sub0
end
end Mine

/-! # Loop -/
namespace Mine
section
variable {prog : Program} {w : World} {A : Around} {E : Value → Shared → Prop} {s : Shared} {env : Env} {h₀ : Heap} {x : Str} {body : List Stmt} {Q : Flow → Shared → Prop}
theorem range_loop {r : Addr} {a₀ b₀ : Int} {t₀ u₀ v₀ : Tok} {n : Nat} {m₀ : Str → Option Value} {news : List (Addr × Obj)} (J : Nat → (Str → Option Value) → List (Addr × Obj) → Prop)
    (hh : A.handled = none) (hr : IsRange s.heap r a₀ b₀ 1 t₀ u₀ v₀) (hsmall : Builtin.Range.small a₀ b₀ 1 = true) (hsz : Builtin.Range.rangeSize a₀ b₀ 1 = (n : Int)) (F : Fr h₀ env.locals s.heap m₀) (N : News h₀ env.locals s.heap news) (hj : J 0 m₀ news)
    (turn : ∀ i t m₁ nx h tk own, i < n → OwnOff own (nx.map (·.1)) → J i m₁ nx → Fr h₀ env.locals h (fun y => if y = x then some (.int (a₀ + (i : Int)) t) else m₁ y) → News h₀ env.locals h (nx ++ own) →
      wpAny (model prog w) A (execs body env) (InvPostG h₀ env.locals (J (i + 1)) own { s with heap := h, toks := tk } Q) E { s with heap := h, toks := tk })
    (done : ∀ m₁ nx h tk, J n m₁ nx → Fr h₀ env.locals h m₁ → News h₀ env.locals h nx → Q .next { s with heap := h, toks := tk }) :
    wpAny (model prog w) A (pyIter (.ref r)) (fun it s₂ => LoopAtV prog w A h₀ env x body Q E it s₂) E s := by
  refine wpAny_pyIter_range hr hsmall ?_
  have W : Walks prog w A s.heap.objs.size [s.heap.objs.size] [s.heap.objs.size] n (fun i v => i < n ∧ ∃ t, v = .int (a₀ + i * 1) t)
      (fun i h => IsRangeIter h s.heap.objs.size (a₀ + (i : Nat) * 1) ((n : Int) - (i : Nat)) 1) := (Walks.range hh _ a₀ 1 n).bound
  refine kdr_loop J W (fun _ h => h) (fun _ h => h) ?_ ?_ ?_ ?_ (by show IsRangeIter _ _ _ _ _; rw [hsz]; simpa using Heap.get?_push_size _ rfl) (F.push _) (fun p hp => ⟨Heap.get?_push_of_some _ (N p hp).1, (N p hp).2⟩) hj ?_ ?_
  · intro i h hi b hb
    rw [List.mem_singleton.mp hb]
    exact ⟨_, hi⟩
  · intro hm
    exact absurd F.ns.lt ((List.mem_singleton.mp hm) ▸ Nat.lt_irrefl _)
  · intro b hb
    rw [List.mem_singleton.mp hb]
    exact next_is_new F
  · intro p hp hI
    exact absurd (Heap.lt_size (N p hp).1) ((List.mem_singleton.mp hI) ▸ Nat.lt_irrefl _)
  · rintro i v m₁ nx h tk own hi ⟨_, t, rfl⟩ hoff hJ F₁ N₁
    have e1 : a₀ + (i : Int) * 1 = a₀ + (i : Int) := by omega
    rw [e1] at F₁
    exact turn i t m₁ nx h tk own hi hoff hJ F₁ N₁
  · exact done
end
/-- the frame's map, some of its names told -/
theorem fr_known {h₀ h : Heap} {L : Addr} {x : Str} {v : Value} {m₁ : Str → Option Value} (ps : List (Str × Value)) (hp : ∀ p ∈ ps, m₁ p.1 = some p.2) (F : Fr h₀ L h (fun y => if y = x then some v else m₁ y)) :
    Fr h₀ L h (fun y => if y = x then some v else kstB m₁ ps y) := by
  have e : (fun y => if y = x then some v else kstB m₁ ps y) = fun y => if y = x then some v else m₁ y := by
    funext y
    by_cases hy : y = x
    · rw [if_pos hy, if_pos hy]
    · rw [if_neg hy, if_neg hy]
      exact kstB_eq hp fun _ => rfl
  rw [e]; exact F
theorem fr_known0 {h₀ h : Heap} {L : Addr} {m₁ : Str → Option Value} (ps : List (Str × Value)) (hp : ∀ p ∈ ps, m₁ p.1 = some p.2) (F : Fr h₀ L h m₁) : Fr h₀ L h (kstB m₁ ps) := by
  have e : kstB m₁ ps = m₁ := by
    funext y
    exact kstB_eq hp fun _ => rfl
  rw [e]; exact F
end Mine

/-! # Inv -/
namespace Mine
/-! ## what the law builds, in plain words -/
structure PSt where
  page : Str
  done : List (List (Bool × Str))
  cur : List (Bool × Str)
  rows : List Str
  starts : List Int
def rowOf (k x : Int) : Str := if sizeOf x = 4 then failRow k else encRow (textOf x)
def itemOf (k x : Int) : Bool × Str := if sizeOf x = 4 then (false, failRow k) else (true, textOf x)
def sepOf (i : Int) : Str := if i = 0 then Str.ofString "\n\n" else if i = 1 then Str.ofString "\n \t\n" else Str.ofString "\n\n\n"
/-- the page ahead of the row -/
def preOf (p : PSt) (k x : Int) : Str := if 0 < k then (if Int.fmod x 3 = 0 then p.page ++ sepOf (Int.fmod (Int.fdiv x 3) 3) else p.page ++ nl) else p.page
def stepSt (p : PSt) (k x : Int) : PSt :=
  { page := preOf p k x ++ rowOf k x
    done := if 0 < k ∧ Int.fmod x 3 = 0 then p.done ++ [p.cur] else p.done
    cur := (if 0 < k ∧ Int.fmod x 3 = 0 then [] else p.cur) ++ [itemOf k x]
    rows := p.rows ++ [rowOf k x]
    starts := p.starts ++ [((preOf p k x).length : Int)] }
def buildN (ns : List Int) : Nat → PSt
  | 0 => ⟨Str.ofString "", [], [], [], []⟩
  | i + 1 => stepSt (buildN ns i) (i : Int) (ns.getD i 0)
def itemDat (p : Bool × Str) : Dat := .tuple [.bool p.1, .str p.2]
def lamQual : Str := Str.ofString "law.<locals>.<lambda>"
/-- the table of the law's inner code: empty, or the lambda's entry -/
def TabOk (ps : Array Value) (tl : List (Addr × Obj)) : Prop :=
  ps = #[] ∨ ∃ c' oc vs t, ps = #[PySem.rawInt 69, PySem.rawInt 42, Value.ref c'] ∧ (c', oc) ∈ tl ∧ oc.data = .fields vs ∧ vs[1]? = some (.str lamQual t)
def led (lst lr ld lg Dn : Addr) (sv rv dv gv ws : List Value) (n1 n2 n3 n4 : Nat) (ps : Array Value) : List (Addr × Obj) :=
  [(lst, listOf sv.toArray n1), (lr, listOf rv.toArray n2), (ld, listOf (dv ++ [Value.ref lg]).toArray n3), (lg, listOf gv.toArray n4), (57, tabObj ps), (Dn, listOf ws.toArray 0)]
structure Told6 (a b c d e f : Nat) : Prop where
  ab : a ≠ b
  ac : a ≠ c
  ad : a ≠ d
  ae : a ≠ e
  af : a ≠ f
  bc : b ≠ c
  bd : b ≠ d
  be : b ≠ e
  bf : b ≠ f
  cd : c ≠ d
  ce : c ≠ e
  cf : c ≠ f
  de : d ≠ e
  df : d ≠ f
  ef : e ≠ f
structure InvD (ns : List Int) (i : Nat) (lg : Addr) (sv rv dv gv : List Value) (ps : Array Value) (tl : List (Addr × Obj)) : Prop where
  cur : DatAll tl gv ((buildN ns i).cur.map itemDat)
  done : DatAll tl dv ((buildN ns i).done.map fun g => Dat.list (g.map itemDat))
  rows : StrsAre rv (buildN ns i).rows
  starts : IntsAre sv (buildN ns i).starts
  tab : TabOk ps tl
def LawJ (ns : List Int) (ws : List Value) (lst lr ld Dn : Addr) (i : Nat) (m : Str → Option Value) (nx : List (Addr × Obj)) : Prop :=
  ∃ (tp : Tok) (lg : Addr) (sv rv dv gv : List Value) (n1 n2 n3 n4 : Nat) (ps : Array Value) (tl : List (Addr × Obj)),
    nx = led lst lr ld lg Dn sv rv dv gv ws n1 n2 n3 n4 ps ++ tl ∧ OwnOff tl [lst, lr, ld, lg, 57, Dn] ∧ Told6 lst lr ld lg 57 Dn ∧
    (∀ p ∈ [(Str.ofString "numbers", Value.ref Dn), (Str.ofString "page", .str (buildN ns i).page tp), (Str.ofString "drawn", .ref ld), (Str.ofString "rows", .ref lr), (Str.ofString "starts", .ref lst)], m p.1 = some p.2) ∧
    InvD ns i lg sv rv dv gv ps tl
/-! ## the lambda, made anew or from the table -/
section
variable {M : Model} {A : Around} {E : Value → Shared → Prop} {s : Shared} {h₀ : Heap} {L a c P : Addr} {m mg mb : Str → Option Value} {cn : Str} {cs : Scope} {ccd : Value} {cl : List (Str × Addr)} {news tl : List (Addr × Obj)} {g : Obj → List (Addr × Obj)}
  {p : Program} {loose : List Str} {mean : ExcName → Option Value} {params : Arguments} {body : PySem.Expr} {scope : Scope} {ps : Array Value} {pos : Pos} {clos : List (Str × Addr)}
theorem lam_any {Q : Value → Shared → Prop} (bs : List Addr) (F : Fr h₀ L s.heap m) (N : News h₀ L s.heap news) (T : Top p loose mean mg mb h₀) (C : CodeHd h₀ c P) (hcd : ccd = .ref c) (U : UpdF P (tabObj ps) news g) (hT : TabOk ps tl) (htl : ∀ q ∈ tl, q ∈ news) (off : OwnOff tl bs) (hbs : ∀ b ∈ bs, ∃ o, (b, o) ∈ news) (own : List (Addr × Obj)) (hown : ∀ q ∈ own, q ∈ news) (offo : OwnOff own (tl.map (·.1)))
    (hdef : defaultsOf params (envX cn cs L a ccd cl) = ([], [])) (hpl : pos.line = 69) (hpc : pos.col = 42)
    (hq : (envX cn cs L a ccd cl).qual ++ "<lambda>" = lamQual)
    (hcl : closureFor scope (envX cn cs L a ccd cl) = pure clos)
    (h : ∀ f c' oc vs t ctv h' tk, Fr h₀ L h' m →
      News h₀ L h' ((f, kla_obj "<lambda>" lamQual params body scope clos ((mg "__name__").getD .none) c' ctv) :: (c', oc) :: g (tabObj #[PySem.rawInt 69, PySem.rawInt 42, Value.ref c'])) →
      oc.data = .fields vs → vs[1]? = some (.str lamQual t) → AllLt f news → @LT.lt Nat _ c' f → (∀ b ∈ bs, @Ne Nat c' b) → (∀ q ∈ own, @Ne Nat q.1 c') → Q (.ref f) { s with heap := h', toks := tk }) :
    wpAny M A (eval (.Lambda params body scope pos) (envX cn cs L a ccd cl)) Q E s := by
  have hnn : ∀ q ∈ news, @LT.lt Nat _ q.1 s.heap.objs.size := fun q hq => Heap.lt_size (N q hq).1
  refine kla_eval hdef ?_
  rw [hq]
  rcases hT with rfl | ⟨c', oc, vs, t, rfl, hm, hd, hv⟩
  · refine kla_nest F N T C hcd U trivial rfl hcl fun f c' oc vs t ctv h' tk F' N' hd hv l1 l2 => ?_
    rw [hpl, hpc] at N'
    refine h f c' oc vs t ctv h' tk F' N' hd hv (allLt_of fun q hq => Nat.lt_trans (l1 q hq) l2) l2 (fun b hb => ?_) fun q hq => Nat.ne_of_lt (l1 q (hown q hq))
    obtain ⟨o, ho⟩ := hbs b hb
    exact Nat.ne_of_gt (l1 _ ho)
  · obtain ⟨own, rest, e, hg, _, _⟩ := U.split
    have hmem : (P, tabObj #[PySem.rawInt 69, PySem.rawInt 42, Value.ref c']) ∈ news := by rw [e]; exact List.mem_append_right _ (.head _)
    have hgn : g (tabObj #[PySem.rawInt 69, PySem.rawInt 42, Value.ref c']) = news := by rw [hg, e]
    refine kla_hit F N T C hcd hmem (by simp [TriplesOk, PySem.rawInt]) (c' := c') (by simp [codeAmong, PySem.rawInt, hpl, hpc]) hcl fun f ctv h' tk F' N' l1 => ?_
    refine h f c' oc vs t ctv h' tk F' ?_ hd hv (allLt_of l1) (l1 _ (htl _ hm)) (fun b hb => off _ hm b hb) fun q hq => offo q hq _ (List.mem_map.mpr ⟨_, hm, rfl⟩)
    rw [hgn]
    intro q hq'
    rcases List.mem_cons.mp hq' with rfl | hq'
    · exact N' _ (.head _)
    · rcases List.mem_cons.mp hq' with rfl | hq'
      · exact N' _ (.tail _ (htl _ hm))
      · exact N' _ (.tail _ hq')
end
end Mine

/-! # Miss -/
namespace Mine
/-! ## an attribute that is not there, asked in a call -/
section
variable {prog : Program} {w : World} {A : Around} {E : Value → Shared → Prop}
theorem split_miss_none : typeLookup (.type "NoneType") (Str.ofString "split") = pure none := am_miss_of_fast (by decide +kernel)
theorem split_miss_int : typeLookup (.type "int") (Str.ofString "split") = pure none := am_miss_of_fast (by decide +kernel)
theorem split_miss_list : typeLookup (.type "list") (Str.ofString "split") = pure none := am_miss_of_fast (by decide +kernel)
theorem split_fits : (Str.ofString "split").length + 100 ≤ sizeLine := by decide +kernel
theorem method_miss {M : Model} {s : Shared} {v : Value} {T : String} {name : Str} {pl : Sem Bool} {Q : Value × List Value → Shared → Prop} (hT : s.TypeIs v T) (pa : PlainAttrs T) (hmiss : typeLookup (.type T) name = pure none)
    (h : wpAny M A (getAttr v name) (fun r => Q (r, [])) E s) : wpAny M A (getMethod v name pl) Q E s := by
  obtain ⟨g, hg, hcan⟩ := pa.ga
  unfold getMethod
  refine wpAny_bind (wpAny_specialOf hT hg ?_)
  show wpAny M A (if (Manifest.canonical g != "object.__getattribute__") = true then _ else _) Q E s
  rw [hcan, if_neg Bool.false_ne_true]
  refine wpAny_bind (wpAny_specialOf hT pa.noGetattr ?_)
  refine wpAny_bind (wpAny_specialOf hT hmiss ?_)
  exact wpAny_bind (wpAny_mono h (fun _ _ h => wpAny_pure h) fun _ _ h => h)
theorem get_miss {hp : Heap} {g d tk os} {v : Value} {T id : String} {Q : Value → Shared → Prop} (hT : ∀ tk', (⟨hp, g, d, tk', os⟩ : Shared).TypeIs v T) (slot : Slot T "__getattribute__" id) (f5 : typeLookup (.type T) "__getattr__" = pure none)
    (hc : ∀ tk' u (Q' : Value → Shared → Prop) (E' : Value → Shared → Prop), (∀ h' tk e, Heap.NewAttrErr hp h' e v (Str.ofString "split") → E' (.ref e) ⟨h', g, d, tk, os⟩) → wpAny (model prog w) A (call (.builtin id) [v, .str (Str.ofString "split") u]) Q' E' ⟨hp, g, d, tk', os⟩)
    (h : ∀ h' tk e, Heap.NewExcOf hp h' e "AttributeError" → E (.ref e) ⟨h', g, d, tk, os⟩) :
    wpAny (model prog w) A (getAttr v (Str.ofString "split")) Q E ⟨hp, g, d, tk, os⟩ := by
  have f1 := sub_AttributeError
  have f3 := slot.lookup
  have f4 := slot.bind v
  unfold getAttr getAttrBy
  repeat (any_goals (first | assumption | exact hT _ | ((with_reducible show wpAny _ _ (typeOf _) _ _ _); refine wpAny_typeOf (hT _) ?_) | ((with_reducible show wpAny _ _ (bindSpecial _ _) _ _ _); refine wpAny_of_eq f4 ?_) | ((with_reducible show wpAny _ _ (call (Value.builtin _) _ _) _ _ _); refine hc _ _ _ _ fun h' tk' e hx => ?_) | wp_step))
  obtain ⟨t', u', he⟩ := hx.there
  repeat (any_goals (first | assumption | wp_step))
  exact h _ _ _ hx.of
set_option maxRecDepth 100000 in
theorem miss_none {s : Shared} {pl : Sem Bool} {Q : Value × List Value → Shared → Prop} (hA : A.handled = none)
    (h : ∀ h' tk e, Heap.NewExcOf s.heap h' e "AttributeError" → E (.ref e) { s with heap := h', toks := tk }) : wpAny (model prog w) A (getMethod .none (Str.ofString "split") pl) Q E s := by
  refine method_miss (T := "NoneType") rfl F.plainAttrs_NoneType split_miss_none ?_
  exact get_miss (fun _ => rfl) F.slot_NoneType_getattribute am_none_getattr_none (fun tk' u Q' E' hq => call_meets F.slot_NoneType_getattribute rfl F.entry_object_getattribute (F.args_object_getattribute_2 _ _) (meets_getattribute_miss_none _ _ split_miss_none split_fits) ⟨hA, hq⟩) h
set_option maxRecDepth 100000 in
theorem miss_int {s : Shared} {n : Int} {t : Tok} {pl : Sem Bool} {Q : Value × List Value → Shared → Prop} (hA : A.handled = none)
    (h : ∀ h' tk e, Heap.NewExcOf s.heap h' e "AttributeError" → E (.ref e) { s with heap := h', toks := tk }) : wpAny (model prog w) A (getMethod (.int n t) (Str.ofString "split") pl) Q E s := by
  refine method_miss (T := "int") rfl F.plainAttrs_int split_miss_int ?_
  exact get_miss (fun _ => rfl) F.slot_int_getattribute am_int_getattr_none (fun tk' u Q' E' hq => call_meets F.slot_int_getattribute rfl am_entry_int_getattribute (F.args_int_getattribute_2 _ _) (meets_getattribute_miss_int n t _ _ split_miss_int split_fits) ⟨hA, hq⟩) h
set_option maxRecDepth 100000 in
theorem miss_list {s : Shared} {a : Addr} {xs : Array Value} {k : Nat} {pl : Sem Bool} {Q : Value × List Value → Shared → Prop} (hx : s.heap.get? a = some (listOf xs k)) (hA : A.handled = none)
    (h : ∀ h' tk e, Heap.NewExcOf s.heap h' e "AttributeError" → E (.ref e) { s with heap := h', toks := tk }) : wpAny (model prog w) A (getMethod (.ref a) (Str.ofString "split") pl) Q E s := by
  refine method_miss (T := "list") ⟨_, hx, rfl⟩ F.plainAttrs_list split_miss_list ?_
  exact get_miss (fun _ => ⟨_, hx, rfl⟩) F.slot_list_getattribute am_list_getattr_none (fun tk' u Q' E' hq => call_meets F.slot_list_getattribute ⟨_, hx, rfl⟩ am_entry_list_getattribute (F.args_list_getattribute_2 _ _) (meets_getattribute_miss_list a xs k _ _ _ split_miss_list (by decide +kernel) split_fits) ⟨hx, hA, hq⟩) h
end
end Mine

/-! # Leave -/
open PySem PySem.W PyProof.Rows PySem.Calls
namespace Mine
/-! ## an exception with fields of its own leaves the frame that raised it -/
section
variable {M : Model} {A : Around} {E : Value → Shared → Prop} {s' : Shared} {base g h : Heap} {outer : List Env} {L a e : Addr} {m : Str → Option Value} {name : Str} {scope : Scope} {cd : Value} {Q : Unit → Shared → Prop} {news : List (Addr × Obj)}
theorem leave_newA {cls : String} (K : Below A base outer g) (hx : Heap.NewExcOf h s'.heap e cls) (F : Fr g L h m) (N : News g L h news)
    (hQ : ∀ h', RaisedSN base g outer e (.type cls) news h' → g.UpToSlots h' → Q () { s' with heap := h' }) (hk : scope.kind = .function := by rfl) :
    wpAny M (A.deeper (envOf name scope L a cd)) (leaving (envOf name scope L a cd) (.ref e)) Q E s' := by
  have K' := K.push (name := name) (a := a) (cd := cd) F hk
  generalize hfs : (envOf name scope L a cd :: outer).filterMap (·.frame) = fs at *
  have hin : ∀ env ∈ (envOf name scope L a cd :: outer), ∀ b, env.frame = some b → b ∈ fs := fun env he b hb => by
    rw [← hfs]; exact List.mem_filterMap.mpr ⟨env, he, hb⟩
  have cases_fs : ∀ b, b ∈ fs → b = L ∨ b ∈ outer.filterMap (·.frame) := fun b hb => kts_mem (by rw [hfs]; exact hb)
  have fs_none : ∀ b, b ∈ fs → base.get? b = none := fun b hb => (K'.frames.mem (by rw [hfs]; exact hb)).1
  have st : base.StaysIn (hideAll h fs) := fun b o q => hideAll_get _ (K'.stays b o q) fun hm => by
    rw [fs_none b hm] at q; cases q
  have sg : ∀ b o, g.get? b = some o → b ∉ outer.filterMap (·.frame) → (hideAll h fs).get? b = some o := fun b o q nm => hideAll_get _ (F.keep b o q) fun hm => by
    rcases cases_fs b hm with rfl | z
    · rw [kts_self F] at q; cases q
    · exact nm z
  have hl : ∀ q ∈ news, (hideAll h fs).get? q.1 = some q.2 ∧ g.get? q.1 = none ∧ base.get? q.1 = none := fun q hq => by
    refine ⟨hideAll_get _ (N q hq).1 fun hm => ?_, (N q hq).2.2, fresh_of_stays K.stays (N q hq).2.2⟩
    rcases cases_fs _ hm with z | z
    · exact (N q hq).2.1 z
    · obtain ⟨o, ho, _⟩ := (K.frames.mem z).2
      rw [(N q hq).2.2] at ho; cases ho
  obtain ⟨ob, vs, he, hcls, hd, h1⟩ := hx.there
  obtain ⟨a0, h0⟩ : ∃ a0, vs[0]? = some a0 := by
    have := (Array.getElem?_eq_some_iff.mp h1).1
    exact ⟨vs[0]'(by omega), Array.getElem?_eq_getElem _⟩
  have hen : (hideAll h fs).get? e = none := by
    cases q : (hideAll h fs).get? e with
    | none => rfl
    | some o => have := of_hideAll _ q; rw [hx.new] at this; cases this
  refine wpAny_leaving_firstW (a0 := a0) (base := hideAll h fs) K'.stack ((funFrames_hide K'.frames hin).of_keeps fun b o hb _ => ⟨o, hx.keeps b o hb, rfl⟩) rfl he (fun b o hb => hx.keeps b o (of_hideAll _ hb)) hen hd h1 h0 fun h' hL => ?_
  obtain ⟨k1, ⟨_, _, k2⟩, k3, k4⟩ := hL
  exact hQ h' ⟨_, a0, st, sg, hl, k1, hen, k2, by rw [← hcls]; exact k3⟩ (((Heap.UpToSlots.of_keeps F.keep).trans (Heap.UpToSlots.of_keeps hx.keeps)).trans k4)
end
section
variable {prog : Program} {w : World} {A₀ : Around} {E : Value → Shared → Prop} {s' : Shared} {base g g₀ G : Heap} {outer : List Env} {L a e : Addr} {m : Str → Option Value} {name : Str} {scope : Scope} {cd cls : Value}
  {b₀ : Stmt} {suite : List Stmt} {pos : Pos} {rest : List ExceptHandler} {Q : Flow → Shared → Prop} {news : List (Addr × Obj)} {KF : Frag} {p : Program} {loose : List Str} {mean : ExcName → Option Value} {mg mb : Str → Option Value}
/-- the frame's own bare clause takes it -/
theorem caught_bare (R : RaisedSN base G (envOf name scope L a cd :: outer) e cls news s'.heap) (F : Fr g L G m) (K : Below A₀ base outer g) (hsm : G.UpToSlots s'.heap) (XB : KF.In base) (TB : Top p loose mean mg mb base)
    (D : KtsDicts (outer.filterMap (·.frame)) g) (T0 : KtsTurn (outer.filterMap (·.frame)) g₀ g)
    (k : ∀ h' g', KtsTurn (outer.filterMap (·.frame)) g₀ g' → Fr g' L h' m → News g' L h' news → Below A₀ base outer g' → KF.In g' → Top p loose mean mg mb g' → KtsDicts (outer.filterMap (·.frame)) g' →
      wpAny (model prog w) ((A₀.deeper (envOf name scope L a cd)).mark (some (.ref e))) (execs (b₀ :: suite) (envOf name scope L a cd)) Q E { s' with heap := h' })
    (hE : PassesOwnAt (model prog w) ((A₀.deeper (envOf name scope L a cd)).mark (some (.ref e))) (A₀.deeper (envOf name scope L a cd)) (envOf name scope L a cd) E := by passes_own) :
    wpAny (model prog w) (A₀.deeper (envOf name scope L a cd)) (noteFrame (.ref e) (envOf name scope L a cd))
      (fun _ s₂ => wpAny (model prog w) (A₀.deeper (envOf name scope L a cd)) (setFlight (.ref e) none) (fun _ s₃ =>
        wpAny (model prog w) (A₀.deeper (envOf name scope L a cd)) (handleBy (.ref e) (envOf name scope L a cd) (.ExceptHandler none none (b₀ :: suite) pos :: rest)) Q E s₃) E s₂) E s' := by
  obtain ⟨B, a0, hB, hBG, hl, hfl⟩ := R
  refine wpAny_looks_onW (Around.frames_deeper K.stack) rfl hfl fun h₄ hheld hsm₄ => wpAny_landsW hheld fun h₅ hfl₅ hsm₅ => ?_
  exact bare_SN (s' := { s' with heap := h₅ }) ⟨B, a0, hB, hBG, hl, hfl₅⟩ F K (hsm.trans (hsm₄.trans hsm₅)) XB TB D T0 k hE
end
end Mine

/-! # FnName -/
open PySem PySem.W PyProof.Rows PySem.Calls Builtin Builtin.ObjectAttr Builtin.Getset_descriptor
namespace Mine
set_option maxRecDepth 100000
theorem fnn_entry : entryFor table "function.__name__" = some Builtin.«function.__name__» := entryFor_of_tree (by kernel_rfl)
theorem fnn_type : typeOf (.builtin "function.__name__") = pure (.type "getset_descriptor") := by show builtinType _ = _; rw [builtinType_eq_fast]; kernel_rfl
theorem fnn_owner : descrOwnerAndName "function.__name__" = ("function", "__name__") := by decide +kernel
theorem fnn_dga (d tp : Value) (a : Addr) : descrGetArgs ⟨[d, .ref a, tp], []⟩ = pure (d, some (.ref a), given tp) := by kernel_rfl
theorem fnn_ga : Slot "function" "__getattribute__" "object.__getattribute__" :=
  .of (owner := "object") (n := "__getattribute__") (by rw [typeLookup_type, builtinLookup_eq_fast]; kernel_rfl) (by decide +kernel) (by decide +kernel) (by decide +kernel)
    (by first | exact .inl (by decide +kernel) | exact .inr (by decide +kernel)) (by rw [isSubtype_type]; kernel_rfl)
theorem fnn_attr : typeLookup (.type "function") (Str.ofString "__name__") = pure (some (.builtin "function.__name__")) := by rw [typeLookup_type, builtinLookup_eq_fast]; kernel_rfl
theorem fnn_gs : typeLookup (.type "getset_descriptor") (Str.ofString "__get__") = pure (some (.builtin "getset_descriptor.__get__")) := KF.slot_gs.lookup
theorem fnn_set : ∃ v, typeLookup (.type "getset_descriptor") (Str.ofString "__set__") = pure (some v) := ⟨.builtin "getset_descriptor.__set__", by rw [typeLookup_type, builtinLookup_eq_fast]; kernel_rfl⟩
section
variable {prog : Program} {w : World} {A : Around} {E : Value → Shared → Prop} {s : Shared} {R : Result → Shared → Prop} {f : Addr} {fd : FuncData}
theorem fnn_get {tp : Value} {dd : Option Addr} {sl : Array (Option Value)} (ho : s.heap.get? f = some ⟨.type "function", dd, .func fd, sl⟩) (hz : fd.name.length ≤ sizeLine) (h : R (.ok (.ret (.str fd.name s.toks))) { s with toks := s.toks + 1 }) :
    codeAny (model prog w) A (.call (.builtin "getset_descriptor.__get__") ⟨[.builtin "function.__name__", .ref f, tp], []⟩) R s := by
  obtain ⟨hh, g, dr, t, os⟩ := s
  have L0 : Looks (model prog w) hh (typeOf (.ref f)) (.type "function") := (Looks.ld ho).andThen .now
  have L1 : Looks (model prog w) hh (isSubtype (.type "function") (.type "function")) true := Looks.of_pure (by rw [isSubtype_type]; kernel_rfl)
  refine codeAny_call_builtin KF.slot_gs.plain KF.entry_gs (KF.slot_gs.check _ _ _ _ _ _ _ _ fnn_type (KF.args_gs _ _ _) ?_)
  unfold Builtin.«getset_descriptor.__get__» descrGet
  rw [fnn_dga]
  refine wpAny_bind (wpAny_pure ?_)
  unfold descrGetter descrCheckInstance descrNameAndClass isInstance
  simp only [fnn_owner]
  repeat lk
  refine ⟨Code.quiet_builtin _ (by decide +kernel), codeAny_builtin fnn_entry ?_⟩
  unfold Builtin.«function.__name__» funcData
  dsimp only
  refine wpAny_bind (wpAny_bind (wpAny_load ho (wpAny_pure ?_)))
  unfold retStr
  first
    | exact wpAny_bind (wpAny_bind (wpAny_mkStr (wpAny_pure (wpAny_pure h)) hz))
    | exact wpAny_bind (wpAny_mkStr (wpAny_pure h) hz)
    | exact wpAny_bind (wpAny_bind (wpAny_mkStr (wpAny_pure h) hz))
theorem fnn_getattr {dd : Option Addr} {sl : Array (Option Value)} {Q : Value → Shared → Prop} (ho : s.heap.get? f = some ⟨.type "function", dd, .func fd, sl⟩) (hz : fd.name.length ≤ sizeLine) (h : ∀ t tk, Q (.str fd.name t) { s with toks := tk }) :
    wpAny (model prog w) A (getAttr (.ref f) (Str.ofString "__name__") true) Q E s := by
  obtain ⟨hp, g, d, tk, os⟩ := s
  have hT : ∀ tk', (⟨hp, g, d, tk', os⟩ : Shared).TypeIs (.ref f) "function" := fun _ => ⟨_, ho, rfl⟩
  have f3 := fnn_ga.lookup
  have f4 := fnn_ga.bind (.ref f)
  unfold getAttr getAttrBy
  repeat (any_goals (first | assumption | exact hT _ | ((with_reducible show wpAny _ _ (typeOf _) _ _ _); refine wpAny_typeOf (hT _) ?_) | ((with_reducible show wpAny _ _ (bindSpecial _ _) _ _ _); refine wpAny_of_eq f4 ?_) | ((with_reducible show wpAny _ _ (call (Value.builtin _) _ _) _ _ _); refine StopAt.out ?_) | wp_step))
  refine StopAt.go ?_
  refine wpAny_call_entry fnn_ga (hT _) F.entry_object_getattribute ?_ (F.args_object_getattribute_2 _ _)
  have f5 := fnn_attr
  have f6 := fnn_type
  have f7 := fnn_gs
  obtain ⟨vs, f8⟩ := fnn_set
  unfold Builtin.«object.__getattribute__»
  repeat (any_goals (first | assumption | exact hT _ | ((with_reducible show wpAny _ _ (typeOf (Value.ref _)) _ _ _); refine wpAny_typeOf (hT _) ?_) | ((with_reducible show wpAny _ _ (call (Value.builtin _) _ _) _ _ _); refine StopAt.out ?_) | wp_step))
  refine StopAt.go ?_
  refine wpAny_call (fnn_get (s := ⟨hp, g, d, _, os⟩) ho hz ?_)
  refine wpAny_pure ⟨_, rfl, ?_⟩
  exact wpAny_pure (h _ _)
end
end Mine

/-! # Pl1 -/
namespace Mine
open PySem.Builtin.Str PySem.StrLaws
/-! ## texts as lists of signs -/
theorem str_ext {a b : Str} (h : a.cps.toList = b.cps.toList) : a = b := Str.ext' (Array.toList_inj.mp h)
theorem kind_one {x y : Str} (h : Builtin.Str.strKind y = 1) : ¬ Builtin.Str.strKind x < Builtin.Str.strKind y := by
  rw [h]
  unfold Builtin.Str.strKind
  split
  · omega
  · split <;> omega
theorem split_tight (x y : Str) (h1 : 1 ≤ y.length) (h2 : Builtin.Str.strKind y = 1) :
    ∃ cuts f, ChainG x y x.length 0 cuts f ∧ (∀ k, f ≤ k → ¬ At x y x.length k) ∧ Txt.split x y = partsFrom x y.length 0 cuts := by
  obtain ⟨f, hG, hn⟩ := occ_tight x y h1
  have one : [x] = partsFrom x y.length 0 [] := by
    show [x] = [strSub x 0 x.length]
    rw [sub_whole]
  unfold Txt.split
  by_cases hc : x.length < y.length
  · refine ⟨[], 0, rfl, fun k _ hA => ?_, ?_⟩
    · have := hA.1; omega
    · rw [if_pos (by simp [hc])]; exact one
  · rw [if_neg (by simp [hc, kind_one h2])]
    split
    · rename_i he
      have e0 : occurrences x y 0 x.length (x.length + 1) = [] := List.isEmpty_iff.mp he
      rw [e0] at hG
      exact ⟨[], f, hG, hn, one⟩
    · exact ⟨_, f, hG, hn, partsBetween_eq _ _ _⟩
/-- no place of y: nothing is put in another's place -/
theorem sub_keep (y : List Nat) (S : List Nat → List Nat) (s2 : ∀ c l, ¬ y <+: (c :: l) → S (c :: l) = c :: S l) :
    ∀ (n : Nat) (l : List Nat), (∀ k, k < n → ¬ y <+: l.drop k) → S l = l.take n ++ S (l.drop n)
  | 0, l, _ => by simp
  | n + 1, [], _ => by simp
  | n + 1, c :: l, h => by
    have h0 := h 0 (by omega)
    rw [s2 c l h0]
    have ih := sub_keep y S s2 n l fun k hk => by have := h (k + 1) (by omega); simpa using this
    rw [ih]; simp
theorem at_iff (x y : Str) (k : Nat) : At x y x.length k ↔ (k + y.length ≤ x.length ∧ y.cps.toList <+: x.cps.toList.drop k) := by
  unfold At
  rw [subAt_eq, beq_iff_eq]
  have hy : y.cps.toList.length = y.length := by simp [Str.length]
  constructor
  · rintro ⟨h1, h2⟩
    exact ⟨h1, h2 ▸ List.take_prefix _ _⟩
  · rintro ⟨h1, h2⟩
    refine ⟨h1, ?_⟩
    rw [List.prefix_iff_eq_take] at h2
    rw [hy] at h2
    exact h2.symm
theorem at_pre {x y : Str} {k : Nat} (h : y.cps.toList <+: x.cps.toList.drop k) (h1 : 1 ≤ y.length) : At x y x.length k := by
  rw [at_iff]
  refine ⟨?_, h⟩
  have hl := h.length_le
  have hy : y.cps.toList.length = y.length := by simp [Str.length]
  have hx : x.cps.toList.length = x.length := by simp [Str.length]
  rw [List.length_drop] at hl
  omega
theorem parts_sub (x y : Str) (h1 : 1 ≤ y.length) (z : Str) (S : List Nat → List Nat) (s0 : S [] = []) (s1 : ∀ l, S (y.cps.toList ++ l) = z.cps.toList ++ S l) (s2 : ∀ c l, ¬ y.cps.toList <+: (c :: l) → S (c :: l) = c :: S l) :
    ∀ (cuts : List Nat) (a f : Nat), ChainG x y x.length a cuts f → (∀ k, f ≤ k → ¬ At x y x.length k) → (Str.join z (partsFrom x y.length a cuts)).cps.toList = S (x.cps.toList.drop a)
  | [], a, f, h, hn => by
    have e : f = a := h
    subst e
    show (strSub x f x.length).cps.toList = _
    have hx : x.cps.toList.length = x.length := by simp [Str.length]
    rw [strSub_toList, sub_keep y.cps.toList S s2 x.length (x.cps.toList.drop f) fun k _ hp => hn (f + k) (by omega) (at_pre (by rw [List.drop_drop] at hp; exact hp) h1)]
    have e0 : (x.cps.toList.drop f).drop x.length = [] := List.drop_eq_nil_of_le (by rw [List.length_drop, hx]; omega)
    rw [e0, s0, List.append_nil, List.take_of_length_le (by rw [List.length_drop, hx]; omega), List.take_of_length_le (by rw [List.length_drop, hx]; omega)]
  | c :: r, a, f, h, hn => by
    obtain ⟨hac, hA, hno, hG⟩ := h
    have ih := parts_sub x y h1 z S s0 s1 s2 r (c + y.length) f hG hn
    obtain ⟨p, q, e⟩ := partsFrom_ne x y.length (c + y.length) r
    show (Str.join z (strSub x a c :: partsFrom x y.length (c + y.length) r)).cps.toList = _
    have ej : Str.join z (strSub x a c :: partsFrom x y.length (c + y.length) r) = strSub x a c ++ z ++ Str.join z (partsFrom x y.length (c + y.length) r) := by rw [e]; rfl
    rw [ej]
    simp only [Str.cps_append, Array.toList_append]
    rw [ih, strSub_toList]
    rw [sub_keep y.cps.toList S s2 (c - a) (x.cps.toList.drop a) fun k hk hp => hno (a + k) (by omega) (by omega) (at_pre (by rw [List.drop_drop] at hp; exact hp) h1)]
    rw [List.drop_drop, show a + (c - a) = c from by omega]
    obtain ⟨t, ht⟩ := ((at_iff x y c).mp hA).2
    have hd : x.cps.toList.drop (c + y.length) = t := by
      have hy : y.cps.toList.length = y.length := by simp [Str.length]
      rw [← List.drop_drop, ← ht, ← hy]
      simp
    rw [hd, ← ht, s1, List.append_assoc]
theorem rp_sub (x y z : Str) (h1 : 1 ≤ y.length) (h2 : Builtin.Str.strKind y = 1) (S : List Nat → List Nat) (s0 : S [] = []) (s1 : ∀ l, S (y.cps.toList ++ l) = z.cps.toList ++ S l) (s2 : ∀ c l, ¬ y.cps.toList <+: (c :: l) → S (c :: l) = c :: S l) :
    (rp x y z).cps.toList = S x.cps.toList := by
  obtain ⟨cuts, f, hG, hn, e⟩ := split_tight x y h1 h2
  unfold rp Txt.join
  rw [e, glued_eq_join, parts_sub x y h1 z S s0 s1 s2 cuts 0 f hG hn, List.drop_zero]
/-! ## one sign put in place of, by a text -/
def put1 (c : Nat) (z : List Nat) (k : Nat) : List Nat := if k = c then z else [k]
theorem rp_one (x : Str) (c : Nat) (z : List Nat) (hc : Builtin.Str.strKind ⟨#[c]⟩ = 1) : (rp x ⟨#[c]⟩ ⟨z.toArray⟩).cps.toList = x.cps.toList.flatMap (put1 c z) := by
  refine rp_sub x ⟨#[c]⟩ ⟨z.toArray⟩ (Nat.le_refl 1) hc (fun l => l.flatMap (put1 c z)) rfl (fun l => ?_) (fun k l h => ?_)
  · show (c :: l).flatMap _ = _
    simp [put1]
  · have hk : ¬ k = c := fun e => h (e ▸ ⟨l, rfl⟩)
    simp [put1, hk]
/-! ## two signs put back to one -/
def unp (a b z : Nat) : List Nat → List Nat
  | [] => []
  | [x] => [x]
  | x :: y :: r => if x = a ∧ y = b then z :: unp a b z r else x :: unp a b z (y :: r)
theorem unp_other {a b z c : Nat} {l : List Nat} (h : ¬ c = a) : unp a b z (c :: l) = c :: unp a b z l := by
  cases l with
  | nil => rfl
  | cons d r => rw [unp, if_neg (fun q => h q.1)]
theorem unp_two {a b z c d : Nat} {l : List Nat} (h : ¬ d = b) (hd : ¬ d = a) : unp a b z (c :: d :: l) = c :: d :: unp a b z l := by
  rw [unp, if_neg (fun q => h q.2), unp_other hd]
theorem unp_hit {a b z : Nat} {l : List Nat} : unp a b z (a :: b :: l) = z :: unp a b z l := by
  rw [unp, if_pos ⟨rfl, rfl⟩]
theorem rp_two (x : Str) (a b z : Nat) (hc : Builtin.Str.strKind ⟨#[a, b]⟩ = 1) : (rp x ⟨#[a, b]⟩ ⟨#[z]⟩).cps.toList = unp a b z x.cps.toList := by
  refine rp_sub x ⟨#[a, b]⟩ ⟨#[z]⟩ (by show 1 ≤ 2; decide) hc (unp a b z) rfl (fun l => unp_hit) (fun k l h => ?_)
  cases l with
  | nil => rfl
  | cons d r =>
    rw [unp, if_neg]
    rintro ⟨rfl, rfl⟩
    exact h ⟨r, rfl⟩
end Mine

/-! # Pl2 -/
namespace Mine
def enc3 (s : Str) : Str := rp (rp (rp s (Str.ofString "!") (Str.ofString "!b")) (Str.ofString "\n") (Str.ofString "!n")) (Str.ofString " ") (Str.ofString "!s")
def decT (y : Str) : Str := rp (rp (rp y (Str.ofString "!n") (Str.ofString "\n")) (Str.ofString "!s") (Str.ofString " ")) (Str.ofString "!b") (Str.ofString "!")
theorem flat_two {f g : Nat → List Nat} (l : List Nat) : (l.flatMap f).flatMap g = l.flatMap fun c => (f c).flatMap g := by
  rw [List.flatMap_assoc]
theorem encRow_list (s : Str) : (encRow s).cps.toList = 46 :: s.cps.toList.flatMap encS := rfl
theorem enc3_list (s : Str) : (enc3 s).cps.toList = s.cps.toList.flatMap encS := by
  unfold enc3
  rw [show Str.ofString "!" = ⟨#[33]⟩ from by decide +kernel, show Str.ofString "\n" = ⟨#[10]⟩ from by decide +kernel, show Str.ofString " " = ⟨#[32]⟩ from by decide +kernel,
    show Str.ofString "!b" = ⟨[33, 98].toArray⟩ from by decide +kernel, show Str.ofString "!n" = ⟨[33, 110].toArray⟩ from by decide +kernel, show Str.ofString "!s" = ⟨[33, 115].toArray⟩ from by decide +kernel]
  rw [rp_one _ _ _ (by decide +kernel), rp_one _ _ _ (by decide +kernel), rp_one _ _ _ (by decide +kernel), flat_two, flat_two]
  congr 1
  funext c
  unfold encS
  by_cases h1 : c = 33
  · subst h1; decide
  by_cases h2 : c = 10
  · subst h2; decide
  by_cases h3 : c = 32
  · subst h3; decide
  simp [put1, h1, h2, h3]
theorem enc_text (s : Str) : Str.ofString "." ++ enc3 s = encRow s := by
  refine str_ext ?_
  rw [Str.cps_append, Array.toList_append, enc3_list, encRow_list, show Str.ofString "." = ⟨#[46]⟩ from by decide +kernel]
  rfl
def encA (c : Nat) : List Nat := if c = 33 then [33, 98] else if c = 32 then [33, 115] else [c]
def encB (c : Nat) : List Nat := if c = 33 then [33, 98] else [c]
theorem unp_a : ∀ l : List Nat, unp 33 110 10 (l.flatMap encS) = l.flatMap encA
  | [] => rfl
  | c :: l => by
    have ih := unp_a l
    simp only [List.flatMap_cons]
    unfold encS encA at *
    by_cases h1 : c = 33
    · subst h1; simp only [if_true, List.cons_append, List.nil_append]; rw [unp_two (by decide) (by decide), ih]
    by_cases h2 : c = 10
    · subst h2; simp [unp_hit, ih]
    by_cases h3 : c = 32
    · subst h3; simp only [if_true, List.cons_append, List.nil_append, show ¬ (32 = 33) by decide, show ¬ (32 = 10) by decide, if_false]; rw [unp_two (by decide) (by decide), ih]
    simp only [h1, h2, h3, if_false, List.cons_append, List.nil_append]
    rw [unp_other h1, ih]
theorem unp_b : ∀ l : List Nat, unp 33 115 32 (l.flatMap encA) = l.flatMap encB
  | [] => rfl
  | c :: l => by
    have ih := unp_b l
    simp only [List.flatMap_cons]
    unfold encA encB at *
    by_cases h1 : c = 33
    · subst h1; simp only [if_true, List.cons_append, List.nil_append]; rw [unp_two (by decide) (by decide), ih]
    by_cases h3 : c = 32
    · subst h3; simp [unp_hit, ih]
    simp only [h1, h3, if_false, List.cons_append, List.nil_append]
    rw [unp_other h1, ih]
theorem unp_c : ∀ l : List Nat, unp 33 98 33 (l.flatMap encB) = l
  | [] => rfl
  | c :: l => by
    have ih := unp_c l
    simp only [List.flatMap_cons]
    unfold encB at *
    by_cases h1 : c = 33
    · subst h1; simp [unp_hit, ih]
    simp only [h1, if_false, List.cons_append, List.nil_append]
    rw [unp_other h1, ih]
theorem dec_enc {y s : Str} (h : y.cps.toList = s.cps.toList.flatMap encS) : decT y = s := by
  refine str_ext ?_
  unfold decT
  rw [show Str.ofString "!" = ⟨#[33]⟩ from by decide +kernel, show Str.ofString "\n" = ⟨#[10]⟩ from by decide +kernel, show Str.ofString " " = ⟨#[32]⟩ from by decide +kernel,
    show Str.ofString "!b" = ⟨#[33, 98]⟩ from by decide +kernel, show Str.ofString "!n" = ⟨#[33, 110]⟩ from by decide +kernel, show Str.ofString "!s" = ⟨#[33, 115]⟩ from by decide +kernel]
  rw [rp_two _ _ _ _ (by decide +kernel), rp_two _ _ _ _ (by decide +kernel), rp_two _ _ _ _ (by decide +kernel), h, unp_a, unp_b, unp_c]
end Mine

/-! # UA -/
namespace Mine
def forBody (l : List Stmt) (i : Nat) : List Stmt := match l[i]? with
  | some (.For _ _ b _ _) => b
  | _ => []
theorem lk_cases {K : Frag} {a : Addr} {o o' : Obj} {P : Prop} (h1 : K.lookup a = some o) (h2 : K.lookup a = some o') (h : o = o' → P) : P := h (Option.some.inj (h1.symm.trans h2))
theorem rp_len {x a b : Str} (ha : 1 ≤ a.length) (hb : b.length ≤ 4) : (rp x a b).length ≤ 4 * (x.length + 1) := by
  have h : ((Txt.split x a).map (·.length)).sum + (Txt.split x a).length ≤ x.length + 1 := split_weight x a ha
  exact len_join_le h hb
theorem enc3_len {s : Str} (h : s.length ≤ 4) : (enc3 s).length ≤ 400 := by
  unfold enc3
  have h1 := rp_len (x := s) (a := Str.ofString "!") (b := Str.ofString "!b") (by decide) (by decide)
  have h2 := rp_len (x := rp s (Str.ofString "!") (Str.ofString "!b")) (a := Str.ofString "\n") (b := Str.ofString "!n") (by decide) (by decide)
  have h3 := rp_len (x := rp (rp s (Str.ofString "!") (Str.ofString "!b")) (Str.ofString "\n") (Str.ofString "!n")) (a := Str.ofString " ") (b := Str.ofString "!s") (by decide) (by decide)
  omega
theorem textOf_len (x : Int) : (textOf x).length ≤ 4 := by
  unfold textOf
  rw [KT.join_ones _ (fun a ha => by obtain ⟨k, _, rfl⟩ := List.mem_map.mp ha; rfl), List.length_map, rangeKs_length]
  have := fmod_bnd (Int.fdiv x 9) (b := 5) (by decide)
  unfold sizeOf
  omega
theorem fail_eq (k : Int) : Str.empty ++ Str.ofString "<" ++ Str.ofString (toString k) ++ Str.ofString " " ++ Str.ofString "<lambda>" ++ Str.ofString "() failed>" = failRow k := by
  unfold failRow
  rw [show Str.ofString " <lambda>() failed>" = Str.ofString " " ++ (Str.ofString "<lambda>" ++ Str.ofString "() failed>") from by decide +kernel, Str.empty_append]
  simp only [Str.append_assoc]
theorem failRow_len {k : Int} (h0 : 0 ≤ k) (h1 : k < 100) : (failRow k).length ≤ 40 := by
  unfold failRow
  rw [Str.length_append, Str.length_append]
  have := toString_length_le (v := k) (k := 2) h0 (by decide) (by omega)
  have e1 : (Str.ofString "<").length = 1 := by decide +kernel
  have e2 : (Str.ofString " <lambda>() failed>").length = 19 := by decide +kernel
  omega
theorem lam_name {prog : Program} {w : World} {A : Around} {E : Value → Shared → Prop} {s : Shared} {f : Addr} {params : Arguments} {body : PySem.Expr} {scope : Scope} {clos : List (Str × Addr)} {pm ctv : Value} {c' : Addr} {Q : Value → Shared → Prop} {h₀ : Heap} {L : Addr} {news : List (Addr × Obj)} (N : News h₀ L s.heap news)
    (hm : (f, kla_obj "<lambda>" lamQual params body scope clos pm c' ctv) ∈ news) (h : ∀ t tk, Q (.str (Str.ofString "<lambda>") t) { s with toks := tk }) : wpAny (model prog w) A (getAttr (.ref f) (Str.ofString "__name__") true) Q E s :=
  fnn_getattr (News.get N hm) (show (Str.ofString "<lambda>").length ≤ sizeLine by decide +kernel) h
set_option maxRecDepth 100000 in
theorem miss_any {prog : Program} {w : World} {A : Around} {E : Value → Shared → Prop} {s : Shared} {v : Value} {pl : Sem Bool} {Q : Value × List Value → Shared → Prop} {h₀ : Heap} {L : Addr} {news tl : List (Addr × Obj)} (N : News h₀ L s.heap news)
    (hv : v = .none ∨ (∃ i t, v = .int i t) ∨ ∃ D vs, v = .ref D ∧ (D, lisO vs) ∈ tl) (hs : ∀ p ∈ tl, p ∈ news) (hA : A.handled = none)
    (h : ∀ h' tk e, Heap.NewExcOf s.heap h' e "AttributeError" → E (.ref e) { s with heap := h', toks := tk }) : wpAny (model prog w) A (getMethod v (Str.ofString "split") pl) Q E s := by
  rcases hv with rfl | ⟨i, t, rfl⟩ | ⟨D, vs, rfl, hm⟩
  · exact miss_none hA h
  · exact miss_int hA h
  · exact miss_list (News.get N (hs _ hm)) hA h
/-! ## the states between the cuts of a turn -/
/-- the thing that a number draws, as a value -/
def ThingV (x : Int) (v : Value) (tl : List (Addr × Obj)) : Prop :=
  (sizeOf x ≠ 4 ∧ ∃ t, v = .str (textOf x) t) ∨ (sizeOf x = 4 ∧ (v = .none ∨ (∃ i t, v = .int i t) ∨ ∃ D vs, v = .ref D ∧ (D, lisO vs) ∈ tl))
theorem ThingV.mono {x : Int} {v : Value} {tl tl' : List (Addr × Obj)} (hs : ∀ p ∈ tl, p ∈ tl') (h : ThingV x v tl) : ThingV x v tl' := by
  rcases h with h | ⟨h, h' | h' | ⟨D, vs, e, hm⟩⟩
  · exact .inl h
  · exact .inr ⟨h, .inl h'⟩
  · exact .inr ⟨h, .inr (.inl h')⟩
  · exact .inr ⟨h, .inr (.inr ⟨D, vs, e, hs _ hm⟩)⟩
theorem row_any (w : World) (p : Program) (loose : List Str) (mean : ExcName → Option Value) (mg mb : Str → Option Value) :
  ∀ (x : Int) (v : Value) (k : Int) (tk : Tok) (dp un : Nat) (gd : Option (List Code)) (cn : Str) (cs : Scope) (a : Addr) (ccd : Value) (cl : List (Str × Addr)) (outer : List Env) (A₀ : Around) (base h₀ : Heap) (L : Addr) (m : Str → Option Value) (news tl : List (Addr × Obj)) (s : Shared) (Q E : Value → Shared → Prop),
    Below A₀ base outer h₀ → Fr h₀ L s.heap m → (Mine.hd.heap_39 w.params).In h₀ → News h₀ L s.heap news → Top p loose mean mg mb h₀ → cs.kind = .function →
    ThingV x v tl → (∀ q ∈ tl, q ∈ news) → 0 ≤ k → k < 100 →
    dp + 1 < recursionLimit → un + 8 < cLine → 
    (∀ (t : Tok) (h' : Heap) (tk' : Nat), Fr h₀ L h' m → News h₀ L h' news → Q (.str (rowOf k x) t) { s with heap := h', toks := tk' }) →
      wpAny (model Challenge.rw_pe0019_01.row.prog w) (ktrTop dp un gd cn cs L a ccd cl outer) (call (.ref 48) [v, .int k tk]) Q E s := by
  intro x v k tk dp un gd cn cs a ccd cl outer A₀ base h₀ L m news tl s Q E B F X N T hk hv hs h0 h1 hd hu hret
  rcases hv with ⟨h4, t, rfl⟩ | ⟨h4, hv⟩
  · refine row_str w p loose mean mg mb _ _ _ _ _ _ _ _ _ _ _ _ _ _ _ _ _ _ _ _ _ _ B F X N T hk (Nat.le_trans (textOf_len x) (by decide)) hd hu fun t h' tk' F' N' => ?_
    have := hret t h' tk' F' N'
    rwa [rowOf, if_neg h4] at this
  · refine row_non w p loose mean mg mb _ _ _ _ _ _ _ _ _ _ _ _ _ _ _ _ _ _ _ _ _ B F X N T hk ?_ h0 h1 hd hu fun t h' tk' F' N' => ?_
    · rcases hv with h | h | ⟨D, vs, e, hm⟩
      · exact .inl h
      · exact .inr (.inl h)
      · exact .inr (.inr ⟨D, vs, e, hs _ hm⟩)
    · have := hret t h' tk' F' N'
      rwa [rowOf, if_pos h4] at this
/-- the frame by its names, the ledger as written -/
def Mid (h₀ : Heap) (L : Addr) (s₀ : Shared) (binds : List (Str × Value)) (news : List (Addr × Obj)) (s : Shared) : Prop :=
  ∃ h tk u, s = { s₀ with heap := h, toks := tk } ∧ Fr h₀ L h (kstB u binds) ∧ News h₀ L h news
theorem Mid.mk {h₀ h : Heap} {L : Addr} {s₀ : Shared} {binds : List (Str × Value)} {news news' : List (Addr × Obj)} {tk : Nat} {m : Str → Option Value} (F : Fr h₀ L h m) (N : News h₀ L h news') (hb : ∀ p ∈ binds, m p.1 = some p.2) (hs : ∀ p ∈ news, p ∈ news') :
    Mid h₀ L s₀ binds news { s₀ with heap := h, toks := tk } := ⟨h, tk, m, rfl, fr_known0 binds hb F, fun p hp => N p (hs p hp)⟩
/-- the tail of the ledger has grown -/
structure Grown (own tl tl2 : List (Addr × Obj)) (bs : List Addr) : Prop where
  sub : ∀ p ∈ tl, p ∈ tl2
  off : OwnOff tl2 bs
  own : OwnOff own (tl2.map (·.1))
theorem Grown.refl {own tl : List (Addr × Obj)} {bs : List Addr} (h1 : OwnOff tl bs) (h2 : OwnOff own (tl.map (·.1))) : Grown own tl tl bs := ⟨fun _ h => h, h1, h2⟩
theorem Grown.one {own tl tl2 : List (Addr × Obj)} {bs : List Addr} {D : Addr} {o : Obj} (G : Grown own tl tl2 bs) (h1 : ∀ b ∈ bs, @Ne Nat D b) (h2 : ∀ p ∈ own, @Ne Nat p.1 D) : Grown own tl ((D, o) :: tl2) bs := by
  refine ⟨fun p hp => .tail _ (G.sub p hp), fun p hp b hb => ?_, fun p hp b hb => ?_⟩
  · rcases List.mem_cons.mp hp with rfl | hp
    · exact h1 b hb
    · exact G.off p hp b hb
  · simp only [List.map_cons] at hb
    rcases List.mem_cons.mp hb with rfl | hb
    · exact h2 p hp
    · exact G.own p hp b hb
theorem lt_parts {D : Nat} : ∀ {l r : List (Addr × Obj)}, AllLt D (l ++ r) → AllLt D l ∧ AllLt D r
  | [], _, h => ⟨trivial, h⟩
  | _ :: _, _, h => ⟨⟨h.1, (lt_parts h.2).1⟩, (lt_parts h.2).2⟩
theorem lt_mem {D : Nat} : ∀ {l : List (Addr × Obj)}, AllLt D l → ∀ p ∈ l, @LT.lt Nat _ p.1 D
  | [], _, _, hp => (nomatch hp)
  | q :: r, h, p, hp => by
    rcases List.mem_cons.mp hp with rfl | hp
    · exact h.1
    · exact lt_mem h.2 p hp
theorem all8 {α : Type} {P : α → Prop} {a b c d e f g h : α} (h1 : P a) (h2 : P b) (h3 : P c) (h4 : P d) (h5 : P e) (h6 : P f) (h7 : P g) (h8 : P h) : ∀ p ∈ [a, b, c, d, e, f, g, h], P p := by
  intro p hp
  simp only [List.mem_cons, List.not_mem_nil, or_false] at hp
  rcases hp with rfl | rfl | rfl | rfl | rfl | rfl | rfl | rfl <;> assumption
theorem all9 {α : Type} {P : α → Prop} {z a b c d e f g h : α} (h0 : P z) (h1 : P a) (h2 : P b) (h3 : P c) (h4 : P d) (h5 : P e) (h6 : P f) (h7 : P g) (h8 : P h) : ∀ p ∈ [z, a, b, c, d, e, f, g, h], P p := by
  intro p hp
  simp only [List.mem_cons, List.not_mem_nil, or_false] at hp
  rcases hp with rfl | rfl | rfl | rfl | rfl | rfl | rfl | rfl | rfl <;> assumption
theorem sub_mid {α : Type} {a : α} {l t o : List α} : ∀ p ∈ l ++ ((a :: t) ++ o), p ∈ a :: (l ++ (t ++ o)) := by
  intro p hp
  rcases List.mem_append.mp hp with h | h
  · exact .tail _ (List.mem_append_left _ h)
  · rcases List.mem_cons.mp h with rfl | h
    · exact .head _
    · exact .tail _ (List.mem_append_right _ h)
theorem encRow_len (s : Str) : (encRow s).length ≤ 1 + 2 * s.length := by
  have h : ∀ l : List Nat, (l.flatMap encS).length ≤ 2 * l.length := by
    intro l
    induction l with
    | nil => simp
    | cons a r ih =>
      have := encS_len a
      simp only [List.flatMap_cons, List.length_append, List.length_cons]
      omega
  have := h s.cps.toList
  unfold encRow
  simp only [PySem.Str.length, List.size_toArray, List.length_cons]
  have e : s.cps.toList.length = s.cps.size := Array.length_toList
  omega
theorem rowOf_len {k : Int} (x : Int) (h0 : 0 ≤ k) (h1 : k < 100) : (rowOf k x).length ≤ 40 := by
  unfold rowOf
  split
  · exact failRow_len h0 h1
  · have := encRow_len (textOf x)
    have := textOf_len x
    omega
theorem sepOf_len (i : Int) : (sepOf i).length ≤ 4 := by
  unfold sepOf
  split
  · decide
  · split <;> decide
theorem preOf_len (p : PSt) (k x : Int) : (preOf p k x).length ≤ p.page.length + 4 := by
  unfold preOf
  have := sepOf_len (Int.fmod (Int.fdiv x 3) 3)
  have e : (nl : Str).length = 1 := by decide
  split
  · split <;> rw [Str.length_append] <;> omega
  · omega
theorem buildN_len (ns : List Int) : ∀ i : Nat, i ≤ 99 → (buildN ns i).page.length ≤ 44 * i
  | 0, _ => by show (Str.ofString "").length ≤ _; decide
  | i + 1, h => by
    have ih := buildN_len ns i (by omega)
    show (preOf _ _ _ ++ rowOf _ _).length ≤ _
    rw [Str.length_append]
    have h1 := preOf_len (buildN ns i) (i : Int) (ns.getD i 0)
    have h2 := rowOf_len (k := (i : Int)) (ns.getD i 0) (by omega) (by omega)
    omega
theorem build_rows (ns : List Int) : ∀ i : Nat, (buildN ns i).rows.length = i
  | 0 => rfl
  | i + 1 => by show (_ ++ [_]).length = _; simp [build_rows ns i]
theorem build_starts (ns : List Int) : ∀ i : Nat, (buildN ns i).starts.length = i
  | 0 => rfl
  | i + 1 => by show (_ ++ [_]).length = _; simp [build_starts ns i]
theorem build_cur (ns : List Int) : ∀ i : Nat, (buildN ns i).cur.length ≤ i
  | 0 => Nat.le_refl _
  | i + 1 => by
    have := build_cur ns i
    show (_ ++ [_]).length ≤ _
    simp only [List.length_append, List.length_cons, List.length_nil]
    split
    · simp
    · omega
theorem build_done (ns : List Int) : ∀ i : Nat, (buildN ns i).done.length ≤ i
  | 0 => Nat.le_refl _
  | i + 1 => by
    have := build_done ns i
    show (if _ then _ else _ : List (List (Bool × Str))).length ≤ _
    split
    · simp only [List.length_append, List.length_cons, List.length_nil]; omega
    · omega
end Mine

/-! # UB -/
namespace Mine
def P5 (h₀ : Heap) (L : Addr) (s : Shared) (ns : List Int) (ws : List Value) (lst lr ld Dn : Addr) (i : Nat) (X0 : Int) (v : Value) (tr : Tok) (own tl3 : List (Addr × Obj)) (sv rv : List Value) (n1 n2 : Nat) (ps2 : Array Value) (s' : Shared) : Prop :=
  ∃ tp2 lg2 dv2 gv2 n32 n42 tl4, Mid h₀ L s [(Str.ofString "page", .str (preOf (buildN ns i) (i : Int) X0) tp2), (Str.ofString "row", .str (rowOf (i : Int) X0) tr), (Str.ofString "thing", v), (Str.ofString "numbers", Value.ref Dn), (Str.ofString "drawn", .ref ld), (Str.ofString "rows", .ref lr), (Str.ofString "starts", .ref lst)]
      (led lst lr ld lg2 Dn sv rv dv2 gv2 ws n1 n2 n32 n42 ps2 ++ (tl4 ++ own)) s' ∧ Grown own tl3 tl4 [lst, lr, ld, lg2, 57, Dn] ∧ OwnOff own [lst, lr, ld, lg2, 57, Dn] ∧ Told6 lst lr ld lg2 57 Dn ∧
      DatAll tl4 gv2 ((if 0 < (i : Int) ∧ Int.fmod X0 3 = 0 then [] else (buildN ns i).cur).map itemDat) ∧ DatAll tl4 dv2 ((if 0 < (i : Int) ∧ Int.fmod X0 3 = 0 then (buildN ns i).done ++ [(buildN ns i).cur] else (buildN ns i).done).map fun g => Dat.list (g.map itemDat))
theorem all7 {α : Type} {P : α → Prop} {a b c d e f g : α} (h1 : P a) (h2 : P b) (h3 : P c) (h4 : P d) (h5 : P e) (h6 : P f) (h7 : P g) : ∀ p ∈ [a, b, c, d, e, f, g], P p := by
  intro p hp
  simp only [List.mem_cons, List.not_mem_nil, or_false] at hp
  rcases hp with rfl | rfl | rfl | rfl | rfl | rfl | rfl <;> assumption
section
variable {h₀ h' : Heap} {L : Addr} {s : Shared} {ns : List Int} {ws : List Value} {lst lr ld lg Dn : Addr} {i : Nat} {X0 : Int} {v : Value} {tr tq : Tok} {own tl tl3 : List (Addr × Obj)} {sv rv dv gv : List Value} {n1 n2 n3 n4 : Nat} {ps ps2 : Array Value} {m : Str → Option Value} {pg : Str} {tk : Nat}
theorem stmt5_keep (FF : Fr h₀ L h' m) (NN : News h₀ L h' (led lst lr ld lg Dn sv rv dv gv ws n1 n2 n3 n4 ps2 ++ (tl3 ++ own)))
    (hpg : pg = preOf (buildN ns i) (i : Int) X0) (h1 : m (Str.ofString "page") = some (.str pg tq)) (h2 : m (Str.ofString "row") = some (.str (rowOf (i : Int) X0) tr)) (h3 : m (Str.ofString "thing") = some v) (h4 : m (Str.ofString "numbers") = some (Value.ref Dn)) (h5 : m (Str.ofString "drawn") = some (.ref ld)) (h6 : m (Str.ofString "rows") = some (.ref lr)) (h7 : m (Str.ofString "starts") = some (.ref lst))
    (G3 : Grown own tl tl3 [lst, lr, ld, lg, 57, Dn]) (hO : OwnOff own [lst, lr, ld, lg, 57, Dn]) (H6 : Told6 lst lr ld lg 57 Dn) (D : InvD ns i lg sv rv dv gv ps tl) (hc : ¬ (0 < (i : Int) ∧ Int.fmod X0 3 = 0)) :
    P5 h₀ L s ns ws lst lr ld Dn i X0 v tr own tl3 sv rv n1 n2 ps2 { s with heap := h', toks := tk } := by
  subst hpg
  refine ⟨tq, lg, dv, gv, n3, n4, tl3, Mid.mk FF NN (all7 h1 h2 h3 h4 h5 h6 h7) (fun _ h => h), ⟨fun _ h => h, G3.off, G3.own⟩, hO, H6, ?_, ?_⟩
  · rw [if_neg hc]; exact DatAll.mono G3.sub D.cur
  · rw [if_neg hc]; exact DatAll.mono G3.sub D.done
theorem stmt5_new {l' D' : Addr} {o' : Obj} (FF : Fr h₀ L h' m) (NN : News h₀ L h' ((l', listOf #[] 0) :: (D', o') :: (lst, listOf sv.toArray n1) :: (lr, listOf rv.toArray n2) :: (ld, listOf ((dv ++ [Value.ref lg]).toArray.push (Value.ref l')) (n3 + 1)) :: (lg, listOf gv.toArray n4) :: (57, tabObj ps2) :: (Dn, listOf ws.toArray 0) :: (tl3 ++ own)))
    (hl : D' < l' ∧ @LT.lt Nat _ lst l' ∧ @LT.lt Nat _ lr l' ∧ @LT.lt Nat _ ld l' ∧ @LT.lt Nat _ lg l' ∧ @LT.lt Nat _ 57 l' ∧ @LT.lt Nat _ Dn l' ∧ AllLt l' (tl3 ++ own))
    (hpg : pg = preOf (buildN ns i) (i : Int) X0) (h1 : m (Str.ofString "page") = some (.str pg tq)) (h2 : m (Str.ofString "row") = some (.str (rowOf (i : Int) X0) tr)) (h3 : m (Str.ofString "thing") = some v) (h4 : m (Str.ofString "numbers") = some (Value.ref Dn)) (h5 : m (Str.ofString "drawn") = some (.ref ld)) (h6 : m (Str.ofString "rows") = some (.ref lr)) (h7 : m (Str.ofString "starts") = some (.ref lst))
    (G3 : Grown own tl tl3 [lst, lr, ld, lg, 57, Dn]) (hO : OwnOff own [lst, lr, ld, lg, 57, Dn]) (H6 : Told6 lst lr ld lg 57 Dn) (D : InvD ns i lg sv rv dv gv ps tl) (hc : 0 < (i : Int) ∧ Int.fmod X0 3 = 0) :
    P5 h₀ L s ns ws lst lr ld Dn i X0 v tr own tl3 sv rv n1 n2 ps2 { s with heap := h', toks := tk } := by
  subst hpg
  obtain ⟨_, l1, l2, l3, l4, l5, l6, l7⟩ := hl
  obtain ⟨l8, l9⟩ := lt_parts l7
  have lt8 := lt_mem l8
  have lt9 := lt_mem l9
  obtain ⟨ab, ac, ad, ae, af, bc, bd, be, bf, cd, ce, cf, de, df, ef⟩ := H6
  have ea : ((dv ++ [Value.ref lg]).toArray.push (Value.ref l')) = ((dv ++ [Value.ref lg]) ++ [Value.ref l']).toArray := by simp
  rw [ea] at NN
  have hm : (lg, listOf gv.toArray n4) ∈ (lg, listOf gv.toArray n4) :: tl3 := .head _
  have sub : ∀ p ∈ tl, p ∈ (lg, listOf gv.toArray n4) :: tl3 := fun p hp => .tail _ (G3.sub p hp)
  refine ⟨tq, l', dv ++ [Value.ref lg], [], n3 + 1, 0, (lg, listOf gv.toArray n4) :: tl3, Mid.mk FF NN (all7 h1 h2 h3 h4 h5 h6 h7) ?n, ?g, ?o, ⟨ab, ac, Nat.ne_of_lt l1, ae, af, bc, Nat.ne_of_lt l2, be, bf, Nat.ne_of_lt l3, ce, cf, Nat.ne_of_gt l5, Nat.ne_of_gt l6, ef⟩, ?_, ?_⟩
  case n =>
    intro q hq
    simp only [led, List.cons_append, List.nil_append, List.mem_cons] at hq ⊢
    rcases hq with h | h | h | h | h | h | h | h
    · exact .inr (.inr (.inl h))
    · exact .inr (.inr (.inr (.inl h)))
    · exact .inr (.inr (.inr (.inr (.inl h))))
    · exact .inl h
    · exact .inr (.inr (.inr (.inr (.inr (.inr (.inl h))))))
    · exact .inr (.inr (.inr (.inr (.inr (.inr (.inr (.inl h)))))))
    · exact .inr (.inr (.inr (.inr (.inr (.inl h)))))
    · exact .inr (.inr (.inr (.inr (.inr (.inr (.inr (.inr h)))))))
  case g =>
    refine ⟨fun p hp => .tail _ hp, fun q hq b hb => ?_, fun q hq b hb => ?_⟩
    · simp only [List.mem_cons, List.not_mem_nil, or_false] at hb
      rcases List.mem_cons.mp hq with rfl | hq
      · rcases hb with rfl | rfl | rfl | rfl | rfl | rfl
        · exact Ne.symm ad
        · exact Ne.symm bd
        · exact Ne.symm cd
        · exact Nat.ne_of_lt l4
        · exact de
        · exact df
      · rcases hb with rfl | rfl | rfl | rfl | rfl | rfl
        · exact G3.off q hq _ (by simp)
        · exact G3.off q hq _ (by simp)
        · exact G3.off q hq _ (by simp)
        · exact Nat.ne_of_lt (lt8 q hq)
        · exact G3.off q hq _ (by simp)
        · exact G3.off q hq _ (by simp)
    · simp only [List.map_cons] at hb
      rcases List.mem_cons.mp hb with rfl | hb
      · exact hO q hq _ (by simp)
      · exact G3.own q hq b hb
  case o =>
    intro q hq b hb
    simp only [List.mem_cons, List.not_mem_nil, or_false] at hb
    rcases hb with rfl | rfl | rfl | rfl | rfl | rfl
    · exact hO q hq _ (by simp)
    · exact hO q hq _ (by simp)
    · exact hO q hq _ (by simp)
    · exact Nat.ne_of_lt (lt9 q hq)
    · exact hO q hq _ (by simp)
    · exact hO q hq _ (by simp)
  · rw [if_pos hc]; exact .nil
  · rw [if_pos hc, List.map_append]
    exact DatAll.append (DatAll.mono sub D.done) (.one (.list hm (DatAll.mono sub D.cur)))
end
theorem push_eq (l : List Value) (x : Value) : l.toArray.push x = (l ++ [x]).toArray := by simp
theorem IntsAre_snoc {n : Int} {t : Tok} : ∀ {vs : List Value} {ns : List Int}, IntsAre vs ns → IntsAre (vs ++ [.int n t]) (ns ++ [n])
  | _, _, .nil => .cons n t .nil
  | _, _, .cons a u r => .cons a u (IntsAre_snoc r)
section
variable {h₀ h' : Heap} {L : Addr} {s : Shared} {ns : List Int} {ws : List Value} {lst lr ld lg lg2 Dn D' : Addr} {i : Nat} {X0 : Int} {tr tq ti ty : Tok} {own tl tl3 tl4 : List (Addr × Obj)} {sv rv dv gv dv2 gv2 : List Value} {n1 n2 n32 n42 : Nat} {ps ps2 : Array Value} {m : Str → Option Value} {y : Str} {b : Bool} {tk : Nat}
theorem turn_end {ha : Heap} {tka : Nat} (FF : Fr h₀ L h' m)
    (NN : News h₀ L h' ((D', tupO [.bool b, .str y ty]) :: (lst, listOf (sv.toArray.push (.int ((preOf (buildN ns i) (i : Int) X0).length : Int) ti)) (n1 + 1)) :: (lr, listOf (rv.toArray.push (.str (rowOf (i : Int) X0) tr)) (n2 + 1)) :: (ld, listOf (dv2 ++ [Value.ref lg2]).toArray n32) :: (lg2, listOf (gv2.toArray.push (Value.ref D')) (n42 + 1)) :: (57, tabObj ps2) :: (Dn, listOf ws.toArray 0) :: (tl4 ++ own)))
    (hl : @LT.lt Nat _ lst D' ∧ @LT.lt Nat _ lr D' ∧ @LT.lt Nat _ ld D' ∧ @LT.lt Nat _ lg2 D' ∧ @LT.lt Nat _ 57 D' ∧ @LT.lt Nat _ Dn D' ∧ AllLt D' (tl4 ++ own))
    (hit : (b, y) = itemOf (i : Int) X0) (hX : X0 = ns.getD i 0)
    (h1 : m (Str.ofString "page") = some (.str (preOf (buildN ns i) (i : Int) X0 ++ rowOf (i : Int) X0) tq)) (h4 : m (Str.ofString "numbers") = some (Value.ref Dn)) (h5 : m (Str.ofString "drawn") = some (.ref ld)) (h6 : m (Str.ofString "rows") = some (.ref lr)) (h7 : m (Str.ofString "starts") = some (.ref lst))
    (G4 : Grown own tl3 tl4 [lst, lr, ld, lg2, 57, Dn]) (hO4 : OwnOff own [lst, lr, ld, lg2, 57, Dn]) (H64 : Told6 lst lr ld lg2 57 Dn) (hT3 : TabOk ps2 tl3) (D : InvD ns i lg sv rv dv gv ps tl)
    (hcur : DatAll tl4 gv2 ((if 0 < (i : Int) ∧ Int.fmod X0 3 = 0 then [] else (buildN ns i).cur).map itemDat))
    (hdone : DatAll tl4 dv2 ((if 0 < (i : Int) ∧ Int.fmod X0 3 = 0 then (buildN ns i).done ++ [(buildN ns i).cur] else (buildN ns i).done).map fun g => Dat.list (g.map itemDat))) :
    InvEndG h₀ L (LawJ ns ws lst lr ld Dn (i + 1)) own { s with heap := ha, toks := tka } { s with heap := h', toks := tk } := by
  obtain ⟨l1, l2, l3, l4, l5, l6, l7⟩ := hl
  obtain ⟨l8, l9⟩ := lt_parts l7
  have lt8 := lt_mem l8
  have lt9 := lt_mem l9
  have e1 : sv.toArray.push (.int ((preOf (buildN ns i) (i : Int) X0).length : Int) ti) = (sv ++ [Value.int ((preOf (buildN ns i) (i : Int) X0).length : Int) ti]).toArray := push_eq _ _
  have e2 : rv.toArray.push (.str (rowOf (i : Int) X0) tr) = (rv ++ [Value.str (rowOf (i : Int) X0) tr]).toArray := push_eq _ _
  have e3 : gv2.toArray.push (Value.ref D') = (gv2 ++ [Value.ref D']).toArray := by simp
  rw [e1, e2, e3] at NN
  have sub : ∀ p ∈ tl4, p ∈ (D', tupO [.bool b, .str y ty]) :: tl4 := fun p hp => .tail _ hp
  have hb : buildN ns (i + 1) = stepSt (buildN ns i) (i : Int) X0 := by rw [hX]; rfl
  refine ⟨h', tk, m, _, led lst lr ld lg2 Dn (sv ++ [Value.int ((preOf (buildN ns i) (i : Int) X0).length : Int) ti]) (rv ++ [Value.str (rowOf (i : Int) X0) tr]) dv2 (gv2 ++ [Value.ref D']) ws (n1 + 1) (n2 + 1) n32 (n42 + 1) ps2 ++ ((D', tupO [.bool b, .str y ty]) :: tl4), rfl, FF, NN, ?_, ?_, ?_, ?_⟩
  · intro q hq
    simp only [led, List.cons_append, List.nil_append, List.mem_cons, List.mem_append] at hq ⊢
    rcases hq with h | h | h | h | h | h | h | h
    · exact .inr (.inl h)
    · exact .inr (.inr (.inl h))
    · exact .inr (.inr (.inr (.inl h)))
    · exact .inr (.inr (.inr (.inr (.inl h))))
    · exact .inr (.inr (.inr (.inr (.inr (.inl h)))))
    · exact .inr (.inr (.inr (.inr (.inr (.inr (.inl h))))))
    · exact .inl h
    · exact .inr (.inr (.inr (.inr (.inr (.inr (.inr (.inl h)))))))
  · intro q hq
    simp only [List.mem_cons, List.mem_append]
    exact .inr (.inr (.inr (.inr (.inr (.inr (.inr (.inr hq)))))))
  · intro q hq c hc
    rw [List.map_append] at hc
    rcases List.mem_append.mp hc with hc | hc
    · exact hO4 q hq c hc
    · simp only [List.map_cons] at hc
      rcases List.mem_cons.mp hc with rfl | hc
      · exact Nat.ne_of_lt (lt9 q hq)
      · exact G4.own q hq c hc
  · refine ⟨tq, lg2, _, _, dv2, _, _, _, _, _, ps2, (D', tupO [.bool b, .str y ty]) :: tl4, rfl, ?_, H64, ?_, ?_⟩
    · intro q hq c hc
      rcases List.mem_cons.mp hq with rfl | hq
      · simp only [List.mem_cons, List.not_mem_nil, or_false] at hc
        rcases hc with rfl | rfl | rfl | rfl | rfl | rfl
        · exact Nat.ne_of_gt l1
        · exact Nat.ne_of_gt l2
        · exact Nat.ne_of_gt l3
        · exact Nat.ne_of_gt l4
        · exact Nat.ne_of_gt l5
        · exact Nat.ne_of_gt l6
      · exact G4.off q hq c hc
    · rw [hb]
      intro p hp
      simp only [List.mem_cons, List.not_mem_nil, or_false] at hp
      rcases hp with rfl | rfl | rfl | rfl | rfl
      · exact h4
      · exact h1
      · exact h5
      · exact h6
      · exact h7
    · refine ⟨?_, ?_, ?_, ?_, ?_⟩
      · rw [hb]
        show DatAll _ _ ((_ ++ [itemOf (i : Int) X0]).map itemDat)
        rw [List.map_append]
        refine DatAll.append (DatAll.mono sub hcur) (.one ?_)
        rw [← hit]
        exact .tuple (vs := [.bool b, .str y ty]) (.head _) (.cons (.bool b) (.cons (.str y ty) .nil))
      · rw [hb]
        exact DatAll.mono sub hdone
      · rw [hb]
        exact kct_snoc D.rows
      · rw [hb]
        exact IntsAre_snoc D.starts
      · rcases hT3 with e | ⟨c', oc, vs, t, e, hm, r⟩
        · exact .inl e
        · exact .inr ⟨c', oc, vs, t, e, sub _ (G4.sub _ hm), r⟩
end
section
variable {prog : Program} {w : World} {A : Around} {E : Value → Shared → Prop} {s : Shared} {h₀ : Heap} {L : Addr} {news : List (Addr × Obj)}
theorem last_item {value slice : PySem.Expr} {l : Addr} {vs : List Value} {x : Value} {n : Nat} {u : Tok} {Q : Value → Shared → Prop} (N : News h₀ L s.heap news) (hm : (l, listOf (vs ++ [x]).toArray n) ∈ news) (h : Q x s)
    (hs : subscripted slice false (.ref l) (.int (-1) u) = operate [.ref l, .int (-1) u] (getItem (.ref l) (.int (-1) u)) := by with_unfolding_all rfl) :
    wpAny (model prog w) A (subscriptTail value slice (.ref l) (.int (-1) u)) Q E s := by
  have hl : s.heap.IsList l (vs ++ [x]).toArray := News.isList N hm
  refine tail_any hl.typeIs slot_list_getitem.lookup (wpAny_getItem_list_neg hl (by decide) (by simp; omega) (by decide) (x := x) ?_ h) hs
  have e : ((-1 : Int) + ((vs ++ [x]).toArray.size : Nat)).toNat = vs.length := by simp; omega
  rw [e]
  simp
end
section
local macro_rules | `(tactic| k_steps) => `(tactic| repeat' (first | (k_unfold; (try dsimp only)) | walk1 | (dsimp only; walk1) | fail "no step"))
local macro_rules | `(tactic| walk_at "idle") => `(tactic| fail)
local macro_rules | `(tactic| walk_at "idle") => `(tactic| fail)
local macro_rules | `(tactic| walk_at "idle") => `(tactic| fail)
local macro_rules | `(tactic| walk_at "idle") => `(tactic| fail)
local macro_rules | `(tactic| walk_at "subscriptTail Name UnaryOp") => `(tactic| (k_dflt (refine last_item (by k_asm) (by k_mem) ?_; k_whole)))
local macro_rules | `(tactic| walk_at "call builtin:isinstance") => `(tactic| ((fail_if_success (with_reducible show wpAny _ _ (call _ [Value.str _ _, _]) _ _ _)); (fail_if_success (with_reducible show wpAny _ _ (call _ [Value.none, _]) _ _ _)); (fail_if_success (with_reducible show wpAny _ _ (call _ [Value.int _ _, _]) _ _ _)); (fail_if_success (with_reducible show wpAny _ _ (call _ [Value.ref _, _]) _ _ _)); refine StopAt.out ?_))
local macro_rules | `(tactic| walk_at "subscriptTail Name BinOp ref int") => `(tactic| (k_dflt (refine tup3 (by k_asm) (by k_mem) (fmod_bnd _ (by decide)).1 (fmod_bnd _ (by decide)).2 ?_ ?_ ?_) <;> intro hidx))
set_option maxRecDepth 100000 in
set_option maxHeartbeats 2000000 in
theorem law_turnB (w : World) (p : Program) (loose : List Str) (mean : ExcName → Option Value) (mg mb : Str → Option Value) {oc : Value} {od : Option Addr} {osl : Array (Option Value)} {name qual : Str} {params : Arguments} {body : List Stmt} {scope : Scope} {dV kV doc pm cdv ct : Value} {an : Option Addr}
    (hlk : (Mine.hd.heap_39 w.params).lookup 60 = some ⟨oc, od, .func (fnOf name qual params body scope dV kV doc pm an cdv ct), osl⟩)
    (a : Addr) (h₀ : Heap) (L : Addr) (ns : List Int) (ws : List Value) (lst lr ld lg Dn : Addr) (hlen : ns.length ≤ 9)
    (B : Below callerA h₀ [] h₀) (X : (Mine.hd.heap_39 w.params).In h₀) (T : Top p loose mean mg mb h₀)
    (i : Nat) (hi : i < ns.length) (t tr tx tp : Tok) (v : Value) (X0 : Int) (u : Str → Option Value) (h : Heap) (tk : Nat) (own tl tl3 : List (Addr × Obj)) (sv rv dv gv : List Value) (n1 n2 n3 n4 : Nat) (ps ps2 : Array Value)
    (hX : X0 = ns.getD i 0) (G3 : Grown own tl tl3 [lst, lr, ld, lg, 57, Dn]) (hO : OwnOff own [lst, lr, ld, lg, 57, Dn]) (hV3 : ThingV X0 v tl3) (hT3 : TabOk ps2 tl3) (D : InvD ns i lg sv rv dv gv ps tl) (H6 : Told6 lst lr ld lg 57 Dn)
    (F : Fr h₀ L h (kstB u [(Str.ofString "row", .str (rowOf (i : Int) X0) tr), (Str.ofString "thing", v), (Str.ofString "x", .int X0 tx), (Str.ofString "k", .int (0 + (i : Int)) t), (Str.ofString "numbers", Value.ref Dn), (Str.ofString "page", .str (buildN ns i).page tp), (Str.ofString "drawn", .ref ld), (Str.ofString "rows", .ref lr), (Str.ofString "starts", .ref lst)]))
    (N : News h₀ L h (led lst lr ld lg Dn sv rv dv gv ws n1 n2 n3 n4 ps2 ++ (tl3 ++ own))) (s : Shared) (ha : Heap) (tka : Nat) (Q : Flow → Shared → Prop) (E : Value → Shared → Prop) :
    wpAny (model Challenge.rw_pe0019_01.row.prog w) (callerA.deeper (envOf qual scope L a cdv)) (execs ((forBody body 5).drop 4) (envOf qual scope L a cdv)) (InvPostG h₀ L (LawJ ns ws lst lr ld Dn (i + 1)) own { s with heap := ha, toks := tka } Q) E { s with heap := h, toks := tk } := by
  revert hlk
  w_top off
  k_fill
  intro hlk
  refine' lk_cases hlk ?kk ?_
  case kk => k_is
  intro e
  cases e
  clear hlk
  obtain ⟨ab, ac, ad, ae, af, bc, bd, be, bf, cd, ce, cf, de, df, ef⟩ := id H6
  have offA : OwnOff (tl3 ++ own) [lst, lr, ld, lg, 57, Dn] := by
    intro q hq b hb
    exact (List.mem_append.mp hq).elim (fun hq => G3.off q hq b hb) fun hq => hO q hq b hb
  simp only [led, List.cons_append, List.nil_append] at N
  have hpl := buildN_len ns i (by omega)
  have hdl : dv.length ≤ 9 := by rw [D.done.length, List.length_map]; have := build_done ns i; omega
  dsimp only [forBody, List.getElem?_cons_succ, List.getElem?_cons_zero, List.drop_succ_cons, List.drop_zero]
  refine seq1 (P5 h₀ L s ns ws lst lr ld Dn i X0 v tr own tl3 sv rv n1 n2 ps2) ?_ ?_
  · have pre1 : 0 < 0 + (i : Int) → Int.fmod X0 3 = 0 → preOf (buildN ns i) (i : Int) X0 = (buildN ns i).page ++ sepOf (Int.fmod (Int.fdiv X0 3) 3) := fun h1 h2 => by rw [preOf, if_pos (by omega), if_pos h2]
    k_steps
    · exact ⟨rfl, stmt5_new (by assumption) (by assumption) (by assumption) ((by rw [pre1 (by assumption) (by assumption), (by assumption : Int.fmod (Int.fdiv X0 3) 3 = 0)])) rfl rfl rfl rfl rfl rfl rfl G3 hO H6 D ⟨by omega, by assumption⟩⟩
    · exact ⟨rfl, stmt5_new (by assumption) (by assumption) (by assumption) ((by rw [pre1 (by assumption) (by assumption), (by assumption : Int.fmod (Int.fdiv X0 3) 3 = 1)])) rfl rfl rfl rfl rfl rfl rfl G3 hO H6 D ⟨by omega, by assumption⟩⟩
    · exact ⟨rfl, stmt5_new (by assumption) (by assumption) (by assumption) ((by rw [pre1 (by assumption) (by assumption), (by assumption : Int.fmod (Int.fdiv X0 3) 3 = 2)])) rfl rfl rfl rfl rfl rfl rfl G3 hO H6 D ⟨by omega, by assumption⟩⟩
    · exact ⟨rfl, stmt5_keep (by assumption) (by assumption) ((by rw [preOf, if_pos (by omega), if_neg (by assumption)])) rfl rfl rfl rfl rfl rfl rfl G3 hO H6 D (fun hc => absurd hc.2 (by assumption))⟩
    · exact ⟨rfl, stmt5_keep (by assumption) (by assumption) ((by rw [preOf, if_neg (by omega)])) rfl rfl rfl rfl rfl rfl rfl G3 hO H6 D (fun hc => absurd hc.1 (by omega))⟩
  · rintro s' ⟨tp2, lg2, dv2, gv2, n32, n42, tl4, ⟨h5, tk5, u5, rfl, F5, N5⟩, G4, hO4, H64, hcur, hdone⟩
    clear F N offA hdl
    have hV4 := ThingV.mono G4.sub hV3
    have hrl : rv.length = i := by rw [D.rows.length, build_rows]
    have hsl : sv.length = i := by rw [D.starts.length, build_starts]
    have hgl : gv2.length ≤ 9 := by
      rw [hcur.length, List.length_map]
      have := build_cur ns i
      split
      · exact Nat.zero_le _
      · omega
    have hpl2 := preOf_len (buildN ns i) (i : Int) X0
    have hrw := rowOf_len (k := (i : Int)) X0 (by omega) (by omega)
    have offA : OwnOff (tl4 ++ own) [lst, lr, ld, lg2, 57, Dn] := by
      intro q hq b hb
      exact (List.mem_append.mp hq).elim (fun hq => G4.off q hq b hb) fun hq => hO4 q hq b hb
    obtain ⟨ab, ac, ad, ae, af, bc, bd, be, bf, cd, ce, cf, de, df, ef⟩ := id H64
    simp only [led, List.cons_append, List.nil_append] at N5
    k_steps
    refine StopAt.go ?_
    rcases hV4 with ⟨h4, tv, rfl⟩ | ⟨h4, rfl | ⟨i9, t9, rfl⟩ | ⟨D9, vs9, rfl, hm9⟩⟩
    · k_steps
      exact turn_end (by assumption) (by assumption) (by assumption) (by rw [itemOf, if_neg h4]) hX rfl rfl rfl rfl rfl G4 hO4 H64 hT3 D hcur hdone
    · k_steps
      rename Fr _ _ _ _ => FF
      rename News _ _ _ _ => NN
      exact turn_end (b := false) (y := rowOf (i : Int) X0) FF NN (by assumption) (by simp only [itemOf, rowOf, if_pos h4]) hX rfl rfl rfl rfl rfl G4 hO4 H64 hT3 D hcur hdone
    · k_steps
      rename Fr _ _ _ _ => FF
      rename News _ _ _ _ => NN
      exact turn_end (b := false) (y := rowOf (i : Int) X0) FF NN (by assumption) (by simp only [itemOf, rowOf, if_pos h4]) hX rfl rfl rfl rfl rfl G4 hO4 H64 hT3 D hcur hdone
    · refine' kia_one (K := Mine.hd.heap_39 w.params) kitx_list ?za (kitAt_N ?zn ?zm ?zc) ?ze ?zx ?_
      case zn => k_asm
      case zm =>
        iterate 6 refine .tail _ ?_
        exact List.mem_append_left _ hm9
      case zc => rfl
      case za => k_in
      case ze => kit_is
      case zx => simp
      intro tk9
      dsimp only
      k_steps
      rename Fr _ _ _ _ => FF
      rename News _ _ _ _ => NN
      exact turn_end (b := false) (y := rowOf (i : Int) X0) FF NN (by assumption) (by simp only [itemOf, rowOf, if_pos h4]) hX rfl rfl rfl rfl rfl G4 hO4 H64 hT3 D hcur hdone
end
end Mine

/-! # U2 -/
namespace Mine
section
local macro_rules | `(tactic| k_steps) => `(tactic| repeat' (first | (k_unfold; (try dsimp only)) | walk1 | (dsimp only; walk1) | fail "no step"))
local macro_rules | `(tactic| walk_at "idle") => `(tactic| fail)
local macro_rules | `(tactic| walk_at "idle") => `(tactic| fail)
local macro_rules | `(tactic| walk_at "joinParts") => `(tactic| ((first | (with_reducible show wpAny _ _ (joinParts _ []) _ _ _) | (with_reducible show wpAny _ _ (joinParts _ (evalEach [] _)) _ _ _)); refine StopAt.out ?_))
local macro_rules | `(tactic| walk_at "getAttr ref") => `(tactic| (k_dflt (refine lam_name (by k_asm) (by k_mem) ?_; k_whole); intro _ _))
local macro_rules | `(tactic| walk_at "exec") => `(tactic| (k_here; k_dflt (refine whl_start 100 ?_)))
local macro_rules | `(tactic| walk_at "getMethod") => `(tactic| ((with_reducible show wpAny _ _ (getMethod _ (Str.ofString "split") _) _ _ _); refine StopAt.out ?_))
local macro_rules | `(tactic| walk_at "eval Lambda") => `(tactic| refine StopAt.out ?_)
local macro_rules | `(tactic| walk_at "call ref") => `(tactic| refine StopAt.out ?_)
set_option maxRecDepth 100000 in
set_option maxHeartbeats 2000000 in
theorem law_turn (w : World) (p : Program) (loose : List Str) (mean : ExcName → Option Value) (mg mb : Str → Option Value) {oc : Value} {od : Option Addr} {osl : Array (Option Value)} {name qual : Str} {params : Arguments} {body : List Stmt} {scope : Scope} {dV kV doc pm cdv ct : Value} {an : Option Addr}
    (hlk : (Mine.hd.heap_39 w.params).lookup 60 = some ⟨oc, od, .func (fnOf name qual params body scope dV kV doc pm an cdv ct), osl⟩)
    (a : Addr) (h₀ : Heap) (L : Addr) (ns : List Int) (ws : List Value) (lst lr ld Dn : Addr) (hws : IntsAre ws ns) (hns : ∀ x ∈ ns, 0 ≤ x ∧ x < 23040) (hlen : ns.length ≤ 9)
    (B : Below callerA h₀ [] h₀) (X : (Mine.hd.heap_39 w.params).In h₀) (T : Top p loose mean mg mb h₀) (C : CodeHd h₀ 59 57)
    (i : Nat) (hi : i < ns.length) (t : Tok) (m₁ : Str → Option Value) (nx : List (Addr × Obj)) (h : Heap) (tk : Nat) (own : List (Addr × Obj)) (off : OwnOff own (nx.map (·.1))) (J : LawJ ns ws lst lr ld Dn i m₁ nx)
    (F : Fr h₀ L h (fun y => if y = Str.ofString "k" then some (.int (0 + (i : Int)) t) else m₁ y)) (N : News h₀ L h (nx ++ own)) (s : Shared) (Q : Flow → Shared → Prop) (E : Value → Shared → Prop) :
    wpAny (model Challenge.rw_pe0019_01.row.prog w) (callerA.deeper (envOf qual scope L a cdv)) (execs (forBody body 5) (envOf qual scope L a cdv)) (InvPostG h₀ L (LawJ ns ws lst lr ld Dn (i + 1)) own { s with heap := h, toks := tk } Q) E { s with heap := h, toks := tk } := by
  revert hlk
  w_top off
  k_fill
  intro hlk
  refine' lk_cases hlk ?kk ?_
  case kk => k_is
  intro e
  cases e
  obtain ⟨tp, lg, sv, rv, dv, gv, n1, n2, n3, n4, ps, tl, rfl, offt, ⟨ab, ac, ad, ae, af, bc, bd, be, bf, cd, ce, cf, de, df, ef⟩, hm, D⟩ := J
  replace F := fr_known _ hm F
  have offO : OwnOff own (tl.map (·.1)) ∧ OwnOff own [lst, lr, ld, lg, 57, Dn] := by
    refine ⟨fun q hq b hb => off q hq b ?_, fun q hq b hb => off q hq b ?_⟩
    · rw [List.map_append]; exact List.mem_append_right _ hb
    · rw [List.map_append]; exact List.mem_append_left _ hb
  have G0 : Grown own tl tl [lst, lr, ld, lg, 57, Dn] := .refl offt offO.1
  simp only [led, List.cons_append, List.nil_append] at N
  have hxi : ns.getD (Int.toNat (0 + (i : Int))) 0 = ns.getD i 0 := by rw [show Int.toNat (0 + (i : Int)) = i from by omega]
  have hxj : ns.getD i 0 = ns[i]'hi := by rw [List.getD_eq_getElem?_getD, List.getElem?_eq_getElem hi]; rfl
  obtain ⟨hx0, hx1⟩ := hns (ns[i]'hi) (List.getElem_mem hi)
  rw [← hxj, ← hxi] at hx0 hx1
  dsimp only [forBody, List.getElem?_cons_succ, List.getElem?_cons_zero]
  generalize hX : ns.getD (Int.toNat (0 + (i : Int))) 0 = X0 at *
  refine seq2 (fun s' => ∃ v tx tl2, Mid h₀ L s [(Str.ofString "thing", v), (Str.ofString "x", .int X0 tx), (Str.ofString "k", .int (0 + (i : Int)) t), (Str.ofString "numbers", Value.ref Dn), (Str.ofString "page", .str (buildN ns i).page tp), (Str.ofString "drawn", .ref ld), (Str.ofString "rows", .ref lr), (Str.ofString "starts", .ref lst)]
      (led lst lr ld lg Dn sv rv dv gv ws n1 n2 n3 n4 ps ++ (tl2 ++ own)) s' ∧ Grown own tl tl2 [lst, lr, ld, lg, 57, Dn] ∧ ThingV X0 v tl2) ?_ ?_
  · k_steps
    refine StopAt.go ?_
    refine' thing_c _ _ _ _ _ _ _ _ _ _ _ _ _ _ _ _ _ _ _ _ _ _ _ _ _ _ ?k1 ?k2 ?k3 ?k4 ?k5 ?kK ?x0 ?x1 ?kd ?ku ?hS ?hN ?hI ?hL
    case k1 => k_asm
    case k2 => k_asm
    case k3 => k_asm
    case k4 => k_asm
    case k5 => k_asm
    case kK => rfl
    case x0 => rw [hX]; assumption
    case x1 => rw [hX]; assumption
    case kd => ktr_room
    case ku => ktr_units
    all_goals (rw [hX])
    case hS =>
      intro hs4 t9 h9 tk9 F9 N9
      k_steps
      rename Fr _ _ _ _ => FF
      rename News _ _ _ _ => NN
      exact ⟨rfl, _, _, tl, Mid.mk FF NN (all8 rfl rfl rfl rfl rfl rfl rfl rfl) (fun _ h => h), G0, .inl ⟨hs4, _, rfl⟩⟩
    case hN =>
      intro hs4 h9 tk9 F9 N9
      k_steps
      rename Fr _ _ _ _ => FF
      rename News _ _ _ _ => NN
      exact ⟨rfl, _, _, tl, Mid.mk FF NN (all8 rfl rfl rfl rfl rfl rfl rfl rfl) (fun _ h => h), G0, .inr ⟨hs4, .inl rfl⟩⟩
    case hI =>
      intro hs4 t9 h9 tk9 F9 N9
      k_steps
      rename Fr _ _ _ _ => FF
      rename News _ _ _ _ => NN
      exact ⟨rfl, _, _, tl, Mid.mk FF NN (all8 rfl rfl rfl rfl rfl rfl rfl rfl) (fun _ h => h), G0, .inr ⟨hs4, .inr (.inl ⟨_, _, rfl⟩)⟩⟩
    case hL =>
      intro hs4 D9 t9 h9 tk9 F9 N9 l9
      k_steps
      simp only [AllLt] at l9
      have lt9 := lt_mem (lt_parts l9.2.2.2.2.2.2).2
      rename Fr _ _ _ _ => FF
      rename News _ _ _ _ => NN
      refine ⟨rfl, _, _, (D9, lisO [.str (Str.ofString "a!") t9]) :: tl, Mid.mk FF NN (all8 rfl rfl rfl rfl rfl rfl rfl rfl) sub_mid, G0.one ?c (fun q hq => Nat.ne_of_lt (lt9 q hq)), .inr ⟨hs4, .inr (.inr ⟨_, _, rfl, .head _⟩)⟩⟩
      case c =>
        intro b hb
        simp only [List.mem_cons, List.not_mem_nil, or_false] at hb
        rcases hb with rfl | rfl | rfl | rfl | rfl | rfl <;> omega
  · rintro s' ⟨v, tx, tl2, ⟨h2, tk2, u2, rfl, F2, N2⟩, G2, hv⟩
    clear F N off offt hm
    simp only [led, List.cons_append, List.nil_append] at N2
    have offA : OwnOff (tl2 ++ own) [lst, lr, ld, lg, 57, Dn] := by
      intro q hq b hb
      exact (List.mem_append.mp hq).elim (fun hq => G2.off q hq b hb) fun hq => offO.2 q hq b hb
    have hT2 : TabOk ps tl2 := by
      rcases D.tab with e | ⟨c', oc, vs, t, e, hm, r⟩
      · exact .inl e
      · exact .inr ⟨c', oc, vs, t, e, G2.sub _ hm, r⟩
    refine seq1 (fun s' => ∃ tr ps2 tl3, Mid h₀ L s [(Str.ofString "row", .str (rowOf (i : Int) X0) tr), (Str.ofString "thing", v), (Str.ofString "x", .int X0 tx), (Str.ofString "k", .int (0 + (i : Int)) t), (Str.ofString "numbers", Value.ref Dn), (Str.ofString "page", .str (buildN ns i).page tp), (Str.ofString "drawn", .ref ld), (Str.ofString "rows", .ref lr), (Str.ofString "starts", .ref lst)]
      (led lst lr ld lg Dn sv rv dv gv ws n1 n2 n3 n4 ps2 ++ (tl3 ++ own)) s' ∧ Grown own tl tl3 [lst, lr, ld, lg, 57, Dn] ∧ ThingV X0 v tl3 ∧ TabOk ps2 tl3) ?_ ?_
    · k_steps
      refine StopAt.go ?_
      refine lam_any [lst, lr, ld, lg, 57, Dn] (tl := tl2) (by k_asm) (by k_asm) (by k_asm) C rfl (by k_updF) hT2 (by intro q hq; simp [hq]) G2.off (by intro b hb; simp at hb; rcases hb with rfl | rfl | rfl | rfl | rfl | rfl <;> exact ⟨_, by k_mem⟩) own (fun q hq => by simp [hq]) G2.own rfl rfl rfl rfl rfl ?_
      intro f1 c1 oc1 vs1 t1 ctv1 h1 tk1 F1 N1 d1 d2 l1 l2 l3 l4
      have G3 : Grown own tl ((c1, oc1) :: tl2) [lst, lr, ld, lg, 57, Dn] := G2.one l3 l4
      have hT3 : TabOk #[PySem.rawInt 69, PySem.rawInt 42, Value.ref c1] ((c1, oc1) :: tl2) := .inr ⟨c1, oc1, vs1, t1, rfl, .head _, d1, d2⟩
      k_steps
      refine StopAt.go ?_
      refine wpAny_call ?_
      k_dflt (refine' code_defS0 B F1 X N1 T rfl ?k6 ?k7 ?k8 ?k9 ?kB ?_ ?c1 ?c2 ?c3 ?c4 ?c5)
      case k6 => k_is
      case k7 => k_is
      case k8 => k_room
      case k9 => first | exact BindsTo.of_eq rfl | exact binds_K (by k_in) rfl (by k_is) rfl rfl rfl
      case kB => exact locs rfl
      case c1 => rfl
      case c2 => rfl
      case c3 => rfl
      case c4 => rfl
      case c5 => decide
      intro g2 L2 h2 FG2 F2 N2 B2 X2 T2 D2
      k_steps
      refine StopAt.go ?_
      refine wpAny_call ?_
      k_dflt (refine' kla_code ?k1 ?k2 ?k3 ?k4 ?k5 ?kA ?kF ?kK ?k6 ?k7 ?k8 ?k9 ?kB ?_ ?c2 ?c3 ?c4 ?c5; (case kA => exact rfl); (case kF => exact rfl); (case kK => exact rfl); (case k1 => k_asm); (case k2 => k_asm); (case k3 => k_asm); (case k4 => k_asm); (case k5 => k_asm); (case k6 => k_mem); (case k7 => exact codeRec_news (by k_asm) (by k_mem) (by assumption) (by assumption)); (case k8 => k_room); (case k9 => exact rfl); (case c5 => decide); (case kB => exact locs rfl); (case c2 => exact rfl); (case c3 => exact rfl); (case c4 => exact rfl); k_whole)
      intro g3 L3 h3 FG3 F3 N3 B3 X3 T3
      k_steps
      refine StopAt.go ?_
      have hV3 := ThingV.mono (tl' := (c1, oc1) :: tl2) (fun p hp => .tail _ hp) hv
      rcases hv with ⟨h4, tv, rfl⟩ | ⟨h4, hv⟩
      · refine' replace_c _ _ _ _ _ _ _ _ _ _ _ _ _ _ _ _ _ _ _ _ _ _ _ _ _ _ _ _ _ _ _ _ _ _ _ _ _ _ ?k1 ?k2 ?k3 ?k4 ?k5 ?kK ?x0 ?a1 ?a2 ?a3 ?b1 ?b2 ?b3 ?kd ?ku ?hr
        case k1 => k_asm
        case k2 => k_asm
        case k3 => k_asm
        case k4 => k_asm
        case k5 => k_asm
        case kK => rfl
        case x0 => exact Nat.le_trans (textOf_len X0) (by decide)
        case a1 => decide
        case a2 => decide
        case a3 => decide
        case b1 => decide
        case b2 => decide
        case b3 => decide
        case kd => ktr_room
        case ku => ktr_units
        intro t5 h5 tk5 F5 N5
        have hz := enc3_len (textOf_len X0)
        unfold enc3 at hz
        k_steps
        rename Fr _ _ _ _ => FF
        rename News _ _ _ _ => NN
        have er : Str.ofString "." ++ enc3 (textOf X0) = rowOf (i : Int) X0 := by rw [enc_text, rowOf, if_neg h4]
        unfold enc3 at er
        rw [er] at FF
        exact ⟨rfl, _, _, _, Mid.mk FF NN (all9 rfl rfl rfl rfl rfl rfl rfl rfl rfl) (fun q hq => .tail _ (sub_mid q hq)), G3, .inl ⟨h4, _, rfl⟩, hT3⟩
      · refine wpAny_call ?_
        k_dflt (refine' kp_rest ?k1 ?k2 ?k3 ?k4 ?k5 ?kA ?kF ?kK ?k6 ?k7 ?k8 ?kV ?kP ?kG ?kB ?_ ?c2 ?c3 ?c4 ?c5; (case kA => exact rfl); (case kF => exact rfl); (case kK => exact rfl); (case k1 => k_asm); (case k2 => k_asm); (case k3 => k_asm); (case k4 => k_asm); (case k5 => k_asm); (case k6 => k_is); (case k7 => k_is); (case k8 => k_room); (case kV => kl_lit); (case kP => exact rfl); (case kG => exact fun _ => rfl); (case kB => exact fun _ => locs rfl); (case c5 => decide); (case c2 => exact rfl); (case c3 => exact rfl); (case c4 => exact rfl); k_whole)
        intro D4 g4 L4 h4' l4 FG4 F4 N4 B4 X4 T4
        k_steps
        refine StopAt.go ?_
        refine miss_any (tl := tl2) (by k_asm) hv (by intro q hq; simp [hq]) rfl ?_
        intro h5 tk5 e5 hx5
        dsimp only
        refine leave_newA B4 hx5 (by k_asm) (by k_asm) ?_
        intro h6 R6 U6
        dsimp only
        refine leave_onSN B3 FG4 R6 U6 ?_
        intro h7 R7 _ U7
        dsimp only
        refine caught_bare R7 FG3 B2 U7 X T D2 KtsTurn.refl ?_
        intro h8 g8 T8 F8 N8 B8 X8 P8 D8
        dsimp only
        k_steps
        refine StopAt.go ?_
        have e9 := fail_eq (0 + (i : Int))
        refine joinParts_nilE ?_
        refine joinParts_nil ?_ ?z9
        case z9 =>
          rw [e9]
          exact Nat.le_trans (failRow_len (by omega) (by omega)) (by decide +kernel)
        rw [e9]
        dsimp only
        k_steps
        rename Fr _ _ _ _ => FF
        rename News _ _ _ _ => NN
        have er : failRow (0 + (i : Int)) = rowOf (i : Int) X0 := by rw [rowOf, if_pos h4, Int.zero_add]
        rw [er] at FF
        exact ⟨rfl, _, _, _, Mid.mk FF NN (all9 rfl rfl rfl rfl rfl rfl rfl rfl rfl) (fun q hq => .tail _ (.tail _ (sub_mid q hq))), G3, hV3, hT3⟩
    · rintro s' ⟨tr, ps2, tl3, ⟨h3, tk3, u3, rfl, F3, N3⟩, G3, hV3, hT3⟩
      clear F2 N2 offA hT2 hv G2
      simp only [led, List.cons_append, List.nil_append] at N3
      have offA : OwnOff (tl3 ++ own) [lst, lr, ld, lg, 57, Dn] := by
        intro q hq b hb
        exact (List.mem_append.mp hq).elim (fun hq => G3.off q hq b hb) fun hq => offO.2 q hq b hb
      refine seq1 (fun s' => Mid h₀ L s [(Str.ofString "row", .str (rowOf (i : Int) X0) tr), (Str.ofString "thing", v), (Str.ofString "x", .int X0 tx), (Str.ofString "k", .int (0 + (i : Int)) t), (Str.ofString "numbers", Value.ref Dn), (Str.ofString "page", .str (buildN ns i).page tp), (Str.ofString "drawn", .ref ld), (Str.ofString "rows", .ref lr), (Str.ofString "starts", .ref lst)]
        (led lst lr ld lg Dn sv rv dv gv ws n1 n2 n3 n4 ps2 ++ (tl3 ++ own)) s') ?_ ?_
      · k_steps
        refine StopAt.go ?_
        refine' row_any _ _ _ _ _ _ X0 _ _ _ _ _ _ _ _ _ _ _ _ _ _ _ _ _ _ tl3 _ _ _ ?qk1 ?qk2 ?qk3 ?qk4 ?qk5 ?qkK hV3 ?qks ?qx0 ?qx1 ?qkd ?qku ?qhr
        case qk1 => k_asm
        case qk2 => k_asm
        case qk3 => k_asm
        case qk4 => k_asm
        case qk5 => k_asm
        case qkK => rfl
        case qks => intro q hq; simp [hq]
        case qx0 => omega
        case qx1 => omega
        case qkd => ktr_room
        case qku => ktr_units
        intro t5 h5 tk5 F5 N5
        have hri : rowOf (0 + (i : Int)) X0 = rowOf (i : Int) X0 := by rw [Int.zero_add]
        rw [hri]
        k_steps
        · exfalso
          rename (_ : Prop) => hbad
          simp at hbad
        · exact ⟨rfl, Mid.mk F5 N5 (all9 rfl rfl rfl rfl rfl rfl rfl rfl rfl) (fun _ h => h)⟩
      · rintro s' ⟨h6, tk6, u6, rfl, F6, N6⟩
        clear F3 N3
        exact law_turnB w p loose mean mg mb hlk a h₀ L ns ws lst lr ld lg Dn hlen B X T i hi t tr tx tp v X0 u6 h6 tk6 own tl tl3 sv rv dv gv n1 n2 n3 n4 ps ps2 hxi G3 offO.2 hV3 hT3 D ⟨ab, ac, ad, ae, af, bc, bd, be, bf, cd, ce, cf, de, df, ef⟩ F6 N6 s h tk Q E
end
end Mine

/-! # Rd -/
namespace Mine
/-! ## what _law_read computes, in plain words -/
structure RSt where
  rest : Str
  done : List (List (Bool × Str))
  cur : List (Bool × Str)
  halves : List (Str × Str)
def rdRow (r : Str) : Str := if (sdoc r).1 = Str.ofString "" then (Txt.partition (sdoc r).2 (Str.ofString "\n")).1 else (sdoc r).1
def rdRest (r : Str) : Str := if (sdoc r).1 = Str.ofString "" then Txt.slice (sdoc r).2 (some (((rdRow r).length : Int) + 1)) none else (sdoc r).2
def rdItem (row : Str) : Bool × Str := if Txt.slice row none (some 1) = Str.ofString "." then (true, decT (Txt.slice row (some 1) none)) else (false, row)
def readSt (p : RSt) : RSt :=
  { rest := rdRest p.rest
    done := if (sdoc p.rest).1 = Str.ofString "" then p.done else p.done ++ [p.cur ++ [rdItem (rdRow p.rest)]]
    cur := if (sdoc p.rest).1 = Str.ofString "" then p.cur ++ [rdItem (rdRow p.rest)] else []
    halves := p.halves ++ [sdoc p.rest] }
def readN (page : Str) : Nat → RSt
  | 0 => ⟨page, [], [], []⟩
  | i + 1 => readSt (readN page i)
def halfDat (p : Str × Str) : Dat := .tuple [.str p.1, .str p.2]
theorem rng0 : ∀ c : Nat, c < 10 → Builtin.Range.small 0 (c : Int) 1 = true ∧ Builtin.Range.rangeSize 0 (c : Int) 1 = (c : Int) := by decide
theorem rng1 : ∀ c : Nat, c < 10 → 1 ≤ c → Builtin.Range.small 1 (c : Int) 1 = true ∧ Builtin.Range.rangeSize 1 (c : Int) 1 = ((c - 1 : Nat) : Int) := by decide
theorem read_lens (x : Str) : ∀ i, (readN x i).cur.length ≤ i ∧ (readN x i).done.length ≤ i ∧ (readN x i).halves.length = i
  | 0 => ⟨Nat.le_refl _, Nat.le_refl _, rfl⟩
  | i + 1 => by
    have ⟨h1, h2, h3⟩ := read_lens x i
    simp only [readN, readSt]
    split <;> simp <;> omega
structure RdI (x : Str) (i : Nat) (lgs lh lg : Addr) (dv hv gv : List Value) (tl news : List (Addr × Obj)) : Prop where
  sub : ∀ q ∈ news, q ∈ tl
  off : OwnOff tl [lgs, lh, lg]
  ab : @Ne Nat lh lgs
  ac : @Ne Nat lgs lg
  bc : @Ne Nat lh lg
  cur : DatAll tl gv ((readN x i).cur.map itemDat)
  done : DatAll tl dv ((readN x i).done.map fun g => Dat.list (g.map itemDat))
  halves : DatAll tl hv ((readN x i).halves.map halfDat)
def RdJ (x : Str) (lgs lh : Addr) (news : List (Addr × Obj)) (i : Nat) (m : Str → Option Value) (nx : List (Addr × Obj)) : Prop :=
  ∃ (tr : Tok) (lg : Addr) (dv hv gv : List Value) (n1 n2 n3 : Nat) (tl : List (Addr × Obj)),
    nx = (lh, listOf hv.toArray n2) :: (lgs, listOf (dv ++ [Value.ref lg]).toArray n1) :: (lg, listOf gv.toArray n3) :: tl ∧
    (∀ p ∈ [(Str.ofString "rest", .str (readN x i).rest tr), (Str.ofString "groups", .ref lgs), (Str.ofString "halves", .ref lh)], m p.1 = some p.2) ∧
    RdI x i lgs lh lg dv hv gv tl news
theorem all3 {α : Type} {P : α → Prop} {a b c : α} (h1 : P a) (h2 : P b) (h3 : P c) : ∀ p ∈ [a, b, c], P p := by
  intro p hp
  simp only [List.mem_cons, List.not_mem_nil, or_false] at hp
  rcases hp with rfl | rfl | rfl <;> assumption
theorem ownOff_lt {D : Nat} {l : List (Addr × Obj)} (h : AllLt D l) : ∀ p ∈ l, @Ne Nat p.1 D := fun p hp => Nat.ne_of_lt (lt_mem h p hp)
theorem seq4 {M : Model} {A : Around} {E : Value → Shared → Prop} {env : Env} {Q : Flow → Shared → Prop} {s : Shared} {rest : List Stmt} {a b c d : Stmt} (P : Shared → Prop) (h1 : wpAny M A (execs [a, b, c, d] env) (Reach P) E s) (h2 : ∀ s', P s' → wpAny M A (execs rest env) Q E s') : wpAny M A (execs (a :: b :: c :: d :: rest) env) Q E s := seq_app P [a, b, c, d] h1 h2
theorem all5 {α : Type} {P : α → Prop} {a b c d e : α} (h1 : P a) (h2 : P b) (h3 : P c) (h4 : P d) (h5 : P e) : ∀ p ∈ [a, b, c, d, e], P p := by
  intro p hp
  simp only [List.mem_cons, List.not_mem_nil, or_false] at hp
  rcases hp with rfl | rfl | rfl | rfl | rfl <;> assumption
theorem all4 {α : Type} {P : α → Prop} {a b c d : α} (h1 : P a) (h2 : P b) (h3 : P c) (h4 : P d) : ∀ p ∈ [a, b, c, d], P p := by
  intro p hp
  simp only [List.mem_cons, List.not_mem_nil, or_false] at hp
  rcases hp with rfl | rfl | rfl | rfl <;> assumption
theorem mem_rot {α : Type} {a b c d e : α} {l : List α} : ∀ q ∈ a :: b :: c :: d :: e :: l, q ∈ d :: a :: b :: c :: e :: l := by
  intro q hq
  simp only [List.mem_cons] at hq ⊢
  rcases hq with h | h | h | h | h | h <;> simp only [h, true_or, or_true]
theorem grown_lt {own tl tl2 : List (Addr × Obj)} {D lgs lh lg D1 : Addr} {o : Obj} (G : Grown own tl tl2 [lgs, lh, lg]) (l : @LT.lt Nat _ lh D ∧ @LT.lt Nat _ lgs D ∧ @LT.lt Nat _ lg D ∧ @LT.lt Nat _ D1 D ∧ AllLt D (tl ++ own)) : Grown own tl ((D, o) :: tl2) [lgs, lh, lg] := by
  obtain ⟨p1, p2, p3, _, p4⟩ := l
  obtain ⟨p5, p6⟩ := lt_parts p4
  refine G.one ?_ fun q hq => Nat.ne_of_lt (lt_mem p6 q hq)
  intro b hb
  simp only [List.mem_cons, List.not_mem_nil, or_false] at hb
  rcases hb with rfl | rfl | rfl
  · exact Nat.ne_of_gt p2
  · exact Nat.ne_of_gt p1
  · exact Nat.ne_of_gt p3
section
variable {h₀ h' : Heap} {L : Addr} {s : Shared} {x r : Str} {i : Nat} {lgs lh lg D1 D2 : Addr} {dv hv gv : List Value} {n1 n2 n3 : Nat} {tl news own : List (Addr × Obj)} {ta tb ti tr : Tok} {m : Str → Option Value} {ha : Heap} {tka tk : Nat}
theorem rd_datas (D : RdI x i lgs lh lg dv hv gv tl news) (hr : (readN x i).rest = r) {tl3 : List (Addr × Obj)} (e : tl3 = (D2, tupO [.bool (rdItem (rdRow r)).1, .str (rdItem (rdRow r)).2 ti]) :: (D1, tupO [.str (sdoc r).1 ta, .str (sdoc r).2 tb]) :: tl) :
    (∀ p ∈ tl, p ∈ tl3) ∧ DatAll tl3 (gv ++ [Value.ref D2]) (((readN x i).cur ++ [rdItem (rdRow r)]).map itemDat) ∧ DatAll tl3 dv ((readN x i).done.map fun g => Dat.list (g.map itemDat)) ∧ DatAll tl3 (hv ++ [Value.ref D1]) (((readN x i).halves ++ [sdoc r]).map halfDat) := by
  subst e
  have sub : ∀ p ∈ tl, p ∈ (D2, tupO [.bool (rdItem (rdRow r)).1, .str (rdItem (rdRow r)).2 ti]) :: (D1, tupO [.str (sdoc r).1 ta, .str (sdoc r).2 tb]) :: tl := fun p hp => .tail _ (.tail _ hp)
  refine ⟨sub, ?_, D.done.mono sub, ?_⟩
  · rw [List.map_append]
    exact DatAll.append (D.cur.mono sub) (.one (.tuple (vs := [.bool (rdItem (rdRow r)).1, .str (rdItem (rdRow r)).2 ti]) (.head _) (.cons (.bool _) (.cons (.str _ ti) .nil))))
  · rw [List.map_append]
    exact DatAll.append (D.halves.mono sub) (.one (.tuple (vs := [.str (sdoc r).1 ta, .str (sdoc r).2 tb]) (.tail _ (.head _)) (.cons (.str _ ta) (.cons (.str _ tb) .nil))))
theorem rd_out (D : RdI x i lgs lh lg dv hv gv tl news) :
    DatIn ((D1, tupO [Value.ref lgs, Value.ref lh]) :: (lh, listOf hv.toArray n2) :: (lgs, listOf (dv ++ [Value.ref lg]).toArray n1) :: (lg, listOf gv.toArray n3) :: tl) (.ref D1) (.tuple [.list (((readN x i).done ++ [(readN x i).cur]).map fun g => Dat.list (g.map itemDat)), .list ((readN x i).halves.map halfDat)]) := by
  have sub : ∀ p ∈ tl, p ∈ (D1, tupO [Value.ref lgs, Value.ref lh]) :: (lh, listOf hv.toArray n2) :: (lgs, listOf (dv ++ [Value.ref lg]).toArray n1) :: (lg, listOf gv.toArray n3) :: tl := fun p hp => .tail _ (.tail _ (.tail _ (.tail _ hp)))
  refine .tuple (vs := [Value.ref lgs, Value.ref lh]) (.head _) (.cons (.list (.tail _ (.tail _ (.head _))) ?_) (.cons (.list (.tail _ (.head _)) (D.halves.mono sub)) .nil))
  rw [List.map_append]
  exact DatAll.append (D.done.mono sub) (.one (.list (.tail _ (.tail _ (.tail _ (.head _)))) (D.cur.mono sub)))
theorem rd_keep (FF : Fr h₀ L h' m)
    (NN : News h₀ L h' ((lh, listOf (hv ++ [Value.ref D1]).toArray (n2 + 1)) :: (lgs, listOf (dv ++ [Value.ref lg]).toArray n1) :: (lg, listOf (gv ++ [Value.ref D2]).toArray (n3 + 1)) :: (D2, tupO [.bool (rdItem (rdRow r)).1, .str (rdItem (rdRow r)).2 ti]) :: (D1, tupO [.str (sdoc r).1 ta, .str (sdoc r).2 tb]) :: (tl ++ own)))
    (hm : ∀ p ∈ [(Str.ofString "rest", .str (rdRest r) tr), (Str.ofString "groups", .ref lgs), (Str.ofString "halves", .ref lh)], m p.1 = some p.2)
    (G : Grown own tl ((D2, tupO [.bool (rdItem (rdRow r)).1, .str (rdItem (rdRow r)).2 ti]) :: (D1, tupO [.str (sdoc r).1 ta, .str (sdoc r).2 tb]) :: tl) [lgs, lh, lg]) (hO : OwnOff own [lgs, lh, lg])
    (D : RdI x i lgs lh lg dv hv gv tl news) (hr : (readN x i).rest = r) (he : (sdoc r).1 = Str.ofString "") :
    InvEndG h₀ L (RdJ x lgs lh news (i + 1)) own { s with heap := ha, toks := tka } { s with heap := h', toks := tk } := by
  obtain ⟨sub, d1, d2, d3⟩ := rd_datas (ti := ti) (ta := ta) (tb := tb) (D1 := D1) (D2 := D2) D hr rfl
  have hn : readN x (i + 1) = readSt (readN x i) := rfl
  refine ⟨h', tk, m, _, (lh, listOf (hv ++ [Value.ref D1]).toArray (n2 + 1)) :: (lgs, listOf (dv ++ [Value.ref lg]).toArray n1) :: (lg, listOf (gv ++ [Value.ref D2]).toArray (n3 + 1)) :: (D2, tupO [.bool (rdItem (rdRow r)).1, .str (rdItem (rdRow r)).2 ti]) :: (D1, tupO [.str (sdoc r).1 ta, .str (sdoc r).2 tb]) :: tl, rfl, FF, NN, ?_, ?_, ?_, ?_⟩
  · intro q hq
    simp only [List.mem_cons, List.mem_append] at hq ⊢
    rcases hq with h | h | h | h | h | h <;> simp only [h, true_or, or_true]
  · intro q hq
    simp only [List.mem_cons, List.mem_append, hq, or_true]
  · intro q hq b hb
    simp only [List.map_cons] at hb
    rcases List.mem_cons.mp hb with rfl | hb
    · exact hO q hq _ (.tail _ (.head _))
    rcases List.mem_cons.mp hb with rfl | hb
    · exact hO q hq _ (.head _)
    rcases List.mem_cons.mp hb with rfl | hb
    · exact hO q hq _ (.tail _ (.tail _ (.head _)))
    exact G.own q hq b hb
  · refine ⟨tr, lg, dv, _, _, n1, n2 + 1, n3 + 1, _, rfl, ?_, ⟨fun q hq => sub q (D.sub q hq), G.off, D.ab, D.ac, D.bc, ?_, ?_, ?_⟩⟩
    · rw [hn]; simp only [readSt, hr]; exact hm
    · rw [hn]; simp only [readSt, hr, if_pos he]; exact d1
    · rw [hn]; simp only [readSt, hr, if_pos he]; exact d2
    · rw [hn]; simp only [readSt, hr]; exact d3
theorem rd_new {l' : Addr} (FF : Fr h₀ L h' m)
    (NN : News h₀ L h' ((l', listOf #[] 0) :: (lh, listOf (hv ++ [Value.ref D1]).toArray (n2 + 1)) :: (lgs, listOf (((dv ++ [Value.ref lg]) ++ [Value.ref l']).toArray) (n1 + 1)) :: (lg, listOf (gv ++ [Value.ref D2]).toArray (n3 + 1)) :: (D2, tupO [.bool (rdItem (rdRow r)).1, .str (rdItem (rdRow r)).2 ti]) :: (D1, tupO [.str (sdoc r).1 ta, .str (sdoc r).2 tb]) :: (tl ++ own)))
    (l : @LT.lt Nat _ lh l' ∧ @LT.lt Nat _ lgs l' ∧ @LT.lt Nat _ lg l' ∧ @LT.lt Nat _ D2 l' ∧ @LT.lt Nat _ D1 l' ∧ AllLt l' (tl ++ own))
    (hm : ∀ p ∈ [(Str.ofString "rest", .str (rdRest r) tr), (Str.ofString "groups", .ref lgs), (Str.ofString "halves", .ref lh)], m p.1 = some p.2)
    (G : Grown own tl ((D2, tupO [.bool (rdItem (rdRow r)).1, .str (rdItem (rdRow r)).2 ti]) :: (D1, tupO [.str (sdoc r).1 ta, .str (sdoc r).2 tb]) :: tl) [lgs, lh, lg]) (hO : OwnOff own [lgs, lh, lg])
    (D : RdI x i lgs lh lg dv hv gv tl news) (hr : (readN x i).rest = r) (he : ¬ (sdoc r).1 = Str.ofString "") :
    InvEndG h₀ L (RdJ x lgs lh news (i + 1)) own { s with heap := ha, toks := tka } { s with heap := h', toks := tk } := by
  obtain ⟨sub, d1, d2, d3⟩ := rd_datas (ti := ti) (ta := ta) (tb := tb) (D1 := D1) (D2 := D2) D hr rfl
  have hn : readN x (i + 1) = readSt (readN x i) := rfl
  obtain ⟨p1, p2, p3, p4, p5, p6⟩ := l
  obtain ⟨p7, p8⟩ := lt_parts p6
  refine ⟨h', tk, m, _, (lh, listOf (hv ++ [Value.ref D1]).toArray (n2 + 1)) :: (lgs, listOf (((dv ++ [Value.ref lg]) ++ [Value.ref l']).toArray) (n1 + 1)) :: (l', listOf #[] 0) :: (lg, listOf (gv ++ [Value.ref D2]).toArray (n3 + 1)) :: (D2, tupO [.bool (rdItem (rdRow r)).1, .str (rdItem (rdRow r)).2 ti]) :: (D1, tupO [.str (sdoc r).1 ta, .str (sdoc r).2 tb]) :: tl, rfl, FF, NN, ?_, ?_, ?_, ?_⟩
  · intro q hq
    simp only [List.mem_cons, List.mem_append] at hq ⊢
    rcases hq with h | h | h | h | h | h | h <;> simp only [h, true_or, or_true]
  · intro q hq
    simp only [List.mem_cons, List.mem_append, hq, or_true]
  · intro q hq b hb
    simp only [List.map_cons] at hb
    rcases List.mem_cons.mp hb with rfl | hb
    · exact hO q hq _ (.tail _ (.head _))
    rcases List.mem_cons.mp hb with rfl | hb
    · exact hO q hq _ (.head _)
    rcases List.mem_cons.mp hb with rfl | hb
    · exact Nat.ne_of_lt (lt_mem p8 q hq)
    rcases List.mem_cons.mp hb with rfl | hb
    · exact hO q hq _ (.tail _ (.tail _ (.head _)))
    exact G.own q hq b hb
  · have sub2 : ∀ p ∈ (D2, tupO [.bool (rdItem (rdRow r)).1, .str (rdItem (rdRow r)).2 ti]) :: (D1, tupO [.str (sdoc r).1 ta, .str (sdoc r).2 tb]) :: tl, p ∈ (lg, listOf (gv ++ [Value.ref D2]).toArray (n3 + 1)) :: (D2, tupO [.bool (rdItem (rdRow r)).1, .str (rdItem (rdRow r)).2 ti]) :: (D1, tupO [.str (sdoc r).1 ta, .str (sdoc r).2 tb]) :: tl := fun p hp => .tail _ hp
    refine ⟨tr, l', dv ++ [Value.ref lg], _, [], n1 + 1, n2 + 1, 0, _, rfl, ?_, ⟨fun q hq => sub2 _ (sub q (D.sub q hq)), ?_, D.ab, Nat.ne_of_lt p2, Nat.ne_of_lt p1, ?_, ?_, ?_⟩⟩
    · rw [hn]; simp only [readSt, hr]; exact hm
    · intro q hq b hb
      simp only [List.mem_cons, List.not_mem_nil, or_false] at hb
      rcases List.mem_cons.mp hq with rfl | hq
      · rcases hb with rfl | rfl | rfl
        · exact D.ac.symm
        · exact D.bc.symm
        · exact Nat.ne_of_lt p3
      · rcases hb with rfl | rfl | rfl
        · exact G.off q hq _ (.head _)
        · exact G.off q hq _ (.tail _ (.head _))
        · rcases List.mem_cons.mp hq with rfl | hq
          · exact Nat.ne_of_lt p4
          rcases List.mem_cons.mp hq with rfl | hq
          · exact Nat.ne_of_lt p5
          exact Nat.ne_of_lt (lt_mem p7 q hq)
    · rw [hn]; simp only [readSt, hr, if_neg he]; exact .nil
    · rw [hn]; simp only [readSt, hr, if_neg he, List.map_append]
      exact DatAll.append (d2.mono sub2) (.one (.list (.head _) (d1.mono sub2)))
    · rw [hn]; simp only [readSt, hr]; exact d3.mono sub2
end
section
local macro_rules | `(tactic| k_steps) => `(tactic| repeat' (first | (k_unfold; (try dsimp only)) | walk1 | (dsimp only; walk1) | fail "no step"))
local macro_rules | `(tactic| walk_at "idle") => `(tactic| fail)
local macro_rules | `(tactic| walk_at "idle") => `(tactic| fail)
local macro_rules | `(tactic| walk_at "idle") => `(tactic| fail)
local macro_rules | `(tactic| walk_at "idle") => `(tactic| fail)
local macro_rules | `(tactic| walk_at "exec For") => `(tactic| refine StopAt.out ?_)
local macro_rules | `(tactic| walk_at "exec For Name Call cons nil") => `(tactic| refine StopAt.out ?_)
local macro_rules | `(tactic| walk_at "pyIter ref") => `(tactic| refine StopAt.out ?_)
local macro_rules | `(tactic| walk_at "call ref") => `(tactic| refine StopAt.out ?_)
local macro_rules | `(tactic| walk_at "subscriptTail Name UnaryOp") => `(tactic| (k_dflt (refine last_item (by k_asm) (by k_mem) ?_; k_whole)))
set_option maxRecDepth 100000 in
set_option maxHeartbeats 4000000 in
theorem read_c (w : World) (p : Program) (loose : List Str) (mean : ExcName → Option Value) (mg mb : Str → Option Value) :
  ∀ (x : Str) (c : Nat) (tx tc : Tok) (dp un : Nat) (gd : Option (List Code)) (cn : Str) (cs : Scope) (a : Addr) (ccd : Value) (cl : List (Str × Addr)) (outer : List Env) (A₀ : Around) (base h₀ : Heap) (L : Addr) (m : Str → Option Value) (news : List (Addr × Obj)) (s : Shared) (Q E : Value → Shared → Prop),
    Below A₀ base outer h₀ → Fr h₀ L s.heap m → (Mine.hd.heap_39 w.params).In h₀ → News h₀ L s.heap news → Top p loose mean mg mb h₀ → cs.kind = .function →
    c ≤ 9 → (∀ i, i < c → (readN x i).rest.length ≤ 1000 ∧ (rdRow (readN x i).rest).length ≤ 100 ∧ (sdoc (readN x i).rest).2.length ≤ 1000 ∧ (Txt.partition (sdoc (readN x i).rest).2 (Str.ofString "\n")).1.length ≤ 1000) →
    dp + 2 < recursionLimit → un + 20 < cLine → 
    (∀ (D : Addr) (h' : Heap) (tk' : Nat) (new : List (Addr × Obj)), Fr h₀ L h' m → News h₀ L h' (news ++ new) → DatIn new (.ref D) (.tuple [.list (((readN x c).done ++ [(readN x c).cur]).map fun g => Dat.list (g.map itemDat)), .list ((readN x c).halves.map halfDat)]) → Q (.ref D) { s with heap := h', toks := tk' }) →
      wpAny (model Challenge.rw_pe0019_01.row.prog w) (ktrTop dp un gd cn cs L a ccd cl outer) (call (.ref 55) [.str x tx, .int (c : Int) tc]) Q E s := by
  w_top off
  k_fill
  intro x c tx tc dp un gd cn cs a ccd cl outer A₀ base h₀ L m news s Q E hB hF hX hN hT hk hc9 hb hdp hun hret
  refine wpAny_call ?_
  k_dflt cell_enter
  k_steps
  refine StopAt.go ?_
  refine For_invVF (by assumption) rfl rfl ?_
  k_steps
  refine StopAt.go ?_
  rename IsRange _ _ _ _ _ _ _ _ => hR
  rename Fr _ _ _ _ => FF
  rename News _ _ _ _ => NN
  rename_i g' L' h7 FG' B' X' T' tk2 lg0 h6 l10 lgs h5 l11 h4 tk1 lh h3 l12 h2 h1 F0 N0 h0 tk0 t1 u1 v1 keepA
  refine range_loop (RdJ x lgs lh news) rfl hR (rng0 c (by omega)).1 (rng0 c (by omega)).2 FF NN ?hj ?turn ?done
  case hj =>
    refine ⟨tx, lg0, [], [], [], 0, 0, 0, news, rfl, all3 rfl rfl rfl, ⟨fun _ h => h, ?_, Nat.ne_of_gt l12.1, Nat.ne_of_gt l11.1, Nat.ne_of_gt l12.2.1, .nil, .nil, .nil⟩⟩
    intro q hq b hb
    simp only [List.mem_cons, List.not_mem_nil, or_false] at hb
    rcases hb with rfl | rfl | rfl
    · exact Nat.ne_of_lt (lt_mem l11.2 q hq)
    · exact Nat.ne_of_lt (lt_mem l12.2.2 q hq)
    · exact Nat.ne_of_lt (l10 q hq)
  case done =>
    clear NN FF hR F0 N0 keepA
    intro m₁ nx h tk J F N
    obtain ⟨tr, lg, dv, hv, gv, n1, n2, n3, tl, rfl, hm, D⟩ := J
    replace F := fr_known0 _ hm F
    k_steps
    rename Fr _ _ _ _ => FF
    rename News _ _ _ _ => NN
    refine hret _ _ _ _ FF (fun q hq => (List.mem_append.mp hq).elim (fun hq => NN q (.tail _ (.tail _ (.tail _ (.tail _ (D.sub q hq)))))) fun hq => NN q hq) ?_
    exact rd_out D
  case turn =>
    clear NN FF hR F0 N0 keepA
    intro i t m₁ nx h tk own hi hoff J F N
    obtain ⟨tr, lg, dv, hv, gv, n1, n2, n3, tl, rfl, hm, D⟩ := J
    replace F := fr_known _ hm F
    simp only [List.cons_append] at N
    obtain ⟨hb1, hb2, hb3, hb4⟩ := hb i hi
    obtain ⟨sub, off, ab, ac, bc, hcur, hdone, hhal⟩ := id D
    have offO : OwnOff own (tl.map (·.1)) ∧ OwnOff own [lgs, lh, lg] := by
      refine ⟨fun q hq b hb => hoff q hq b ?_, fun q hq b hb => hoff q hq b ?_⟩
      · exact .tail _ (.tail _ (.tail _ hb))
      · simp only [List.map_cons, List.mem_cons, List.not_mem_nil, or_false] at hb ⊢
        rcases hb with h | h | h
        · exact .inr (.inl h)
        · exact .inl h
        · exact .inr (.inr (.inl h))
    have offA : OwnOff (tl ++ own) [lgs, lh, lg] := by
      intro q hq b hb
      exact (List.mem_append.mp hq).elim (fun hq => off q hq b hb) fun hq => offO.2 q hq b hb
    have hlens := read_lens x i
    have hhl : hv.length ≤ 9 := by rw [hhal.length, List.length_map]; omega
    have hgl : gv.length ≤ 9 := by rw [hcur.length, List.length_map]; omega
    have hdl : dv.length ≤ 9 := by rw [hdone.length, List.length_map]; omega
    generalize hR0 : (readN x i).rest = r at *
    refine seq4 (fun s' => ∃ D1 ta tb tw tr2, Mid g' L' s [(Str.ofString "head", .str (sdoc r).1 ta), (Str.ofString "row", .str (rdRow r) tw), (Str.ofString "rest", .str (rdRest r) tr2), (Str.ofString "groups", .ref lgs), (Str.ofString "halves", .ref lh)]
      ((lh, listOf (hv ++ [Value.ref D1]).toArray (n2 + 1)) :: (lgs, listOf (dv ++ [Value.ref lg]).toArray n1) :: (lg, listOf gv.toArray n3) :: (((D1, tupO [.str (sdoc r).1 ta, .str (sdoc r).2 tb]) :: tl) ++ own)) s' ∧ Grown own tl ((D1, tupO [.str (sdoc r).1 ta, .str (sdoc r).2 tb]) :: tl) [lgs, lh, lg]) ?_ ?_
    · k_steps
      refine StopAt.go ?_
      refine' splitdoc_c _ _ _ _ _ _ _ _ _ _ _ _ _ _ _ _ _ _ _ _ _ _ _ _ _ _ ?k1 ?k2 ?k3 ?k4 ?k5 ?kK ?kl ?kd ?ku ?_
      case k1 => k_asm
      case k2 => k_asm
      case k3 => k_asm
      case k4 => k_asm
      case k5 => k_asm
      case kK => rfl
      case kl => exact hb1
      case kd => ktr_room
      case ku => ktr_units
      intro D1 t1 t2 h1 tk1 F1 N1 l1
      have GD : Grown own tl ((D1, tupO [.str (sdoc r).1 t1, .str (sdoc r).2 t2]) :: tl) [lgs, lh, lg] := by
        obtain ⟨p1, p2, p3, p4⟩ := l1
        obtain ⟨p5, p6⟩ := lt_parts p4
        refine Grown.one (.refl off offO.1) ?_ fun q hq => Nat.ne_of_lt (lt_mem p6 q hq)
        intro b hb
        simp only [List.mem_cons, List.not_mem_nil, or_false] at hb
        rcases hb with rfl | rfl | rfl
        · exact Nat.ne_of_gt p2
        · exact Nat.ne_of_gt p1
        · exact Nat.ne_of_gt p3
      replace l1 := lt_mem l1
      k_lt l1
      k_steps
      · rename (_ == _) = true => he
        have e0 : (sdoc r).1 = Str.ofString "" := by simpa using he
        have e1 : rdRow r = (Txt.partition (sdoc r).2 (Str.ofString "\n")).1 := if_pos e0
        have e2 : rdRest r = Txt.slice (sdoc r).2 (some (((rdRow r).length : Int) + 1)) none := if_pos e0
        rw [e1] at e2
        rw [e1, e2]
        rename Fr _ _ _ _ => FF
        rename News _ _ _ _ => NN
        rw [push_eq] at NN
        exact ⟨rfl, D1, t1, t2, _, _, Mid.mk FF NN (all5 rfl rfl rfl rfl rfl) (by
          intro q hq
          simp only [List.cons_append, List.mem_cons] at hq ⊢
          rcases hq with h | h | h | h | h <;> simp only [h, true_or, or_true]), GD⟩
      · rename (_ == _) = false => he
        have e0 : ¬ (sdoc r).1 = Str.ofString "" := by simpa using he
        have e1 : rdRow r = (sdoc r).1 := if_neg e0
        have e2 : rdRest r = (sdoc r).2 := if_neg e0
        rw [e1, e2]
        rename Fr _ _ _ _ => FF
        rename News _ _ _ _ => NN
        rw [push_eq] at NN
        exact ⟨rfl, D1, t1, t2, _, _, Mid.mk FF NN (all5 rfl rfl rfl rfl rfl) (by
          intro q hq
          simp only [List.cons_append, List.mem_cons] at hq ⊢
          rcases hq with h | h | h | h | h <;> simp only [h, true_or, or_true]), GD⟩
    · rintro s' ⟨D1, ta, tb, tw, tr2, ⟨h2, tk2, u2, rfl, F2, N2⟩, G2⟩
      clear F N offA
      simp only [List.cons_append] at N2
      have offA : OwnOff (tl ++ own) [lgs, lh, lg] := by
        intro q hq b hb
        exact (List.mem_append.mp hq).elim (fun hq => off q hq b hb) fun hq => offO.2 q hq b hb
      have hD : @Ne Nat D1 lh ∧ @Ne Nat D1 lgs ∧ @Ne Nat D1 lg := ⟨G2.off _ (.head _) _ (.tail _ (.head _)), G2.off _ (.head _) _ (.head _), G2.off _ (.head _) _ (.tail _ (.tail _ (.head _)))⟩
      refine seq1 (fun s' => ∃ D2 ti, Mid g' L' s [(Str.ofString "head", .str (sdoc r).1 ta), (Str.ofString "rest", .str (rdRest r) tr2), (Str.ofString "groups", .ref lgs), (Str.ofString "halves", .ref lh)]
        ((lh, listOf (hv ++ [Value.ref D1]).toArray (n2 + 1)) :: (lgs, listOf (dv ++ [Value.ref lg]).toArray n1) :: (lg, listOf (gv ++ [Value.ref D2]).toArray (n3 + 1)) :: (((D2, tupO [.bool (rdItem (rdRow r)).1, .str (rdItem (rdRow r)).2 ti]) :: (D1, tupO [.str (sdoc r).1 ta, .str (sdoc r).2 tb]) :: tl) ++ own)) s' ∧ Grown own tl ((D2, tupO [.bool (rdItem (rdRow r)).1, .str (rdItem (rdRow r)).2 ti]) :: (D1, tupO [.str (sdoc r).1 ta, .str (sdoc r).2 tb]) :: tl) [lgs, lh, lg]) ?_ ?_
      · k_steps
        · refine StopAt.go ?_
          rename (_ == _) = true => he
          have e0 : Txt.slice (rdRow r) none (some 1) = Str.ofString "." := by simpa using he
          have hit : rdItem (rdRow r) = (true, decT (Txt.slice (rdRow r) (some 1) none)) := if_pos e0
          refine' replace_c _ _ _ _ _ _ _ _ _ _ _ _ _ _ _ _ _ _ _ _ _ _ _ _ _ _ _ _ _ _ _ _ _ _ _ _ _ _ ?z1 ?z2 ?z3 ?z4 ?z5 ?zK ?zl ?za ?zb ?zc ?zd ?ze ?zf ?zg ?zh ?_
          case z1 => k_asm
          case z2 => k_asm
          case z3 => k_asm
          case z4 => k_asm
          case z5 => k_asm
          case zK => rfl
          case zl => have := hb2; omega
          case za => decide
          case zb => decide
          case zc => decide
          case zd => decide
          case ze => decide
          case zf => decide
          case zg => ktr_room
          case zh => ktr_units
          intro t9 h9 tk9 F9 N9
          k_steps
          rename Fr _ _ _ _ => FF
          rename News _ _ _ _ => NN
          rw [push_eq] at NN
          rw [hit]
          rename _ ∧ _ ∧ _ ∧ _ ∧ AllLt _ _ => l9
          exact ⟨rfl, _, t9, Mid.mk FF NN (all4 rfl rfl rfl rfl) mem_rot, grown_lt G2 l9⟩
        · rename (_ == _) = false => he
          have e0 : ¬ Txt.slice (rdRow r) none (some 1) = Str.ofString "." := by simpa using he
          have hit : rdItem (rdRow r) = (false, rdRow r) := if_neg e0
          rename Fr _ _ _ _ => FF
          rename News _ _ _ _ => NN
          rw [push_eq] at NN
          rw [hit]
          rename _ ∧ _ ∧ _ ∧ _ ∧ AllLt _ _ => l9
          exact ⟨rfl, _, tw, Mid.mk FF NN (all4 rfl rfl rfl rfl) mem_rot, grown_lt G2 l9⟩
      · rintro s' ⟨D2, ti, ⟨h3, tk3, u3, rfl, F3, N3⟩, G3⟩
        clear F2 N2
        simp only [List.cons_append] at N3
        have hD2 : @Ne Nat D2 lh ∧ @Ne Nat D2 lgs ∧ @Ne Nat D2 lg := ⟨G3.off _ (.head _) _ (.tail _ (.head _)), G3.off _ (.head _) _ (.head _), G3.off _ (.head _) _ (.tail _ (.tail _ (.head _)))⟩
        k_steps
        · rename (_ != _) = true => he
          have e0 : ¬ (sdoc r).1 = Str.ofString "" := by simpa using he
          rename Fr _ _ _ _ => FF
          rename News _ _ _ _ => NN
          rw [push_eq] at NN
          exact rd_new FF NN (by assumption) (all3 rfl rfl rfl) G3 offO.2 D hR0 e0
        · rename (_ != _) = false => he
          have e0 : (sdoc r).1 = Str.ofString "" := by simpa using he
          exact rd_keep F3 N3 (all3 rfl rfl rfl) G3 offO.2 D hR0 e0
end
end Mine

/-! # Hf -/
namespace Mine
def sep2Of (i : Int) : Str := if i = 2 then Str.ofString "\n" else Str.ofString ""
def halfAt (P : PSt) (ns : List Int) (i : Nat) : Str × Str :=
  if Int.fmod (ns.getD (i + 1) 0) 3 = 0 then (P.rows.getD i Str.empty, sep2Of (Int.fmod (Int.fdiv (ns.getD (i + 1) 0) 3) 3) ++ Txt.slice P.page (some (P.starts.getD (i + 1) 0)) none)
  else (Str.ofString "", Txt.slice P.page (some (P.starts.getD i 0)) none)
def halfN (P : PSt) (ns : List Int) : Nat → List (Str × Str)
  | 0 => []
  | i + 1 => halfN P ns i ++ [halfAt P ns i]
def HalfJ (ns : List Int) (P : PSt) (ws sv rv : List Value) (lst lr ld Dn lh : Addr) (n1 n2 : Nat) (base : List (Addr × Obj)) (i : Nat) (m : Str → Option Value) (nx : List (Addr × Obj)) : Prop :=
  ∃ (tp : Tok) (hv : List Value) (n : Nat) (tl : List (Addr × Obj)),
    nx = (lh, listOf hv.toArray n) :: (lst, listOf sv.toArray n1) :: (lr, listOf rv.toArray n2) :: (Dn, listOf ws.toArray 0) :: tl ∧
    OwnOff tl [lh, lst, lr, Dn] ∧ (∀ q ∈ base, q ∈ tl) ∧
    (∀ p ∈ [(Str.ofString "numbers", Value.ref Dn), (Str.ofString "page", .str P.page tp), (Str.ofString "drawn", .ref ld), (Str.ofString "rows", .ref lr), (Str.ofString "starts", .ref lst), (Str.ofString "halves", .ref lh)], m p.1 = some p.2) ∧
    DatAll tl hv ((halfN P ns i).map halfDat)
theorem half_len (P : PSt) (ns : List Int) : ∀ i, (halfN P ns i).length = i
  | 0 => rfl
  | i + 1 => by simp only [halfN, List.length_append, half_len P ns i, List.length_cons, List.length_nil]
theorem mem_skip {α : Type} {a b : α} {l : List α} : ∀ q ∈ a :: l, q ∈ a :: b :: l := by
  intro q hq
  rcases List.mem_cons.mp hq with rfl | hq
  · exact .head _
  · exact .tail _ (.tail _ hq)
theorem all6 {α : Type} {P : α → Prop} {a b c d e f : α} (h1 : P a) (h2 : P b) (h3 : P c) (h4 : P d) (h5 : P e) (h6 : P f) : ∀ p ∈ [a, b, c, d, e, f], P p := by
  intro p hp
  simp only [List.mem_cons, List.not_mem_nil, or_false] at hp
  rcases hp with rfl | rfl | rfl | rfl | rfl | rfl <;> assumption
theorem half_end {ns : List Int} {P : PSt} {ws sv rv hv : List Value} {lst lr ld Dn lh D' : Addr} {n n1 n2 : Nat} {base tl own NL : List (Addr × Obj)} {i : Nat} {h₀ h' ha : Heap} {L : Addr} {m : Str → Option Value} {s : Shared} {tk tka : Nat} {y z : Str} {ty tz tp : Tok} (FF : Fr h₀ L h' m) (NN : News h₀ L h' NL)
    (hs : ∀ q ∈ (D', tupO [.str y ty, .str z tz]) :: (lh, listOf (hv ++ [Value.ref D']).toArray (n + 1)) :: (lst, listOf sv.toArray n1) :: (lr, listOf rv.toArray n2) :: (Dn, listOf ws.toArray 0) :: (tl ++ own), q ∈ NL)
    (l : @LT.lt Nat _ lh D' ∧ @LT.lt Nat _ lst D' ∧ @LT.lt Nat _ lr D' ∧ @LT.lt Nat _ Dn D' ∧ AllLt D' (tl ++ own)) (eh : halfAt P ns i = (y, z))
    (hm : ∀ p ∈ [(Str.ofString "numbers", Value.ref Dn), (Str.ofString "page", .str P.page tp), (Str.ofString "drawn", .ref ld), (Str.ofString "rows", .ref lr), (Str.ofString "starts", .ref lst), (Str.ofString "halves", .ref lh)], m p.1 = some p.2)
    (off : OwnOff own (((lh, listOf hv.toArray n) :: (lst, listOf sv.toArray n1) :: (lr, listOf rv.toArray n2) :: (Dn, listOf ws.toArray 0) :: tl).map (·.1))) (offt : OwnOff tl [lh, lst, lr, Dn]) (hb : ∀ q ∈ base, q ∈ tl) (D : DatAll tl hv ((halfN P ns i).map halfDat)) :
    InvEndG h₀ L (HalfJ ns P ws sv rv lst lr ld Dn lh n1 n2 base (i + 1)) own { s with heap := ha, toks := tka } { s with heap := h', toks := tk } := by
  obtain ⟨p1, p2, p3, p4, p5⟩ := l
  obtain ⟨p6, p7⟩ := lt_parts p5
  refine ⟨h', tk, m, _, (lh, listOf (hv ++ [Value.ref D']).toArray (n + 1)) :: (lst, listOf sv.toArray n1) :: (lr, listOf rv.toArray n2) :: (Dn, listOf ws.toArray 0) :: (D', tupO [.str y ty, .str z tz]) :: tl, rfl, FF, fun q hq => NN q (hs q hq), ?_, ?_, ?_, ?_⟩
  · intro q hq
    simp only [List.mem_cons, List.mem_append] at hq ⊢
    rcases hq with h | h | h | h | h | h <;> simp only [h, true_or, or_true]
  · intro q hq
    simp only [List.mem_cons, List.mem_append, hq, or_true]
  · intro q hq b hb
    simp only [List.map_cons] at hb off
    rcases List.mem_cons.mp hb with rfl | hb
    · exact off q hq _ (.head _)
    rcases List.mem_cons.mp hb with rfl | hb
    · exact off q hq _ (.tail _ (.head _))
    rcases List.mem_cons.mp hb with rfl | hb
    · exact off q hq _ (.tail _ (.tail _ (.head _)))
    rcases List.mem_cons.mp hb with rfl | hb
    · exact off q hq _ (.tail _ (.tail _ (.tail _ (.head _))))
    rcases List.mem_cons.mp hb with rfl | hb
    · exact Nat.ne_of_lt (lt_mem p7 q hq)
    exact off q hq _ (.tail _ (.tail _ (.tail _ (.tail _ hb))))
  · refine ⟨tp, _, n + 1, _, rfl, ?_, fun q hq => .tail _ (hb q hq), hm, ?_⟩
    · intro q hq b hb
      rcases List.mem_cons.mp hq with rfl | hq
      · simp only [List.mem_cons, List.not_mem_nil, or_false] at hb
        rcases hb with rfl | rfl | rfl | rfl
        · exact Nat.ne_of_gt p1
        · exact Nat.ne_of_gt p2
        · exact Nat.ne_of_gt p3
        · exact Nat.ne_of_gt p4
      · exact offt q hq b hb
    · rw [halfN, List.map_append, eh]
      refine DatAll.append (D.mono fun q hq => .tail _ hq) (.one ?_)
      exact .tuple (vs := [.str y ty, .str z tz]) (.head _) (.cons (.str y ty) (.cons (.str z tz) .nil))
theorem half_pos {P : PSt} {ns : List Int} {i : Nat} {v : Int} (h0 : Int.fmod (ns.getD (Int.toNat (1 + (i : Int))) 0) 3 = 0) (h1 : Int.fmod (Int.fdiv (ns.getD (Int.toNat (1 + (i : Int))) 0) 3) 3 = v) :
    halfAt P ns i = (P.rows.getD (Int.toNat (1 + (i : Int) - 1)) Str.empty, sep2Of v ++ Txt.slice P.page (some (P.starts.getD (Int.toNat (1 + (i : Int))) 0)) none) := by
  have ek : Int.toNat (1 + (i : Int)) = i + 1 := by omega
  have ek2 : Int.toNat (1 + (i : Int) - 1) = i := by omega
  rw [ek] at h0 h1
  rw [halfAt, if_pos h0, h1, ek, ek2]
theorem half_neg {P : PSt} {ns : List Int} {i : Nat} (h0 : ¬ Int.fmod (ns.getD (Int.toNat (1 + (i : Int))) 0) 3 = 0) :
    halfAt P ns i = (Str.ofString "", Txt.slice P.page (some (P.starts.getD (Int.toNat (1 + (i : Int) - 1)) 0)) none) := by
  have ek : Int.toNat (1 + (i : Int)) = i + 1 := by omega
  have ek2 : Int.toNat (1 + (i : Int) - 1) = i := by omega
  rw [ek] at h0
  rw [halfAt, if_neg h0, ek2]
section
local macro_rules | `(tactic| k_steps) => `(tactic| repeat' (first | (k_unfold; (try dsimp only)) | walk1 | (dsimp only; walk1) | fail "no step"))
local macro_rules | `(tactic| walk_at "idle") => `(tactic| fail)
local macro_rules | `(tactic| walk_at "idle") => `(tactic| fail)
local macro_rules | `(tactic| walk_at "idle") => `(tactic| fail)
local macro_rules | `(tactic| walk_at "idle") => `(tactic| fail)
local macro_rules | `(tactic| walk_at "idle") => `(tactic| fail)
local macro_rules | `(tactic| walk_at "idle") => `(tactic| fail)
local macro_rules | `(tactic| walk_at "idle") => `(tactic| fail)
local macro_rules | `(tactic| walk_at "idle") => `(tactic| fail)
local macro_rules | `(tactic| walk_at "idle") => `(tactic| fail)
local macro_rules | `(tactic| walk_at "subscriptTail Name BinOp ref int") => `(tactic| (k_dflt (refine tup3 (by k_asm) (by k_mem) (fmod_bnd _ (by decide)).1 (fmod_bnd _ (by decide)).2 ?_ ?_ ?_) <;> intro hidx))
set_option maxRecDepth 100000 in
set_option maxHeartbeats 4000000 in
theorem half_turn (w : World) (p : Program) (loose : List Str) (mean : ExcName → Option Value) (mg mb : Str → Option Value) {oc : Value} {od : Option Addr} {osl : Array (Option Value)} {name qual : Str} {params : Arguments} {body : List Stmt} {scope : Scope} {dV kV doc pm cdv ct : Value} {an : Option Addr}
    (hlk : (Mine.hd.heap_39 w.params).lookup 60 = some ⟨oc, od, .func (fnOf name qual params body scope dV kV doc pm an cdv ct), osl⟩)
    (a : Addr) (h₀ : Heap) (L : Addr) (ns : List Int) (P : PSt) (ws sv rv : List Value) (lst lr ld Dn lh : Addr) (n1 n2 : Nat) (base : List (Addr × Obj)) (hws : IntsAre ws ns) (hsv : IntsAre sv P.starts) (hrv : StrsAre rv P.rows) (hns : ∀ x ∈ ns, 0 ≤ x ∧ x < 23040) (hlen : ns.length ≤ 9) (hrl : P.rows.length = ns.length) (hsl : P.starts.length = ns.length) (hpl : P.page.length ≤ 900)
    (hab : @Ne Nat lh lst) (hac : @Ne Nat lh lr) (had : @Ne Nat lh Dn)
    (B : Below callerA h₀ [] h₀) (X : (Mine.hd.heap_39 w.params).In h₀) (T : Top p loose mean mg mb h₀)
    (i : Nat) (hi : i < ns.length - 1) (t : Tok) (m₁ : Str → Option Value) (nx : List (Addr × Obj)) (h : Heap) (tk : Nat) (own : List (Addr × Obj)) (off : OwnOff own (nx.map (·.1))) (J : HalfJ ns P ws sv rv lst lr ld Dn lh n1 n2 base i m₁ nx)
    (F : Fr h₀ L h (fun y => if y = Str.ofString "k" then some (.int (1 + (i : Int)) t) else m₁ y)) (N : News h₀ L h (nx ++ own)) (s : Shared) (Q : Flow → Shared → Prop) (E : Value → Shared → Prop) :
    wpAny (model Challenge.rw_pe0019_01.row.prog w) (callerA.deeper (envOf qual scope L a cdv)) (execs (forBody body 7) (envOf qual scope L a cdv)) (InvPostG h₀ L (HalfJ ns P ws sv rv lst lr ld Dn lh n1 n2 base (i + 1)) own { s with heap := h, toks := tk } Q) E { s with heap := h, toks := tk } := by
  revert hlk
  w_top off
  k_fill
  intro hlk
  refine' lk_cases hlk ?kk ?_
  case kk => k_is
  intro e
  cases e
  clear hlk
  obtain ⟨tp, hv, n, tl, rfl, offt, hbase, hm, D⟩ := J
  replace F := fr_known _ hm F
  simp only [List.cons_append] at N
  dsimp only [forBody, List.getElem?_cons_succ, List.getElem?_cons_zero]
  have offA : OwnOff (tl ++ own) [lh, lst, lr, Dn] := by
    intro q hq b hb
    refine (List.mem_append.mp hq).elim (fun hq => offt q hq b hb) fun hq => off q hq b ?_
    simp only [List.map_cons, List.mem_cons, List.not_mem_nil, or_false] at hb ⊢
    rcases hb with h | h | h | h <;> simp only [h, true_or, or_true]
  have hhl : hv.length ≤ 9 := by rw [D.length, List.length_map, half_len]; omega
  k_steps
  · rename Fr _ _ _ _ => FF
    rename News _ _ _ _ => NN
    rename _ ∧ _ ∧ _ ∧ _ ∧ _ ∧ AllLt _ _ => l9
    rename Int.fmod (Int.fdiv _ _) _ = _ => h1
    rename Int.fmod (List.getD _ _ _) _ = _ => h0
    rw [push_eq] at NN
    exact half_end FF NN mem_skip l9.2 (half_pos h0 h1) (all6 rfl rfl rfl rfl rfl rfl) off offt hbase D
  · rename Fr _ _ _ _ => FF
    rename News _ _ _ _ => NN
    rename _ ∧ _ ∧ _ ∧ _ ∧ _ ∧ AllLt _ _ => l9
    rename Int.fmod (Int.fdiv _ _) _ = _ => h1
    rename Int.fmod (List.getD _ _ _) _ = _ => h0
    rw [push_eq] at NN
    exact half_end FF NN mem_skip l9.2 (half_pos h0 h1) (all6 rfl rfl rfl rfl rfl rfl) off offt hbase D
  · rename Fr _ _ _ _ => FF
    rename News _ _ _ _ => NN
    rename _ ∧ _ ∧ _ ∧ _ ∧ _ ∧ AllLt _ _ => l9
    rename Int.fmod (Int.fdiv _ _) _ = _ => h1
    rename Int.fmod (List.getD _ _ _) _ = _ => h0
    rw [push_eq] at NN
    exact half_end FF NN mem_skip l9.2 (half_pos h0 h1) (all6 rfl rfl rfl rfl rfl rfl) off offt hbase D
  · rename Fr _ _ _ _ => FF
    rename News _ _ _ _ => NN
    rename _ ∧ _ ∧ _ ∧ _ ∧ AllLt _ _ => l9
    rename ¬ _ => h0
    rw [push_eq] at NN
    exact half_end FF NN (fun _ h => h) l9 (half_neg h0) (all6 rfl rfl rfl rfl rfl rfl) off offt hbase D
end
end Mine

/-! # Pl3 -/
namespace Mine
open PySem.Builtin.Str PySem.StrLaws
theorem nl_eq : nl = ⟨#[10]⟩ := by decide +kernel
/-! ## a text cut at its line ends -/
def linesL : List Nat → List (List Nat)
  | [] => [[]]
  | c :: l => if c = 10 then [] :: linesL l else match linesL l with
    | [] => [[c]]
    | h :: t => (c :: h) :: t
theorem linesL_free : ∀ r : List Nat, 10 ∉ r → linesL r = [r]
  | [], _ => rfl
  | c :: r, h => by
    have hc : ¬ c = 10 := fun e => h (e ▸ .head _)
    have ih := linesL_free r fun m => h (.tail _ m)
    rw [linesL, if_neg hc, ih]
theorem linesL_app : ∀ (r l : List Nat), 10 ∉ r → linesL (r ++ 10 :: l) = r :: linesL l
  | [], l, _ => by rw [List.nil_append, linesL, if_pos rfl]
  | c :: r, l, h => by
    have hc : ¬ c = 10 := fun e => h (e ▸ .head _)
    have ih := linesL_app r l fun m => h (.tail _ m)
    rw [List.cons_append, linesL, if_neg hc, ih]
theorem linesL_join : ∀ (ps : List Str), ps ≠ [] → (∀ p ∈ ps, 10 ∉ p.cps.toList) → linesL (Str.join ⟨#[10]⟩ ps).cps.toList = ps.map fun p => p.cps.toList
  | [], h, _ => absurd rfl h
  | [p], _, h => linesL_free _ (h p (.head _))
  | p :: q :: r, _, h => by
    have ih := linesL_join (q :: r) (by simp) fun a ha => h a (.tail _ ha)
    show linesL (p ++ ⟨#[10]⟩ ++ Str.join ⟨#[10]⟩ (q :: r)).cps.toList = _
    simp only [Str.cps_append, Array.toList_append, List.append_assoc]
    show linesL (p.cps.toList ++ 10 :: (Str.join ⟨#[10]⟩ (q :: r)).cps.toList) = _
    rw [linesL_app _ _ (h p (.head _)), ih]
    rfl
theorem split_ne (x y : Str) : Txt.split x y ≠ [] := by
  unfold Txt.split
  split
  · simp
  · split
    · simp
    · rw [partsBetween_eq]
      obtain ⟨p, r, e⟩ := partsFrom_ne x y.length 0 (occurrences x y 0 x.length (x.length + 1))
      rw [e]; simp
theorem split_lines (x : Str) : (Txt.split x nl).map (fun p => p.cps.toList) = linesL x.cps.toList := by
  rw [nl_eq, ← linesL_join _ (split_ne _ _) (split_free x 10), join_split]
theorem map_inj {l m : List Str} (h : l.map (fun p => p.cps.toList) = m.map fun p => p.cps.toList) : l = m :=
  (List.map_inj_right (f := fun p : Str => p.cps.toList) fun _ _ e => str_ext e).mp h
theorem split_cons {r : Str} (t : Str) (h : 10 ∉ r.cps.toList) : Txt.split (r ++ nl ++ t) nl = r :: Txt.split t nl := by
  refine map_inj ?_
  rw [List.map_cons, split_lines, split_lines]
  simp only [Str.cps_append, Array.toList_append, List.append_assoc, nl_eq]
  exact linesL_app _ _ h
theorem split_one {r : Str} (h : 10 ∉ r.cps.toList) : Txt.split r nl = [r] := by
  refine map_inj ?_
  rw [split_lines]
  exact linesL_free _ h
theorem join_lines (t : Str) : Txt.join nl (Txt.split t nl) = t := by
  unfold Txt.join
  rw [glued_eq_join, join_split]
theorem split_head {r : Str} (t : Str) (h : 10 ∉ r.cps.toList) : ∃ l, Txt.split (r ++ nl ++ t) nl = r :: l := ⟨_, split_cons t h⟩
/-! ## white ends -/
def White (l : List Nat) : Prop := ∀ c ∈ l, Unicode.isSpace c = true
def Solid (l : List Nat) : Prop := (∃ c r, l = c :: r ∧ Unicode.isSpace c = false) ∧ ∃ r d, l = r ++ [d] ∧ Unicode.isSpace d = false
theorem takeWhile_app {p : Nat → Bool} {c : Nat} {l : List Nat} : ∀ u : List Nat, (∀ k ∈ u, p k = true) → p c = false → (u ++ c :: l).takeWhile p = u
  | [], _, h => by rw [List.nil_append, List.takeWhile_cons, if_neg (by rw [h]; decide)]
  | a :: u, hu, h => by rw [List.cons_append, List.takeWhile_cons, if_pos (hu a (.head _)), takeWhile_app u (fun k hk => hu k (.tail _ hk)) h]
theorem takeWhile_self {p : Nat → Bool} : ∀ u : List Nat, (∀ k ∈ u, p k = true) → u.takeWhile p = u
  | [], _ => rfl
  | a :: u, hu => by rw [List.takeWhile_cons, if_pos (hu a (.head _)), takeWhile_self u fun k hk => hu k (.tail _ hk)]
theorem strip_solid {x t : Str} {u v : List Nat} (e : x.cps.toList = u ++ (t.cps.toList ++ v)) (hu : White u) (hv : White v) (ht : Solid t.cps.toList) : Txt.strip x = t := by
  obtain ⟨⟨c, r, hc, hcs⟩, ⟨r2, d, hd, hds⟩⟩ := ht
  have hlo : stripLo Unicode.isSpace true x = u.length := by
    simp only [stripLo, if_true]
    rw [e, hc, List.cons_append, takeWhile_app u hu hcs]
  have hx : x.length = u.length + (t.cps.toList.length + v.length) := by
    have : x.cps.toList.length = x.length := by simp [Str.length]
    rw [← this, e]; simp only [List.length_append]
  have hhi : stripHi Unicode.isSpace true x u.length = u.length + t.cps.toList.length := by
    simp only [stripHi, if_true]
    have h1 : (x.cps.toList.drop u.length).reverse = v.reverse ++ d :: r2.reverse := by
      rw [e, List.drop_left, hd]; simp
    rw [h1, takeWhile_app v.reverse (fun k hk => hv k (List.mem_reverse.mp hk)) hds, List.length_reverse, hx]
    omega
  unfold Txt.strip
  rw [PyProof.Rows.stripBy_eq, hlo, hhi]
  refine str_ext ?_
  rw [strSub_toList, e, List.drop_left, Nat.add_sub_cancel_left, List.take_left]
theorem rstrip_solid {t : Str} (ht : ∃ c r, t.cps.toList = c :: r ∧ Unicode.isSpace c = false) : ¬ (Txt.rstrip t).length = 0 := by
  obtain ⟨c, r, hc, hcs⟩ := ht
  unfold Txt.rstrip
  rw [PyProof.Rows.stripBy_eq]
  have hn : t.cps.toList.length = t.length := by simp [Str.length]
  have hlo : stripLo Unicode.isSpace false t = 0 := rfl
  rw [hlo]
  have hw : ((t.cps.toList.drop 0).reverse.takeWhile Unicode.isSpace).length < t.length := by
    rw [List.drop_zero, ← hn, hc, List.reverse_cons]
    have h1 := takeWhile_len_le Unicode.isSpace (r.reverse ++ [c])
    rcases Nat.lt_or_ge ((r.reverse ++ [c]).takeWhile Unicode.isSpace).length (r.reverse ++ [c]).length with h | h
    · simpa using h
    · exfalso
      have e : (r.reverse ++ [c]).takeWhile Unicode.isSpace = r.reverse ++ [c] := (List.takeWhile_prefix _).eq_of_length_le h
      have := List.all_takeWhile (p := Unicode.isSpace) (l := r.reverse ++ [c])
      rw [e, List.all_append] at this
      simp [hcs] at this
  have h2 : (strSub t 0 (stripHi Unicode.isSpace true t 0)).length = (strSub t 0 (stripHi Unicode.isSpace true t 0)).cps.toList.length := by simp [Str.length]
  rw [h2, strSub_toList]
  simp only [stripHi, if_true, List.length_take, List.length_drop, hn]
  omega
theorem rstrip_white {t : Str} (h : White t.cps.toList) : (Txt.rstrip t).length = 0 := by
  unfold Txt.rstrip
  rw [PyProof.Rows.stripBy_eq]
  have hn : t.cps.toList.length = t.length := by simp [Str.length]
  have h2 : (strSub t (stripLo Unicode.isSpace false t) (stripHi Unicode.isSpace true t (stripLo Unicode.isSpace false t))).length = (strSub t 0 (stripHi Unicode.isSpace true t 0)).cps.toList.length := by
    show (strSub t 0 (stripHi Unicode.isSpace true t 0)).length = _
    simp [Str.length]
  rw [h2, strSub_toList]
  have e : (t.cps.toList.drop 0).reverse.takeWhile Unicode.isSpace = (t.cps.toList.drop 0).reverse := by
    rw [List.drop_zero]
    exact takeWhile_self _ fun c hc => h c (List.mem_reverse.mp hc)
  have e2 : stripHi Unicode.isSpace true t 0 = 0 := by
    simp only [stripHi, if_true]
    rw [e, List.length_reverse, List.drop_zero, hn, Nat.sub_self]
  rw [e2]; rfl
theorem sp10 : Unicode.isSpace 10 = true := by decide +kernel
theorem sp32 : Unicode.isSpace 32 = true := by decide +kernel
theorem sp9 : Unicode.isSpace 9 = true := by decide +kernel
theorem ns46 : Unicode.isSpace 46 = false := by decide +kernel
theorem ns60 : Unicode.isSpace 60 = false := by decide +kernel
theorem ns62 : Unicode.isSpace 62 = false := by decide +kernel
/-! ## the first line -/
theorem partition_row {r : Str} (t : Str) (h : 10 ∉ r.cps.toList) : (Txt.partition (r ++ nl ++ t) (Str.ofString "\n")).1 = r := by
  show (Txt.partition (r ++ nl ++ t) nl).1 = r
  rw [nl_eq]
  have hx : (r ++ ⟨#[10]⟩ ++ t).cps.toList = r.cps.toList ++ 10 :: t.cps.toList := by
    simp only [Str.cps_append, Array.toList_append, List.append_assoc]; rfl
  have hr : r.cps.toList.length = r.length := by simp [Str.length]
  have hat : At (r ++ ⟨#[10]⟩ ++ t) ⟨#[10]⟩ (r ++ ⟨#[10]⟩ ++ t).length r.length := by
    refine (subAt_one _ 10 _).mpr ?_
    rw [hx, ← hr, List.getElem?_append_right (Nat.le_refl _)]
    simp
  rcases occ_head (r ++ ⟨#[10]⟩ ++ t) ⟨#[10]⟩ 1 (Nat.le_refl 1) with ⟨_, hn⟩ | ⟨i, l, e, hi, hno⟩
  · exact absurd hat (hn _)
  · have hi' := (subAt_one _ 10 _).mp hi
    have e1 : i = r.length := by
      rcases Nat.lt_trichotomy i r.length with h1 | h1 | h1
      · exfalso
        rw [hx, List.getElem?_append_left (by omega)] at hi'
        exact h (List.mem_of_getElem? hi')
      · exact h1
      · exact absurd hat (hno _ h1)
    unfold Txt.partition
    rw [e]
    show strSub _ 0 i = r
    refine str_ext ?_
    rw [strSub_toList, e1, hx, ← hr]
    simp
/-! ## slices -/
theorem slice_from (x : Str) {n : Nat} (h : n ≤ x.length) : (Txt.slice x (some (n : Int)) none).cps.toList = x.cps.toList.drop n := by
  have hx : x.cps.toList.length = x.length := by simp [Str.length]
  have := eq_of_beq (slice_closes_fromL (x := x) (i := (n : Int)) (b := x.length) (by omega) (by omega) rfl)
  rw [this]
  simp only [Int.toNat_natCast]
  rw [List.take_of_length_le (by rw [List.length_drop]; omega)]
theorem slice_one (x : Str) (h : 1 ≤ x.length) : (Txt.slice x none (some 1)).cps.toList = x.cps.toList.take 1 := by
  have := eq_of_beq (slice_closes_toL (x := x) (j := 1) (by omega) (by omega))
  rw [this]
  simp
end Mine

/-! # Pl4 -/
namespace Mine
open PySem.Builtin.Str PySem.StrLaws
/-! ## the rows: no white sign at their ends, no line end in them -/
structure RowOk (r : Str) : Prop where
  free : 10 ∉ r.cps.toList
  solid : Solid r.cps.toList
theorem join_flat : ∀ ps : List Str, (Str.join (Str.ofString "") ps).cps.toList = ps.flatMap fun p => p.cps.toList
  | [] => rfl
  | [p] => by simp [Str.join]
  | p :: q :: r => by
    have ih := join_flat (q :: r)
    show (p ++ Str.ofString "" ++ Str.join (Str.ofString "") (q :: r)).cps.toList = _
    simp only [Str.cps_append, Array.toList_append]
    rw [ih, show (Str.ofString "").cps.toList = [] from by decide +kernel, List.append_nil]
    rfl
theorem alpha_sp : ∀ n : Nat, n < 8 → Unicode.isSpace (alpha.cps.getD n 0) = true → alpha.cps.getD n 0 = 10 ∨ alpha.cps.getD n 0 = 32 := by decide +kernel
theorem text_sp (x : Int) : ∀ c ∈ (textOf x).cps.toList, Unicode.isSpace c = true → c = 10 ∨ c = 32 := by
  intro c hc
  unfold textOf Txt.join at hc
  rw [glued_eq_join, join_flat] at hc
  obtain ⟨p, hp, hcp⟩ := List.mem_flatMap.mp hc
  obtain ⟨k, _, rfl⟩ := List.mem_map.mp hp
  have e : c = alpha.cps.getD (Int.fmod (Int.fdiv (Int.fdiv x 45) (8 ^ k.toNat)) 8).toNat 0 := by
    have : c ∈ [alpha.cps.getD (Int.fmod (Int.fdiv (Int.fdiv x 45) (8 ^ k.toNat)) 8).toNat 0] := hcp
    exact List.mem_singleton.mp this
  rw [e]
  have hb := fmod_bnd (Int.fdiv (Int.fdiv x 45) (8 ^ k.toNat)) (b := 8) (by decide)
  exact alpha_sp _ (by omega)
theorem ns98 : Unicode.isSpace 98 = false := by decide +kernel
theorem ns110 : Unicode.isSpace 110 = false := by decide +kernel
theorem ns115 : Unicode.isSpace 115 = false := by decide +kernel
theorem ns33 : Unicode.isSpace 33 = false := by decide +kernel
theorem enc_ns {s : Str} (h : ∀ c ∈ s.cps.toList, Unicode.isSpace c = true → c = 10 ∨ c = 32) : ∀ d ∈ (encRow s).cps.toList, Unicode.isSpace d = false := by
  intro d hd
  rw [encRow_list] at hd
  rcases List.mem_cons.mp hd with rfl | hd
  · exact ns46
  obtain ⟨c, hc, hdc⟩ := List.mem_flatMap.mp hd
  unfold encS at hdc
  by_cases h1 : c = 33
  · rw [if_pos h1] at hdc; simp at hdc; rcases hdc with rfl | rfl <;> first | exact ns33 | exact ns98
  rw [if_neg h1] at hdc
  by_cases h2 : c = 10
  · rw [if_pos h2] at hdc; simp at hdc; rcases hdc with rfl | rfl <;> first | exact ns33 | exact ns110
  rw [if_neg h2] at hdc
  by_cases h3 : c = 32
  · rw [if_pos h3] at hdc; simp at hdc; rcases hdc with rfl | rfl <;> first | exact ns33 | exact ns115
  rw [if_neg h3] at hdc
  have e := List.mem_singleton.mp hdc
  subst e
  cases hs : Unicode.isSpace d with
  | false => rfl
  | true => rcases h d hc hs with e | e <;> contradiction
theorem ok_of_ns {r : Str} (h0 : r.cps.toList ≠ []) (h : ∀ d ∈ r.cps.toList, Unicode.isSpace d = false) : RowOk r := by
  refine ⟨fun hm => ?_, ?_, ?_⟩
  · have := h 10 hm
    rw [sp10] at this; cases this
  · cases hl : r.cps.toList with
    | nil => exact absurd hl h0
    | cons c l => exact ⟨c, l, rfl, h c (by rw [hl]; exact .head _)⟩
  · refine ⟨_, _, (List.dropLast_concat_getLast h0).symm, h _ (List.getLast_mem h0)⟩
theorem fail_ok : ∀ k : Nat, k < 10 → 10 ∉ (failRow (k : Int)).cps.toList := by decide +kernel
theorem failRow_list (k : Int) : ∃ l, (failRow k).cps.toList = 60 :: l ∧ ∃ l2, (failRow k).cps.toList = l2 ++ [62] := by
  unfold failRow
  simp only [Str.cps_append, Array.toList_append, List.append_assoc]
  refine ⟨_, by rw [show (Str.ofString "<").cps.toList = [60] from by decide +kernel]; rfl, ?_⟩
  refine ⟨(Str.ofString "<").cps.toList ++ ((Str.ofString (toString k)).cps.toList ++ (Str.ofString " <lambda>() failed").cps.toList), ?_⟩
  rw [show (Str.ofString " <lambda>() failed>").cps.toList = (Str.ofString " <lambda>() failed").cps.toList ++ [62] from by decide +kernel]
  simp only [List.append_assoc]
theorem row_ok {k : Nat} (x : Int) (h : k < 10) : RowOk (rowOf (k : Int) x) := by
  unfold rowOf
  split
  · obtain ⟨l, e, l2, e2⟩ := failRow_list (k : Int)
    exact ⟨fail_ok k h, ⟨60, l, e, ns60⟩, ⟨l2, 62, e2, ns62⟩⟩
  · exact ok_of_ns (by rw [encRow_list]; simp) (enc_ns (text_sp x))
theorem row_ne {r : Str} (h : RowOk r) : ¬ r = Str.ofString "" := by
  rintro rfl
  obtain ⟨⟨c, l, e, _⟩, _⟩ := h.solid
  rw [show (Str.ofString "").cps.toList = [] from by decide +kernel] at e
  cases e
theorem row_pos {r : Str} (h : RowOk r) : 1 ≤ r.length := by
  obtain ⟨⟨c, l, e, _⟩, _⟩ := h.solid
  have hr : r.cps.toList.length = r.length := by simp [Str.length]
  rw [← hr, e]; simp
/-! ## what is read of a row -/
theorem item_row (k x : Int) : rdItem (rowOf k x) = itemOf k x := by
  unfold rdItem
  have hd : (Str.ofString ".").cps.toList = [46] := by decide +kernel
  unfold rowOf itemOf
  split
  · obtain ⟨l, e, _⟩ := failRow_list k
    have hl : 1 ≤ (failRow k).length := by
      have hr : (failRow k).cps.toList.length = (failRow k).length := by simp [Str.length]
      rw [← hr, e]; simp
    rw [if_neg]
    intro q
    have := congrArg (fun s : Str => s.cps.toList) q
    simp only [slice_one _ hl, e, hd] at this
    simp at this
  · have e : (encRow (textOf x)).cps.toList = 46 :: (textOf x).cps.toList.flatMap encS := encRow_list _
    have hl : 1 ≤ (encRow (textOf x)).length := by
      have hr : (encRow (textOf x)).cps.toList.length = (encRow (textOf x)).length := by simp [Str.length]
      rw [← hr, e]; simp
    rw [if_pos (str_ext (by rw [slice_one _ hl, e, hd]; rfl))]
    rw [dec_enc (s := textOf x)]
    have := slice_from (encRow (textOf x)) (n := 1) hl
    rw [show ((1 : Nat) : Int) = 1 from rfl] at this
    rw [this, e]; rfl
/-! ## splitdoc on a page's tail -/
theorem sdoc_last {x r : Str} (hs : Txt.strip x = r) (h : RowOk r) : sdoc x = (r, Str.ofString "") := by
  unfold sdoc
  rw [hs, split_one h.free]
  rfl
theorem sdoc_group {x r w t : Str} (hs : Txt.strip x = r ++ nl ++ (w ++ nl ++ t)) (h : RowOk r) (hw : White w.cps.toList) (hf : 10 ∉ w.cps.toList) : sdoc x = (r, t) := by
  unfold sdoc
  rw [hs, split_cons _ h.free, split_cons _ hf]
  unfold sdocL
  have hl : ¬ (r :: w :: Txt.split t nl).length = 1 := by simp
  rw [if_neg hl, if_pos ⟨by simp, rstrip_white hw⟩]
  show (r, Txt.join nl (Txt.split t nl)) = _
  rw [join_lines]
theorem sdoc_plain {x r t r2 : Str} {l : List Str} (hs : Txt.strip x = r ++ nl ++ t) (h : RowOk r) (ht : Txt.split t nl = r2 :: l) (h2 : RowOk r2) : sdoc x = (Str.ofString "", r ++ nl ++ t) := by
  have e : Txt.split (r ++ nl ++ t) nl = r :: r2 :: l := by rw [split_cons _ h.free, ht]
  unfold sdoc
  rw [hs, e]
  unfold sdocL
  have hl : ¬ (r :: r2 :: l).length = 1 := by simp
  rw [if_neg hl, if_neg (fun q => rstrip_solid h2.solid.1 q.2), ← e, join_lines]
theorem rd_head {x r t : Str} (e : sdoc x = (r, t)) (h : RowOk r) : rdRow x = r ∧ rdRest x = t := by
  have hn : ¬ (sdoc x).1 = Str.ofString "" := by rw [e]; exact row_ne h
  refine ⟨?_, ?_⟩
  · unfold rdRow; rw [if_neg hn, e]
  · unfold rdRest; rw [if_neg hn, e]
theorem rd_none {x r t : Str} (e : sdoc x = (Str.ofString "", r ++ nl ++ t)) (h : RowOk r) : rdRow x = r ∧ rdRest x = t := by
  have hn : (sdoc x).1 = Str.ofString "" := by rw [e]
  have e1 : rdRow x = r := by
    unfold rdRow
    rw [if_pos hn, e]
    exact partition_row t h.free
  refine ⟨e1, ?_⟩
  unfold rdRest
  rw [if_pos hn, e1, e]
  have hx : (r ++ nl ++ t).cps.toList = (r.cps.toList ++ [10]) ++ t.cps.toList := by
    simp only [Str.cps_append, Array.toList_append, nl_eq]
  have hr : r.cps.toList.length = r.length := by simp [Str.length]
  refine str_ext ?_
  have := slice_from (r ++ nl ++ t) (n := r.length + 1) (by rw [Str.length_append, Str.length_append, nl_eq]; show _ ≤ r.length + 1 + t.length; omega)
  rw [show (((r.length + 1 : Nat)) : Int) = (r.length : Int) + 1 from by omega] at this
  rw [this, hx]
  have hl : (r.cps.toList ++ [10]).length = r.length + 1 := by rw [List.length_append, hr]; rfl
  rw [← hl, List.drop_left]
end Mine

/-! # Pl5 -/
namespace Mine
open PySem.Builtin.Str PySem.StrLaws
/-! ## the page's tails -/
def rowAt (ns : List Int) (k : Nat) : Str := rowOf (k : Int) (ns.getD k 0)
def sepAt (ns : List Int) (k : Nat) : Str := if Int.fmod (ns.getD k 0) 3 = 0 then sepOf (Int.fmod (Int.fdiv (ns.getD k 0) 3) 3) else nl
def tailL (ns : List Int) (k : Nat) : Nat → Str
  | 0 => rowAt ns k
  | m + 1 => rowAt ns k ++ (sepAt ns (k + 1) ++ tailL ns (k + 1) m)
theorem pre_succ (ns : List Int) (k : Nat) : preOf (buildN ns (k + 1)) ((k + 1 : Nat) : Int) (ns.getD (k + 1) 0) = (preOf (buildN ns k) (k : Int) (ns.getD k 0) ++ rowAt ns k) ++ sepAt ns (k + 1) := by
  show (if 0 < ((k + 1 : Nat) : Int) then _ else _) = _
  rw [if_pos (by omega)]
  unfold sepAt
  split <;> rfl
theorem page_tail (ns : List Int) : ∀ m k, (buildN ns (k + 1 + m)).page = preOf (buildN ns k) (k : Int) (ns.getD k 0) ++ tailL ns k m
  | 0, k => rfl
  | m + 1, k => by
    have ih := page_tail ns m (k + 1)
    rw [show k + 1 + (m + 1) = k + 1 + 1 + m from by omega, ih, pre_succ]
    show _ = preOf (buildN ns k) (k : Int) (ns.getD k 0) ++ (rowAt ns k ++ (sepAt ns (k + 1) ++ tailL ns (k + 1) m))
    simp only [Str.append_assoc]
theorem starts_at (ns : List Int) : ∀ n i, i < n → (buildN ns n).starts.getD i 0 = ((preOf (buildN ns i) (i : Int) (ns.getD i 0)).length : Int)
  | 0, i, h => by omega
  | n + 1, i, h => by
    have hl := build_starts ns n
    show ((buildN ns n).starts ++ [_]).getD i 0 = _
    rw [List.getD_eq_getElem?_getD]
    rcases Nat.lt_or_ge i n with h1 | h1
    · have ih := starts_at ns n i h1
      rw [List.getD_eq_getElem?_getD] at ih
      rw [List.getElem?_append_left (by omega), ih]
    · have e : i = n := by omega
      subst e
      rw [List.getElem?_append_right (by omega), hl, Nat.sub_self]
      rfl
theorem rows_at (ns : List Int) : ∀ n i, i < n → (buildN ns n).rows.getD i Str.empty = rowAt ns i
  | 0, i, h => by omega
  | n + 1, i, h => by
    have hl := build_rows ns n
    show ((buildN ns n).rows ++ [_]).getD i Str.empty = _
    rw [List.getD_eq_getElem?_getD]
    rcases Nat.lt_or_ge i n with h1 | h1
    · have ih := rows_at ns n i h1
      rw [List.getD_eq_getElem?_getD] at ih
      rw [List.getElem?_append_left (by omega), ih]
    · have e : i = n := by omega
      subst e
      rw [List.getElem?_append_right (by omega), hl, Nat.sub_self]
      rfl
theorem slice_app (a b : Str) : Txt.slice (a ++ b) (some (a.length : Int)) none = b := by
  refine str_ext ?_
  rw [slice_from _ (by rw [Str.length_append]; omega), Str.cps_append, Array.toList_append]
  have : a.cps.toList.length = a.length := by simp [Str.length]
  rw [← this, List.drop_left]
theorem slice_tail (ns : List Int) {n k m : Nat} (h : k + 1 + m = n) : Txt.slice (buildN ns n).page (some ((buildN ns n).starts.getD k 0)) none = tailL ns k m := by
  rw [starts_at ns n k (by omega), ← h, page_tail ns m k, slice_app]
theorem tail_len (ns : List Int) {n k m : Nat} (h : k + 1 + m = n) : (tailL ns k m).length ≤ (buildN ns n).page.length := by
  rw [← h, page_tail ns m k, Str.length_append]; omega
theorem rowAt_ok (ns : List Int) {k : Nat} (h : k < 10) : RowOk (rowAt ns k) := row_ok _ h
theorem sepOf_nl (i : Int) : ∃ t, sepOf i = nl ++ t := by
  unfold sepOf
  split
  · exact ⟨nl, by decide +kernel⟩
  · split
    · exact ⟨Str.ofString " \t\n", by decide +kernel⟩
    · exact ⟨Str.ofString "\n\n", by decide +kernel⟩
theorem sepAt_nl (ns : List Int) (k : Nat) : ∃ t, sepAt ns k = nl ++ t := by
  unfold sepAt
  split
  · exact sepOf_nl _
  · exact ⟨Str.ofString "", by decide +kernel⟩
theorem tail_first (ns : List Int) {k : Nat} (h : k < 10) : ∀ m, ∃ l, Txt.split (tailL ns k m) nl = rowAt ns k :: l
  | 0 => ⟨[], split_one (rowAt_ok ns h).free⟩
  | m + 1 => by
    obtain ⟨t, e⟩ := sepAt_nl ns (k + 1)
    refine ⟨Txt.split (t ++ tailL ns (k + 1) m) nl, ?_⟩
    show Txt.split (rowAt ns k ++ (sepAt ns (k + 1) ++ tailL ns (k + 1) m)) nl = _
    rw [e, ← split_cons _ (rowAt_ok ns h).free]
    simp only [Str.append_assoc]
theorem tail_solid (ns : List Int) : ∀ m k, k + m < 10 → Solid (tailL ns k m).cps.toList
  | 0, k, h => (rowAt_ok ns h).solid
  | m + 1, k, h => by
    obtain ⟨⟨c, r, hc, hs⟩, _⟩ := (rowAt_ok ns (k := k) (by omega)).solid
    obtain ⟨_, ⟨r2, d, hd, hds⟩⟩ := tail_solid ns m (k + 1) (by omega)
    have e : (tailL ns k (m + 1)).cps.toList = (rowAt ns k).cps.toList ++ ((sepAt ns (k + 1)).cps.toList ++ (tailL ns (k + 1) m).cps.toList) := by
      show (rowAt ns k ++ (sepAt ns (k + 1) ++ tailL ns (k + 1) m)).cps.toList = _
      simp only [Str.cps_append, Array.toList_append]
    refine ⟨⟨c, _, by rw [e, hc]; rfl, hs⟩, ⟨(rowAt ns k).cps.toList ++ ((sepAt ns (k + 1)).cps.toList ++ r2), d, ?_, hds⟩⟩
    rw [e, hd]
    simp only [List.append_assoc]
theorem strip_self {t : Str} (h : Solid t.cps.toList) : Txt.strip t = t :=
  strip_solid (u := []) (v := []) (by simp) (fun _ h => nomatch h) (fun _ h => nomatch h) h
theorem strip_nl {t : Str} (h : Solid t.cps.toList) : Txt.strip (nl ++ t) = t :=
  strip_solid (u := [10]) (v := []) (by rw [Str.cps_append, Array.toList_append, nl_eq, List.append_nil]) (fun c hc => by rw [List.mem_singleton.mp hc]; exact sp10) (fun _ h => nomatch h) h
theorem strip_end {t : Str} (h : Solid t.cps.toList) : Txt.strip (t ++ Str.ofString " \n") = t :=
  strip_solid (u := []) (v := [32, 10]) (by rw [Str.cps_append, Array.toList_append, show Str.ofString " \n" = ⟨#[32, 10]⟩ from by decide +kernel]; rfl) (fun _ h => nomatch h) (fun c hc => by
    simp only [List.mem_cons, List.not_mem_nil, or_false] at hc
    rcases hc with rfl | rfl
    · exact sp32
    · exact sp10) h
theorem three (x : Int) : Int.fmod x 3 = 0 ∨ Int.fmod x 3 = 1 ∨ Int.fmod x 3 = 2 := by
  have := fmod_bnd x (b := 3) (by decide)
  omega
theorem sep0 (t : Str) : sepOf 0 ++ t = nl ++ (Str.ofString "" ++ nl ++ t) := by
  rw [show sepOf 0 = nl ++ (Str.ofString "" ++ nl) from by decide +kernel, Str.append_assoc]
theorem sep1 (t : Str) : sepOf 1 ++ t = nl ++ (Str.ofString " \t" ++ nl ++ t) := by
  rw [show sepOf 1 = nl ++ (Str.ofString " \t" ++ nl) from by decide +kernel, Str.append_assoc]
theorem sep2 (t : Str) : sepOf 2 ++ t = nl ++ (Str.ofString "" ++ nl ++ (nl ++ t)) := by
  rw [show sepOf 2 = nl ++ (Str.ofString "" ++ nl ++ nl) from by decide +kernel]
  simp only [Str.append_assoc]
theorem white0 : White (Str.ofString "").cps.toList := by
  rw [show Str.ofString "" = ⟨#[]⟩ from by decide +kernel]
  exact fun _ h => nomatch h
theorem white1 : White (Str.ofString " \t").cps.toList := by
  rw [show Str.ofString " \t" = ⟨#[32, 9]⟩ from by decide +kernel]
  intro c hc
  have : c ∈ [32, 9] := hc
  simp only [List.mem_cons, List.not_mem_nil, or_false] at this
  rcases this with rfl | rfl
  · exact sp32
  · exact sp9
theorem free0 : 10 ∉ (Str.ofString "").cps.toList := by decide +kernel
theorem free1 : 10 ∉ (Str.ofString " \t").cps.toList := by decide +kernel
/-- one turn of the reading, at a page's tail -/
theorem turn_last {ns : List Int} {k : Nat} {x : Str} (h : k < 10) (hs : Txt.strip x = tailL ns k 0) : sdoc x = (rowAt ns k, Str.ofString "") ∧ rdRow x = rowAt ns k ∧ rdRest x = Str.ofString "" := by
  have e := sdoc_last (r := rowAt ns k) hs (rowAt_ok ns h)
  exact ⟨e, rd_head e (rowAt_ok ns h)⟩
theorem turn_group {ns : List Int} {n k m : Nat} {x : Str} (hn : k + 1 + (m + 1) = n) (h : n < 10) (hs : Txt.strip x = tailL ns k (m + 1)) (h0 : Int.fmod (ns.getD (k + 1) 0) 3 = 0) :
    sdoc x = halfAt (buildN ns n) ns k ∧ (sdoc x).1 = rowAt ns k ∧ rdRow x = rowAt ns k ∧ Txt.strip (rdRest x) = tailL ns (k + 1) m ∧ (rdRest x).length ≤ (tailL ns (k + 1) m).length + 1 := by
  have hk := rowAt_ok ns (k := k) (by omega)
  have hT := tail_solid ns m (k + 1) (by omega)
  have hh : halfAt (buildN ns n) ns k = (rowAt ns k, sep2Of (Int.fmod (Int.fdiv (ns.getD (k + 1) 0) 3) 3) ++ tailL ns (k + 1) m) := by
    unfold halfAt
    rw [if_pos h0, rows_at ns n k (by omega), slice_tail ns (k := k + 1) (m := m) (by omega)]
  have hs' : Txt.strip x = rowAt ns k ++ (sepOf (Int.fmod (Int.fdiv (ns.getD (k + 1) 0) 3) 3) ++ tailL ns (k + 1) m) := by
    rw [hs]
    show rowAt ns k ++ (sepAt ns (k + 1) ++ tailL ns (k + 1) m) = _
    unfold sepAt
    rw [if_pos h0]
  rw [hh]
  rcases three (Int.fdiv (ns.getD (k + 1) 0) 3) with e | e | e
  · rw [e] at hs' ⊢
    rw [sep0, ← Str.append_assoc] at hs'
    have es : sep2Of 0 ++ tailL ns (k + 1) m = tailL ns (k + 1) m := by
      rw [show sep2Of 0 = Str.empty from by decide +kernel, Str.empty_append]
    have q := sdoc_group hs' hk white0 free0
    obtain ⟨q1, q2⟩ := rd_head q hk
    rw [es]
    refine ⟨q, by rw [q], q1, by rw [q2]; exact strip_self hT, by rw [q2]; omega⟩
  · rw [e] at hs' ⊢
    rw [sep1, ← Str.append_assoc] at hs'
    have es : sep2Of 1 ++ tailL ns (k + 1) m = tailL ns (k + 1) m := by
      rw [show sep2Of 1 = Str.empty from by decide +kernel, Str.empty_append]
    have q := sdoc_group hs' hk white1 free1
    obtain ⟨q1, q2⟩ := rd_head q hk
    rw [es]
    refine ⟨q, by rw [q], q1, by rw [q2]; exact strip_self hT, by rw [q2]; omega⟩
  · rw [e] at hs' ⊢
    rw [sep2, ← Str.append_assoc] at hs'
    have es : sep2Of 2 ++ tailL ns (k + 1) m = nl ++ tailL ns (k + 1) m := by
      rw [show sep2Of 2 = nl from by decide +kernel]
    have q := sdoc_group hs' hk white0 free0
    obtain ⟨q1, q2⟩ := rd_head q hk
    rw [es]
    refine ⟨q, by rw [q], q1, by rw [q2]; exact strip_nl hT, by rw [q2, Str.length_append, nl_eq]; show 1 + _ ≤ _; omega⟩
theorem turn_plain {ns : List Int} {n k m : Nat} {x : Str} (hn : k + 1 + (m + 1) = n) (h : n < 10) (hs : Txt.strip x = tailL ns k (m + 1)) (h0 : ¬ Int.fmod (ns.getD (k + 1) 0) 3 = 0) :
    sdoc x = halfAt (buildN ns n) ns k ∧ (sdoc x).1 = Str.ofString "" ∧ rdRow x = rowAt ns k ∧ Txt.strip (rdRest x) = tailL ns (k + 1) m ∧ (rdRest x).length ≤ (tailL ns (k + 1) m).length + 1 := by
  have hk := rowAt_ok ns (k := k) (by omega)
  have hT := tail_solid ns m (k + 1) (by omega)
  have hh : halfAt (buildN ns n) ns k = (Str.ofString "", tailL ns k (m + 1)) := by
    unfold halfAt
    rw [if_neg h0, slice_tail ns (k := k) (m := m + 1) (by omega)]
  have et : tailL ns k (m + 1) = rowAt ns k ++ nl ++ tailL ns (k + 1) m := by
    show rowAt ns k ++ (sepAt ns (k + 1) ++ tailL ns (k + 1) m) = _
    unfold sepAt
    rw [if_neg h0, Str.append_assoc]
  obtain ⟨l, hl⟩ := tail_first ns (k := k + 1) (by omega) m
  have q := sdoc_plain (hs.trans et) hk hl (rowAt_ok ns (by omega))
  obtain ⟨q1, q2⟩ := rd_none q hk
  rw [hh, et]
  exact ⟨q, by rw [q], q1, by rw [q2]; exact strip_self hT, by rw [q2]; omega⟩
end Mine

/-! # Eq1 -/
namespace Mine
/-! ## two pieces of data that tell the same are equal -/
mutual
def fineD : Dat → Bool
  | .bytes _ => false
  | .str x => PyData.strOk x
  | .tuple ds => fineDs ds
  | .list ds => fineDs ds
  | .none => true
  | .bool _ => true
  | .int _ => true
def fineDs : List Dat → Bool
  | [] => true
  | d :: ds => fineD d && fineDs ds
end
section
variable {h₀ h : Heap} {L : Addr} {news : List (Addr × Obj)}
mutual
theorem fine_reads (N : News h₀ L h news) : ∀ {v : Value} {d : Dat}, DatIn news v d → fineD d = true → ∃ as, Reads h v (kqdP d) as
  | _, _, .none, _ => ⟨_, .none⟩
  | _, _, .bool b, _ => ⟨_, .bool b⟩
  | _, _, .int i t, _ => ⟨_, .int i t⟩
  | _, _, .str x t, _ => ⟨_, .str x t⟩
  | _, _, .bytes _ _, q => absurd q (by simp [fineD])
  | _, _, .tuple hm r, q => by
    have q' := q
    rw [fineD] at q'
    obtain ⟨as, ra⟩ := fine_readsAll N r q'
    rw [kqdP]
    exact ⟨as, reads_tuple_at (N.get hm) rfl rfl ra⟩
  | _, _, .list hm r, q => by
    have q' := q
    rw [fineD] at q'
    obtain ⟨as, ra⟩ := fine_readsAll N r q'
    rw [kqdP]
    exact ⟨_, reads_list_at (N.get hm) rfl rfl ra⟩
theorem fine_readsAll (N : News h₀ L h news) : ∀ {vs : List Value} {ds : List Dat}, DatAll news vs ds → fineDs ds = true → ∃ as, ReadsAll h vs (kqdPs ds) as
  | _, _, .nil, _ => ⟨_, .nil⟩
  | _, _, .cons a r, q => by
    have q' := q
    rw [fineDs, Bool.and_eq_true] at q'
    obtain ⟨as, ra⟩ := fine_reads N a q'.1
    obtain ⟨bs, rb⟩ := fine_readsAll N r q'.2
    rw [kqdPs]
    exact ⟨_, .cons ra rb⟩
end
end
mutual
theorem fine_lay : ∀ d : Dat, fineD d = true → (kqdP d).canLay0 = true
  | .none, _ => by rw [kqdP, PyData.canLay0]
  | .bool _, _ => by rw [kqdP, PyData.canLay0]
  | .int _, _ => by rw [kqdP, PyData.canLay0]
  | .bytes _, q => absurd q (by simp [fineD])
  | .str x, q => by rw [fineD] at q; rw [kqdP, PyData.canLay0, q]
  | .tuple ds, q => by rw [fineD] at q; rw [kqdP, PyData.canLay0]; exact fine_lays ds q
  | .list ds, q => by rw [fineD] at q; rw [kqdP, PyData.canLay0]; exact fine_lays ds q
theorem fine_lays : ∀ ds : List Dat, fineDs ds = true → PyData.canLayAll0 (kqdPs ds) = true
  | [], _ => by rw [kqdPs, PyData.canLayAll0]
  | d :: ds, q => by
    rw [fineDs, Bool.and_eq_true] at q
    rw [kqdPs, PyData.canLayAll0, fine_lay d q.1, fine_lays ds q.2]; rfl
end
theorem fineDs_iff : ∀ ds : List Dat, (∀ d ∈ ds, fineD d = true) → fineDs ds = true
  | [], _ => by rw [fineDs]
  | d :: ds, q => by rw [fineDs, q d (.head _), fineDs_iff ds fun e he => q e (.tail _ he)]; rfl
theorem depths_le {n : Nat} : ∀ ds : List Dat, (∀ d ∈ ds, (kqdP d).depth ≤ n) → PyData.depthAll (kqdPs ds) ≤ n
  | [], _ => by rw [kqdPs, PyData.depthAll]; omega
  | d :: ds, q => by
    have h1 := q d (.head _)
    have h2 := depths_le ds fun e he => q e (.tail _ he)
    rw [kqdPs, PyData.depthAll]; omega
theorem depth_list {n : Nat} {ds : List Dat} (h : ∀ d ∈ ds, (kqdP d).depth ≤ n) : (kqdP (.list ds)).depth ≤ n + 1 := by
  have := depths_le ds h
  rw [kqdP, PyData.depth]; omega
theorem depth_tuple {n : Nat} {ds : List Dat} (h : ∀ d ∈ ds, (kqdP d).depth ≤ n) : (kqdP (.tuple ds)).depth ≤ n + 1 := by
  have := depths_le ds h
  rw [kqdP, PyData.depth]; omega
theorem depth_str (x : Str) : (kqdP (.str x)).depth ≤ 0 := by rw [kqdP, PyData.depth]; omega
theorem depth_bool (b : Bool) : (kqdP (.bool b)).depth ≤ 0 := by rw [kqdP, PyData.depth]; omega
theorem eq_same {prog : Program} {w : World} {A : Around} {E : Value → Shared → Prop} {s : Shared} {h₀ : Heap} {L : Addr} {news n₁ n₂ : List (Addr × Obj)} {u v : Value} {d e : Dat} {Q : Value → Shared → Prop}
    (N : News h₀ L s.heap news) (Da : DatIn n₁ u d) (sa : ∀ p ∈ n₁, p ∈ news) (Db : DatIn n₂ v e) (sb : ∀ p ∈ n₂, p ∈ news) (hde : d = e) (hf : fineD d = true) (hdp : (kqdP d).depth ≤ 64) (hu : A.units + 64 < cLine) (h : Q (.bool true) s) :
    wpAny (model prog w) A (compareOp .Eq u v) Q E s := by
  subst hde
  obtain ⟨as, ra⟩ := fine_reads N (Da.mono sa) hf
  obtain ⟨bs, rb⟩ := fine_reads N (Db.mono sb) hf
  have hl := fine_lay d hf
  have hs : SeqAt.shaped (kqdP d) = true := by unfold SeqAt.shaped; rw [hl, Bool.true_and]; exact decide_eq_true hdp
  exact eq_dataH ra rb hs hs hu (by rw [PySem.SeqAt.eqv_refl _ hl]; exact h)
end Mine

/-! # Pl6 -/
namespace Mine
open PySem.Builtin.Str PySem.StrLaws
/-! ## the reading gives back what was built -/
def pageX (ns : List Int) : Str := (buildN ns ns.length).page ++ Str.ofString " \n"
structure RdInv (ns : List Int) (k m : Nat) : Prop where
  strip : Txt.strip (readN (pageX ns) k).rest = tailL ns k m
  len : (readN (pageX ns) k).rest.length ≤ (buildN ns ns.length).page.length + 2
  done : (readN (pageX ns) k).done = (buildN ns (k + 1)).done
  cur : (readN (pageX ns) k).cur ++ [itemOf (k : Int) (ns.getD k 0)] = (buildN ns (k + 1)).cur
  halves : (readN (pageX ns) k).halves = halfN (buildN ns ns.length) ns k
theorem pre_zero (ns : List Int) : preOf (buildN ns 0) ((0 : Nat) : Int) (ns.getD 0 0) = Str.empty := by
  show (if (0 : Int) < 0 then _ else Str.ofString "") = _
  rw [if_neg (by decide)]
  decide +kernel
theorem page_zero (ns : List Int) {m : Nat} (h : 0 + 1 + m = ns.length) : (buildN ns ns.length).page = tailL ns 0 m := by
  rw [← h, page_tail ns m 0, pre_zero, Str.empty_append]
theorem rd_start (ns : List Int) {m : Nat} (h : 0 + 1 + m = ns.length) (h9 : ns.length < 10) : RdInv ns 0 m := by
  have hT := tail_solid ns m 0 (by omega)
  refine ⟨?_, ?_, ?_, ?_, rfl⟩
  · show Txt.strip (pageX ns) = _
    unfold pageX
    rw [page_zero ns h, strip_end hT]
  · show (pageX ns).length ≤ _
    unfold pageX
    rw [Str.length_append, show (Str.ofString " \n").length = 2 from by decide +kernel]
    omega
  · show [] = (if 0 < ((0 : Nat) : Int) ∧ Int.fmod (ns.getD 0 0) 3 = 0 then ((buildN ns 0).done ++ [(buildN ns 0).cur]) else [])
    rw [if_neg (fun q => absurd q.1 (by decide))]
  · show [] ++ [_] = (if 0 < ((0 : Nat) : Int) ∧ Int.fmod (ns.getD 0 0) 3 = 0 then [] else []) ++ [_]
    rw [if_neg (fun q => absurd q.1 (by decide))]
theorem done_pos {ns : List Int} {k : Nat} (h0 : Int.fmod (ns.getD (k + 1) 0) 3 = 0) : (buildN ns (k + 1 + 1)).done = (buildN ns (k + 1)).done ++ [(buildN ns (k + 1)).cur] ∧ (buildN ns (k + 1 + 1)).cur = [itemOf ((k + 1 : Nat) : Int) (ns.getD (k + 1) 0)] := by
  have hc : 0 < ((k + 1 : Nat) : Int) ∧ Int.fmod (ns.getD (k + 1) 0) 3 = 0 := ⟨by omega, h0⟩
  constructor
  · show (if _ then _ else _) = _
    rw [if_pos hc]
  · show (if _ then _ else _) ++ [_] = _
    rw [if_pos hc]; rfl
theorem done_neg {ns : List Int} {k : Nat} (h0 : ¬ Int.fmod (ns.getD (k + 1) 0) 3 = 0) : (buildN ns (k + 1 + 1)).done = (buildN ns (k + 1)).done ∧ (buildN ns (k + 1 + 1)).cur = (buildN ns (k + 1)).cur ++ [itemOf ((k + 1 : Nat) : Int) (ns.getD (k + 1) 0)] := by
  have hc : ¬ (0 < ((k + 1 : Nat) : Int) ∧ Int.fmod (ns.getD (k + 1) 0) 3 = 0) := fun q => h0 q.2
  constructor
  · show (if _ then _ else _) = _
    rw [if_neg hc]
  · show (if _ then _ else _) ++ [_] = _
    rw [if_neg hc]
theorem item_at (ns : List Int) (k : Nat) : rdItem (rowAt ns k) = itemOf (k : Int) (ns.getD k 0) := item_row _ _
theorem rd_step {ns : List Int} {k m : Nat} (h : k + 1 + (m + 1) = ns.length) (h9 : ns.length < 10) (I : RdInv ns k (m + 1)) : RdInv ns (k + 1) m := by
  obtain ⟨i1, i2, i3, i4, i5⟩ := I
  have hlen := tail_len ns (n := ns.length) (k := k + 1) (m := m) (by omega)
  by_cases h0 : Int.fmod (ns.getD (k + 1) 0) 3 = 0
  · obtain ⟨t1, t2, t3, t4, t5⟩ := turn_group h h9 i1 h0
    have hne : ¬ (sdoc (readN (pageX ns) k).rest).1 = Str.ofString "" := by rw [t2]; exact row_ne (rowAt_ok ns (by omega))
    obtain ⟨d1, d2⟩ := done_pos h0
    refine ⟨t4, Nat.le_trans t5 (by omega), ?_, ?_, ?_⟩
    · show (if _ then _ else _) = _
      rw [if_neg hne, t3, item_at, i4, i3, d1]
    · show (if _ then _ else _) ++ [_] = _
      rw [if_neg hne, d2]; rfl
    · show _ ++ [_] = _
      rw [t1, i5]; rfl
  · obtain ⟨t1, t2, t3, t4, t5⟩ := turn_plain h h9 i1 h0
    obtain ⟨d1, d2⟩ := done_neg h0
    refine ⟨t4, Nat.le_trans t5 (by omega), ?_, ?_, ?_⟩
    · show (if _ then _ else _) = _
      rw [if_pos t2, i3, d1]
    · show (if _ then _ else _) ++ [_] = _
      rw [if_pos t2, t3, item_at, i4, d2]
    · show _ ++ [_] = _
      rw [t1, i5]; rfl
theorem rd_inv (ns : List Int) (h9 : ns.length < 10) : ∀ k m, k + 1 + m = ns.length → RdInv ns k m
  | 0, m, h => rd_start ns h h9
  | k + 1, m, h => rd_step (by omega) h9 (rd_inv ns h9 k (m + 1) (by omega))
theorem part_len (x y : Str) : (Txt.partition x y).1.length ≤ x.length := by
  unfold Txt.partition
  split
  · show (strSub x 0 _).length ≤ _
    have : (strSub x 0 ‹Nat›).length = (strSub x 0 ‹Nat›).cps.toList.length := by simp [Str.length]
    rw [this, strSub_toList, List.length_take, List.length_drop]
    have hx : x.cps.toList.length = x.length := by simp [Str.length]
    omega
  · exact Nat.le_refl _
theorem half_len2 {ns : List Int} {n k m : Nat} (h : k + 1 + (m + 1) = n) : (halfAt (buildN ns n) ns k).2.length ≤ (buildN ns n).page.length + 1 := by
  have h1 := tail_len ns (n := n) (k := k + 1) (m := m) (by omega)
  have h2 := tail_len ns (n := n) (k := k) (m := m + 1) h
  unfold halfAt
  split
  · show (sep2Of _ ++ _).length ≤ _
    rw [slice_tail ns (k := k + 1) (m := m) (by omega), Str.length_append]
    have : (sep2Of (Int.fmod (Int.fdiv (ns.getD (k + 1) 0) 3) 3)).length ≤ 1 := by
      unfold sep2Of
      split <;> decide +kernel
    omega
  · show (Txt.slice _ _ _).length ≤ _
    rw [slice_tail ns (k := k) (m := m + 1) h]
    omega
theorem rd_bounds (ns : List Int) (h9 : ns.length < 10) (i : Nat) (hi : i < ns.length) :
    (readN (pageX ns) i).rest.length ≤ 1000 ∧ (rdRow (readN (pageX ns) i).rest).length ≤ 100 ∧ (sdoc (readN (pageX ns) i).rest).2.length ≤ 1000 ∧ (Txt.partition (sdoc (readN (pageX ns) i).rest).2 (Str.ofString "\n")).1.length ≤ 1000 := by
  have hp := buildN_len ns ns.length (by omega)
  have hr : (rowAt ns i).length ≤ 40 := rowOf_len _ (by omega) (by omega)
  obtain ⟨m, hm⟩ : ∃ m, i + 1 + m = ns.length := ⟨ns.length - (i + 1), by omega⟩
  have I := rd_inv ns h9 i m hm
  have hl := I.len
  have h2 : rdRow (readN (pageX ns) i).rest = rowAt ns i ∧ (sdoc (readN (pageX ns) i).rest).2.length ≤ 1000 := by
    cases m with
    | zero =>
      obtain ⟨t1, t2, _⟩ := turn_last (by omega) I.strip
      refine ⟨t2, ?_⟩
      rw [t1]
      show (Str.ofString "").length ≤ _
      rw [show (Str.ofString "").length = 0 from by decide +kernel]
      omega
    | succ m =>
      have hh := half_len2 (ns := ns) hm
      by_cases h0 : Int.fmod (ns.getD (i + 1) 0) 3 = 0
      · obtain ⟨t1, _, t3, _⟩ := turn_group hm h9 I.strip h0
        exact ⟨t3, by rw [t1]; omega⟩
      · obtain ⟨t1, _, t3, _⟩ := turn_plain hm h9 I.strip h0
        exact ⟨t3, by rw [t1]; omega⟩
  have h3 := part_len (sdoc (readN (pageX ns) i).rest).2 (Str.ofString "\n")
  exact ⟨by omega, by rw [h2.1]; omega, h2.2, by omega⟩
theorem rd_end (ns : List Int) (h1 : 1 ≤ ns.length) (h9 : ns.length < 10) :
    (readN (pageX ns) ns.length).done = (buildN ns ns.length).done ++ [(buildN ns ns.length).cur] ∧ (readN (pageX ns) ns.length).cur = [] ∧
    (readN (pageX ns) ns.length).halves = halfN (buildN ns ns.length) ns (ns.length - 1) ++ [(rowAt ns (ns.length - 1), Str.ofString "")] := by
  obtain ⟨k, hk⟩ : ∃ k, ns.length = k + 1 := ⟨ns.length - 1, by omega⟩
  obtain ⟨i1, i2, i3, i4, i5⟩ := rd_inv ns h9 k 0 (by omega)
  obtain ⟨t1, t2, t3⟩ := turn_last (by omega) i1
  have hne : ¬ (sdoc (readN (pageX ns) k).rest).1 = Str.ofString "" := by rw [t1]; exact row_ne (rowAt_ok ns (by omega))
  have e : readN (pageX ns) ns.length = readSt (readN (pageX ns) k) := by rw [hk]; rfl
  have e2 : ns.length - 1 = k := by omega
  have e3 : buildN ns ns.length = buildN ns (k + 1) := by rw [hk]
  rw [e, e2]
  refine ⟨?_, ?_, ?_⟩
  · show (if _ then _ else _) = _
    rw [if_neg hne, t2, item_at, i4, i3, e3]
  · show (if _ then _ else _) = _
    rw [if_neg hne]
  · show _ ++ [_] = _
    rw [t1, i5]
/-! ## the data of it -/
def Low (x : Str) : Prop := ∀ c ∈ x.cps.toList, c < 1114112
theorem low_ok {x : Str} (h : Low x) : PyData.strOk x = true := by
  unfold PyData.strOk
  rw [← Array.all_toList, List.all_eq_true]
  exact fun c hc => decide_eq_true (h c hc)
theorem low_app {x y : Str} (h1 : Low x) (h2 : Low y) : Low (x ++ y) := by
  intro c hc
  rw [Str.cps_append, Array.toList_append] at hc
  exact (List.mem_append.mp hc).elim (h1 c) (h2 c)
theorem low_text (x : Int) : Low (textOf x) := by
  intro c hc
  unfold textOf Txt.join at hc
  rw [glued_eq_join, join_flat] at hc
  obtain ⟨p, hp, hcp⟩ := List.mem_flatMap.mp hc
  obtain ⟨k, _, rfl⟩ := List.mem_map.mp hp
  have e : c = alpha.cps.getD (Int.fmod (Int.fdiv (Int.fdiv x 45) (8 ^ k.toNat)) 8).toNat 0 := by
    have : c ∈ [alpha.cps.getD (Int.fmod (Int.fdiv (Int.fdiv x 45) (8 ^ k.toNat)) 8).toNat 0] := hcp
    exact List.mem_singleton.mp this
  rw [e]
  have hb := fmod_bnd (Int.fdiv (Int.fdiv x 45) (8 ^ k.toNat)) (b := 8) (by decide)
  have key : ∀ n : Nat, n < 8 → alpha.cps.getD n 0 < 1114112 := by decide +kernel
  exact key _ (by omega)
theorem low_enc {s : Str} (h : Low s) : Low (encRow s) := by
  intro d hd
  rw [encRow_list] at hd
  rcases List.mem_cons.mp hd with rfl | hd
  · decide
  obtain ⟨c, hc, hdc⟩ := List.mem_flatMap.mp hd
  have hl := h c hc
  unfold encS at hdc
  split at hdc
  · simp at hdc; rcases hdc with rfl | rfl <;> decide
  · split at hdc
    · simp at hdc; rcases hdc with rfl | rfl <;> decide
    · split at hdc
      · simp at hdc; rcases hdc with rfl | rfl <;> decide
      · rw [List.mem_singleton.mp hdc]; exact hl
theorem low_fail : ∀ k : Nat, k < 10 → ∀ c ∈ (failRow (k : Int)).cps.toList, c < 1114112 := by decide +kernel
theorem low_row {k : Nat} (x : Int) (h : k < 10) : Low (rowOf (k : Int) x) := by
  unfold rowOf
  split
  · exact low_fail k h
  · exact low_enc (low_text x)
theorem low_sep (i : Int) : Low (sepOf i) := by
  unfold sepOf
  split
  · show ∀ c ∈ _, _; decide +kernel
  · split
    · show ∀ c ∈ _, _; decide +kernel
    · show ∀ c ∈ _, _; decide +kernel
theorem low_nl : Low nl := by show ∀ c ∈ _, _; decide +kernel
theorem low_none : Low (Str.ofString "") := by show ∀ c ∈ _, _; decide +kernel
theorem low_tail (ns : List Int) : ∀ m k, k + m < 10 → Low (tailL ns k m)
  | 0, k, h => low_row _ (by omega)
  | m + 1, k, h => by
    refine low_app (low_row _ (by omega)) (low_app ?_ (low_tail ns m (k + 1) (by omega)))
    unfold sepAt
    split
    · exact low_sep _
    · exact low_nl
theorem low_item {k : Nat} (x : Int) (h : k < 10) : fineD (itemDat (itemOf (k : Int) x)) = true := by
  unfold itemDat
  rw [fineD, fineDs, fineDs, fineDs, fineD, fineD, Bool.and_true, Bool.true_and]
  refine low_ok ?_
  unfold itemOf
  split
  · exact low_fail k h
  · exact low_text x
theorem items_fine (ns : List Int) : ∀ i, i ≤ 10 → (∀ p ∈ (buildN ns i).cur, fineD (itemDat p) = true) ∧ ∀ g ∈ (buildN ns i).done, ∀ p ∈ g, fineD (itemDat p) = true
  | 0, _ => ⟨(fun _ h => nomatch h), (fun _ h => nomatch h)⟩
  | i + 1, h => by
    obtain ⟨h1, h2⟩ := items_fine ns i (by omega)
    have hi := low_item (k := i) (ns.getD i 0) (by omega)
    constructor
    · intro p hp
      have hp' : p ∈ (if 0 < (i : Int) ∧ Int.fmod (ns.getD i 0) 3 = 0 then [] else (buildN ns i).cur) ++ [itemOf (i : Int) (ns.getD i 0)] := hp
      rcases List.mem_append.mp hp' with hq | hq
      · split at hq
        · exact nomatch hq
        · exact h1 p hq
      · rw [List.mem_singleton.mp hq]; exact hi
    · intro g hg
      have hg' : g ∈ (if 0 < (i : Int) ∧ Int.fmod (ns.getD i 0) 3 = 0 then (buildN ns i).done ++ [(buildN ns i).cur] else (buildN ns i).done) := hg
      split at hg'
      · rcases List.mem_append.mp hg' with hq | hq
        · exact h2 g hq
        · rw [List.mem_singleton.mp hq]; exact h1
      · exact h2 g hg'
theorem half_fine {p : Str × Str} (h1 : Low p.1) (h2 : Low p.2) : fineD (halfDat p) = true := by
  unfold halfDat
  rw [fineD, fineDs, fineDs, fineDs, fineD, fineD, low_ok h1, low_ok h2]; rfl
theorem half_low {ns : List Int} {n k m : Nat} (h : k + 1 + (m + 1) = n) (h9 : n < 10) : Low (halfAt (buildN ns n) ns k).1 ∧ Low (halfAt (buildN ns n) ns k).2 := by
  unfold halfAt
  split
  · refine ⟨?_, ?_⟩
    · show Low ((buildN ns n).rows.getD k Str.empty)
      rw [rows_at ns n k (by omega)]
      exact low_row _ (by omega)
    · show Low (sep2Of _ ++ _)
      rw [slice_tail ns (k := k + 1) (m := m) (by omega)]
      refine low_app ?_ (low_tail ns m (k + 1) (by omega))
      unfold sep2Of
      split
      · exact low_nl
      · exact low_none
  · refine ⟨low_none, ?_⟩
    show Low (Txt.slice _ _ _)
    rw [slice_tail ns (k := k) (m := m + 1) h]
    exact low_tail ns (m + 1) k (by omega)
theorem halves_fine {ns : List Int} {n : Nat} (h9 : n < 10) : ∀ k, k < n → ∀ p ∈ halfN (buildN ns n) ns k, fineD (halfDat p) = true
  | 0, _, _, h => nomatch h
  | k + 1, hk, p, hp => by
    rcases List.mem_append.mp (show p ∈ halfN (buildN ns n) ns k ++ [halfAt (buildN ns n) ns k] from hp) with hq | hq
    · exact halves_fine h9 k (by omega) p hq
    · rw [List.mem_singleton.mp hq]
      obtain ⟨q1, q2⟩ := half_low (ns := ns) (n := n) (k := k) (m := n - (k + 2)) (by omega) h9
      exact half_fine q1 q2
def endDat (gs : List (List (Bool × Str))) (hs : List (Str × Str)) : Dat := .tuple [.list (gs.map fun g => Dat.list (g.map itemDat)), .list (hs.map halfDat)]
theorem end_depth (gs : List (List (Bool × Str))) (hs : List (Str × Str)) : (kqdP (endDat gs hs)).depth ≤ 64 := by
  have h1 : ∀ p : Bool × Str, (kqdP (itemDat p)).depth ≤ 1 := fun p => depth_tuple fun d hd => by
    simp only [List.mem_cons, List.not_mem_nil, or_false] at hd
    rcases hd with rfl | rfl
    · exact depth_bool _
    · exact depth_str _
  have h2 : ∀ p : Str × Str, (kqdP (halfDat p)).depth ≤ 1 := fun p => depth_tuple fun d hd => by
    simp only [List.mem_cons, List.not_mem_nil, or_false] at hd
    rcases hd with rfl | rfl
    · exact depth_str _
    · exact depth_str _
  have h3 : (kqdP (endDat gs hs)).depth ≤ 3 + 1 := depth_tuple fun d hd => by
    simp only [List.mem_cons, List.not_mem_nil, or_false] at hd
    rcases hd with rfl | rfl
    · exact depth_list (n := 2) fun d hd => by
        obtain ⟨g, _, rfl⟩ := List.mem_map.mp hd
        exact depth_list (n := 1) fun d hd => by
          obtain ⟨p, _, rfl⟩ := List.mem_map.mp hd
          exact h1 p
    · refine Nat.le_trans (depth_list (n := 1) fun d hd => ?_) (by omega)
      obtain ⟨p, _, rfl⟩ := List.mem_map.mp hd
      exact h2 p
  omega
theorem end_fine {gs : List (List (Bool × Str))} {hs : List (Str × Str)} (h1 : ∀ g ∈ gs, ∀ p ∈ g, fineD (itemDat p) = true) (h2 : ∀ p ∈ hs, fineD (halfDat p) = true) : fineD (endDat gs hs) = true := by
  unfold endDat
  rw [fineD]
  refine fineDs_iff _ fun d hd => ?_
  simp only [List.mem_cons, List.not_mem_nil, or_false] at hd
  rcases hd with rfl | rfl
  · rw [fineD]
    refine fineDs_iff _ fun d hd => ?_
    obtain ⟨g, hg, rfl⟩ := List.mem_map.mp hd
    rw [fineD]
    refine fineDs_iff _ fun d hd => ?_
    obtain ⟨p, hp, rfl⟩ := List.mem_map.mp hd
    exact h1 g hg p hp
  · rw [fineD]
    refine fineDs_iff _ fun d hd => ?_
    obtain ⟨p, hp, rfl⟩ := List.mem_map.mp hd
    exact h2 p hp
/-- what the law asks, said of the data -/
theorem law_plain (ns : List Int) (h1 : 1 ≤ ns.length) (h9 : ns.length < 10) :
    endDat ((readN (pageX ns) ns.length).done ++ [(readN (pageX ns) ns.length).cur]) (readN (pageX ns) ns.length).halves = endDat (((buildN ns ns.length).done ++ [(buildN ns ns.length).cur]) ++ [[]]) (halfN (buildN ns ns.length) ns (ns.length - 1) ++ [(rowAt ns (ns.length - 1), Str.ofString "")]) ∧
    fineD (endDat ((readN (pageX ns) ns.length).done ++ [(readN (pageX ns) ns.length).cur]) (readN (pageX ns) ns.length).halves) = true := by
  obtain ⟨r1, r2, r3⟩ := rd_end ns h1 h9
  rw [r1, r2, r3]
  refine ⟨rfl, end_fine ?_ ?_⟩
  · obtain ⟨c1, c2⟩ := items_fine ns ns.length (by omega)
    intro g hg
    rcases List.mem_append.mp hg with hq | hq
    · rcases List.mem_append.mp hq with hq | hq
      · exact c2 g hq
      · rw [List.mem_singleton.mp hq]; exact c1
    · rw [List.mem_singleton.mp hq]; exact fun _ h => nomatch h
  · intro p hp
    rcases List.mem_append.mp hp with hq | hq
    · exact halves_fine h9 _ (by omega) p hq
    · rw [List.mem_singleton.mp hq]
      exact half_fine (low_row _ (by omega)) low_none
end Mine

/-! # Main -/
namespace Mine
theorem strs_snoc {y : Str} : ∀ {rv : List Value} {l : List Str}, StrsAre rv (l ++ [y]) → ∃ rv' t, rv = rv' ++ [.str y t]
  | _, [], .cons _ t .nil => ⟨[], t, rfl⟩
  | _, _ :: l, .cons a u r => by
    obtain ⟨rv', t, e⟩ := strs_snoc (l := l) r
    exact ⟨_ :: rv', t, by rw [e]; rfl⟩
theorem rows_last (ns : List Int) {n : Nat} (h : 1 ≤ n) : (buildN ns n).rows = (buildN ns (n - 1)).rows ++ [rowOf ((n - 1 : Nat) : Int) (ns.getD (n - 1) 0)] := by
  obtain ⟨k, rfl⟩ : ∃ k, n = k + 1 := ⟨n - 1, by omega⟩
  rfl
theorem off_mid {lh lst lr ld lg Dn : Nat} {o1 o2 o3 : Obj} {tl : List (Addr × Obj)} (h : @LT.lt Nat _ lst lh ∧ @LT.lt Nat _ lr lh ∧ @LT.lt Nat _ ld lh ∧ @LT.lt Nat _ lg lh ∧ @LT.lt Nat _ 57 lh ∧ @LT.lt Nat _ Dn lh ∧ AllLt lh tl) (T : Told6 lst lr ld lg 57 Dn) (off : OwnOff tl [lst, lr, ld, lg, 57, Dn]) :
    OwnOff ((ld, o1) :: (lg, o2) :: (57, o3) :: tl) [lh, lst, lr, Dn] := by
  obtain ⟨h1, h2, h3, h4, h5, h6, h7⟩ := h
  have lt7 := lt_mem h7
  intro q hq b hb
  simp only [List.mem_cons, List.not_mem_nil, or_false] at hb
  rcases List.mem_cons.mp hq with rfl | hq
  · rcases hb with rfl | rfl | rfl | rfl
    · exact Nat.ne_of_lt h3
    · exact T.ac.symm
    · exact T.bc.symm
    · exact T.cf
  rcases List.mem_cons.mp hq with rfl | hq
  · rcases hb with rfl | rfl | rfl | rfl
    · exact Nat.ne_of_lt h4
    · exact T.ad.symm
    · exact T.bd.symm
    · exact T.df
  rcases List.mem_cons.mp hq with rfl | hq
  · rcases hb with rfl | rfl | rfl | rfl
    · exact Nat.ne_of_lt h5
    · exact T.ae.symm
    · exact T.be.symm
    · exact T.ef
  · rcases hb with rfl | rfl | rfl | rfl
    · exact Nat.ne_of_lt (lt7 q hq)
    · exact off q hq _ (by simp)
    · exact off q hq _ (by simp)
    · exact off q hq _ (by simp)
theorem mem_deep {α : Type} {a b c d e f g h i : α} {tl new : List α} : ∀ q ∈ tl, q ∈ a :: b :: c :: d :: ((e :: f :: g :: h :: i :: tl) ++ new) :=
  fun _ hq => .tail _ (.tail _ (.tail _ (.tail _ (List.mem_append_left new (.tail _ (.tail _ (.tail _ (.tail _ (.tail _ hq)))))))))
theorem mem_base {α : Type} {a b c d e f g h i x y z : α} {tl tl3 new : List α} (hb : ∀ q ∈ x :: y :: z :: tl, q ∈ tl3) : ∀ q ∈ tl, q ∈ a :: b :: c :: d :: ((e :: f :: g :: h :: i :: tl3) ++ new) :=
  fun q hq => mem_deep q (hb q (.tail _ (.tail _ (.tail _ hq))))
theorem lk_have {K : Frag} {a : Addr} {o : Obj} {P : Prop} {hh : Heap} (_X : K.In hh) (h1 : K.lookup a = some o) (h : K.lookup a = some o → P) : P := h h1
theorem mod_bnd (l : List Int) : ∀ x ∈ (l.map fun k' => Int.fmod k' 23040) ++ [18477], 0 ≤ x ∧ x < 23040 := by
  intro x hx
  rcases List.mem_append.mp hx with hx | hx
  · obtain ⟨y, _, rfl⟩ := List.mem_map.mp hx
    exact fmod_bnd y (by decide)
  · rw [List.mem_singleton.mp hx]; decide
theorem start_told {lst lr ld lg Dn : Nat} (h1 : lr < lst ∧ ld < lst ∧ lg < lst ∧ Dn < lst ∧ 57 < lst) (h2 : ld < lr ∧ lg < lr ∧ Dn < lr ∧ 57 < lr) (h3 : lg < ld ∧ Dn < ld ∧ 57 < ld) (h4 : Dn < lg ∧ 57 < lg) (h5 : 57 < Dn) : Told6 lst lr ld lg 57 Dn := by
  obtain ⟨a1, a2, a3, a4, a5⟩ := h1
  obtain ⟨b1, b2, b3, b4⟩ := h2
  obtain ⟨c1, c2, c3⟩ := h3
  obtain ⟨d1, d2⟩ := h4
  exact ⟨Nat.ne_of_gt a1, Nat.ne_of_gt a2, Nat.ne_of_gt a3, Nat.ne_of_gt a5, Nat.ne_of_gt a4, Nat.ne_of_gt b1, Nat.ne_of_gt b2, Nat.ne_of_gt b4, Nat.ne_of_gt b3, Nat.ne_of_gt c1, Nat.ne_of_gt c3, Nat.ne_of_gt c2, Nat.ne_of_gt d2, Nat.ne_of_gt d1, Nat.ne_of_lt h5⟩
section
local macro_rules | `(tactic| k_steps) => `(tactic| repeat' (first | (k_unfold; (try dsimp only)) | walk1 | (dsimp only; walk1) | fail "no step"))
local macro_rules | `(tactic| walk_at "idle") => `(tactic| fail)
local macro_rules | `(tactic| walk_at "idle") => `(tactic| fail)
local macro_rules | `(tactic| walk_at "idle") => `(tactic| fail)
local macro_rules | `(tactic| walk_at "idle") => `(tactic| fail)
local macro_rules | `(tactic| walk_at "exec For Name Call cons nil") => `(tactic| refine StopAt.out ?_)
local macro_rules | `(tactic| walk_at "exec For") => `(tactic| refine StopAt.out ?_)
local macro_rules | `(tactic| walk_at "pyIter ref") => `(tactic| refine StopAt.out ?_)
local macro_rules | `(tactic| walk_at "call ref") => `(tactic| refine StopAt.out ?_)
local macro_rules | `(tactic| walk_at "compareOp Eq ref ref") => `(tactic| refine StopAt.out ?_)
local macro_rules | `(tactic| walk_at "binaryOp Add ref ref") => `(tactic| (rename DatIn _ _ _ => hD5; refine StopAt.out ?_))
local macro_rules | `(tactic| walk_at "subscriptTail Name UnaryOp") => `(tactic| (k_dflt (refine last_item (by k_asm) (by k_mem) ?_; k_whole)))
set_option maxRecDepth 100000 in
set_option maxHeartbeats 4000000 in
theorem main_walk : PySem.Challenge.rw_pe0019_01.Holds := Mine.hd (by
  w_strict (
   k_go0
   rename Dflts _ _ _ _ _ _ => hD
   rename Heap.CodeRec _ _ _ => hC
   clear hD hC
   (all_goals try k_fold)
   k_steps
   refine StopAt.go ?_
   refine For_invVF (by assumption) rfl rfl ?_
   k_steps
   refine StopAt.go ?_
   rename IsRange _ _ _ _ _ _ _ _ => hR
   rename Fr _ _ _ _ => FF
   rename News _ _ _ _ => NN
   rename IntsAre _ (List.map _ _ ++ _) => hWs
   rename CodeHd _ _ _ => hCH
   rename Top _ _ _ _ _ (ghostOf _ _) => hTop
   rename Frag.In _ (ghostOf _ _) => hXin
   rename Below _ _ _ _ => hBel
   rename_i Dn ws hZ iDn hY kY hX lg hA iA ld hB iB hC kC lr hD iD hE kE lst hF iF hG FG NG h1 tk0 t1 u1 v1 keepA
   rename List Int => scr
   refine' lk_have hXin (a := 60) ?kk ?_
   case kk => k_is
   intro hlk
   have hb := mod_bnd (List.take 8 scr)
   have hlen : (List.map (fun k' => Int.fmod k' 23040) (List.take 8 scr) ++ [18477]).length ≤ 9 := by
     rw [List.length_append, List.length_map, List.length_take]
     have := Nat.min_le_left 8 scr.length
     show _ + 1 ≤ 9
     omega
   have hpos : 1 ≤ (List.map (fun k' => Int.fmod k' 23040) (List.take 8 scr) ++ [18477]).length := by
     rw [List.length_append]; show 1 ≤ _ + 1; omega
   have hsz : (List.map (fun k' => Int.fmod k' 23040) (List.take 8 scr)).length + 1 = (List.map (fun k' => Int.fmod k' 23040) (List.take 8 scr) ++ [18477]).length := by
     rw [List.length_append]; rfl
   rw [hsz] at hR
   generalize hns : List.map (fun k' => Int.fmod k' 23040) (List.take 8 scr) ++ [18477] = ns at hR hWs hb hlen hpos
   clear hsz
   obtain ⟨f1, f2, f3, f4, _, _, _, f8⟩ := iF
   obtain ⟨d1, d2, d3, _, _, _, d7⟩ := iD
   obtain ⟨b1, b2, _, _, _, b6⟩ := iB
   obtain ⟨a1, _, _, _, a5⟩ := iA
   obtain ⟨_, _, _, n4⟩ := iDn
   have hT6 : Told6 lst lr ld lg 57 Dn := start_told ⟨f1, f2, f3, f4, f8⟩ ⟨d1, d2, d3, d7⟩ ⟨b1, b2, b6⟩ ⟨a1, a5⟩ n4
   refine range_loop (news := led lst lr ld lg Dn [] [] [] [] ws 0 0 0 0 #[] ++ []) (LawJ ns ws lst lr ld Dn) rfl hR (rng0 ns.length (by omega)).1 (rng0 ns.length (by omega)).2 FF ?hN ?hj ?turn ?done
   case hN =>
     intro q hq
     refine NN q ?_
     simp only [led, List.append_nil, List.mem_cons, List.not_mem_nil, or_false] at hq
     simp only [List.mem_cons, List.not_mem_nil, or_false]
     rcases hq with h | h | h | h | h | h
     · exact .inl h
     · exact .inr (.inl h)
     · exact .inr (.inr (.inl h))
     · exact .inr (.inr (.inr (.inl h)))
     · exact .inr (.inr (.inr (.inr (.inr (.inr (.inr (.inr h)))))))
     · exact .inr (.inr (.inr (.inr (.inl h))))
   case hj =>
     exact ⟨_, lg, [], [], [], [], 0, 0, 0, 0, #[], [], rfl, (fun _ h => nomatch h), hT6, all5 rfl rfl rfl rfl rfl, ⟨.nil, .nil, .nil, .nil, .inl rfl⟩⟩
   case turn =>
     intro i t m₁ nx h tk own hi hoff J F N
     exact law_turn _ _ _ _ _ _ hlk _ _ _ ns ws lst lr ld Dn hWs hb hlen hBel hXin hTop hCH i hi t m₁ nx h tk own hoff J F N _ _ _
   case done =>
     clear NN FF hR FG NG keepA
     intro m₁ nx h tk J F N
     obtain ⟨tp, lg, sv, rv, dv, gv, n1, n2, n3, n4, ps, tl, rfl, offt, hT6, hm, D⟩ := J
     replace F := fr_known0 _ hm F
     simp only [led, List.cons_append, List.nil_append] at N
     k_steps
     refine StopAt.go ?_
     refine For_invVF (by assumption) rfl rfl ?_
     k_steps
     refine StopAt.go ?_
     rename IsRange _ _ _ _ _ _ _ _ => hR
     rename Fr _ _ _ _ => FF
     rename News _ _ _ _ => NN
     rename _ ∧ _ ∧ _ ∧ _ ∧ _ ∧ _ ∧ AllLt _ _ => l9
     rename_i lh hB1 FB1 NB1 hB2 FB2 NB2 hB3 kB t2 u2 v2 keepB
     clear FB1 NB1 FB2 NB2 keepB
     have hP : (buildN ns ns.length).page.length ≤ 900 := by
       have := buildN_len ns ns.length (by omega)
       omega
     refine range_loop (news := (lh, listOf [].toArray 0) :: (lst, listOf sv.toArray n1) :: (lr, listOf rv.toArray n2) :: (Dn, listOf ws.toArray 0) :: ((ld, listOf (dv ++ [Value.ref lg]).toArray n3) :: (lg, listOf gv.toArray n4) :: (57, tabObj ps) :: tl))
       (HalfJ ns (buildN ns ns.length) ws sv rv lst lr ld Dn lh n1 n2 ((ld, listOf (dv ++ [Value.ref lg]).toArray n3) :: (lg, listOf gv.toArray n4) :: (57, tabObj ps) :: tl)) rfl hR (rng1 ns.length (by omega) hpos).1 (rng1 ns.length (by omega) hpos).2 FF ?hN2 ?hj2 ?turn2 ?done2
     case hN2 =>
       intro q hq
       refine NN q ?_
       simp only [List.mem_cons] at hq ⊢
       rcases hq with h | h | h | h | h | h | h | h
       · exact .inl h
       · exact .inr (.inl h)
       · exact .inr (.inr (.inl h))
       · exact .inr (.inr (.inr (.inr (.inr (.inr (.inl h))))))
       · exact .inr (.inr (.inr (.inl h)))
       · exact .inr (.inr (.inr (.inr (.inl h))))
       · exact .inr (.inr (.inr (.inr (.inr (.inl h)))))
       · exact .inr (.inr (.inr (.inr (.inr (.inr (.inr h))))))
     case hj2 =>
       exact ⟨tp, [], 0, _, rfl, off_mid l9 hT6 offt, fun _ h => h, all6 rfl rfl rfl rfl rfl rfl, .nil⟩
     case turn2 =>
       intro i t m₁ nx h tk own hi hoff J F N
       exact half_turn _ _ _ _ _ _ hlk _ _ _ ns (buildN ns ns.length) ws sv rv lst lr ld Dn lh n1 n2 _ hWs D.starts D.rows hb hlen (build_rows ns ns.length) (build_starts ns ns.length) hP (Nat.ne_of_gt l9.1) (Nat.ne_of_gt l9.2.1) (Nat.ne_of_gt l9.2.2.2.2.2.1) hBel hXin hTop i hi t m₁ nx h tk own hoff J F N _ _ _
     case done2 =>
       clear hlk NN FF hR hm
       intro m₁ nx h tk J F N
       obtain ⟨tp, hv, n, tl3, rfl, offt3, hbase, hm, Dh⟩ := J
       replace F := fr_known0 _ hm F
       have Drows := D.rows
       rw [rows_last ns hpos] at Drows
       obtain ⟨rv', tl9, rfl⟩ := strs_snoc Drows
       have hhl : hv.length ≤ 9 := by rw [Dh.length, List.length_map, half_len]; omega
       k_steps
       refine StopAt.go ?_
       refine' read_c _ _ _ _ _ _ _ ns.length _ _ _ _ _ _ _ _ _ _ _ _ _ _ _ _ _ _ _ _ ?k1 ?k2 ?k3 ?k4 ?k5 ?kK ?kc ?kb ?kd ?ku ?_
       case k1 => k_asm
       case k2 => k_asm
       case k3 => k_asm
       case k4 => k_asm
       case k5 => k_asm
       case kK => rfl
       case kc => exact hlen
       case kb => exact rd_bounds ns (by omega)
       case kd => ktr_room
       case ku => ktr_units
       intro D5 h5 tk5 new F5 N5 hD5
       k_steps
       refine StopAt.go ?_
       rename Fr _ _ _ _ => FF
       rename News _ _ _ _ => NN
       rename DatIn _ _ _ => hD5
       refine add_lists (vs := dv ++ [Value.ref lg]) FF NN (News.isList NN (.tail _ (.tail _ (List.mem_append_left _ (.tail _ (.tail _ (.tail _ (.tail _ (.tail _ (hbase _ (.head _))))))))))) (ws := [Value.ref _]) (News.isList NN (.head _)) ?_ ?hz
       case hz =>
         have hdl : dv.length ≤ 9 := by
           rw [D.done.length, List.length_map]
           have := build_done ns ns.length
           omega
         rw [sizeLine_eq, List.length_append]
         show dv.length + 1 + 1 ≤ _
         omega
       intro h8 F8 N8
       k_steps
       refine StopAt.go ?_
       rename Fr _ _ _ _ => FF
       rename News _ _ _ _ => NN
       have law := law_plain ns hpos (by omega)
       unfold pageX at law
       refine eq_same NN hD5 ?sa ?db (fun _ h => h) law.1 law.2 (end_depth _ _) ?hu ?_
       case hu => ke_room
       case sa =>
         intro q hq
         exact .tail _ (.tail _ (.tail _ (.tail _ (List.mem_append_right _ hq))))
       case db =>
         refine .tuple (vs := [Value.ref _, Value.ref lh]) (.head _) (.cons (.list (vs := (dv ++ [Value.ref lg]) ++ [Value.ref _]) (.tail _ (.head _)) ?d1) (.cons (.list (.tail _ (.tail _ (.tail _ (.tail _ (List.mem_append_left _ (.tail _ (.head _))))))) ?d2) .nil))
         case d1 =>
           rw [List.map_append, List.map_append]
           refine DatAll.append (DatAll.append (D.done.mono (mem_base hbase)) (.one (.list (mem_deep _ (hbase _ (.tail _ (.head _)))) (D.cur.mono (mem_base hbase))))) (.one (.list (vs := []) (.tail _ (.tail _ (.tail _ (.head _)))) .nil))
         case d2 =>
           rw [List.map_append]
           refine DatAll.append (Dh.mono mem_deep) (.one (.tuple (vs := [.str _ _, .str _ _]) (.tail _ (.tail _ (.tail _ (.tail _ (List.mem_append_left _ (.head _)))))) (.cons (.str _ _) (.cons (.str _ _) .nil))))
       refine And.intro ?_ (And.intro (GrownAt.of NN (mem_deep _ (hbase _ (.tail _ (.tail _ (.head _)))))) True.intro)
       first
         | exact goodW_bool FF (by assumption) (fun _ => rfl) rfl
         | (k_end; kc_close)))
end
end Mine

theorem PySem.Challenge.cw_pe0019_01_holds : PySem.Challenge.rw_pe0019_01.Holds := by
  exact Mine.main_walk
