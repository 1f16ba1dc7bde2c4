import PyProof.Rows.All
import Wide.All
import OpenK.AllK
import Wide.FinOn
import PySem.Challenge.RW_fk5025_03
open PySem PySem.W PyProof.Rows
set_option Elab.async false
namespace Mine
set_option maxRecDepth 100000 in
set_option maxHeartbeats 8000000 in
open_top hd3 for PySem.Challenge.rw_fk5025_03
set_option maxRecDepth 100000
set_option maxHeartbeats 16000000
abbrev Led := List (Addr × Obj)
/-- a contract of a tree: run above any frame, it makes tl and gives r with R -/
abbrev Ctc (w : World) (T : Sem Value) (dn un : Nat) (Pre : Led → Prop) (R : Led → Value → Prop) : Prop :=
  ∀ (p : Program) (loose : List Str) (mean : ExcName → Option Value) (mg mb : Str → Option Value) (dp u : Nat) (gd : Option (List Code)) (cn : Str) (cs : Scope) (a : Addr) (ccd : Value) (cl : List (Str × Addr)) (outer : List Env) (A₀ : Around) (base h₀ : Heap) (L : Addr) (m : Str → Option Value) (news : Led) (s : Shared) (Q E : Value → Shared → Prop),
    Below A₀ base outer h₀ → Fr h₀ L s.heap m → (hd3.heap_39 w.params).In h₀ → News h₀ L s.heap news → Top p loose mean mg mb h₀ → cs.kind = .function → Pre news → dp + dn < recursionLimit → u + un < cLine →
    (∀ r tl h' tk', Fr h₀ L h' m → News h₀ L h' (news ++ tl) → (∀ q ∈ news, ∀ p ∈ tl, q.1 ≠ p.1) → R (news ++ tl) r → Q r { s with heap := h', toks := tk' }) →
    wpAny (model PySem.Challenge.rw_fk5025_03.row.prog w) (ktrTop dp u gd cn cs L a ccd cl outer) T Q E s
theorem Ctc.use {w : World} {T : Sem Value} {dn un : Nat} {Pre : Led → Prop} {R : Led → Value → Prop} (C : Ctc w T dn un Pre R)
    {p : Program} {loose : List Str} {mean : ExcName → Option Value} {mg mb : Str → Option Value} {dp u : Nat} {gd : Option (List Code)} {cn : Str} {cs : Scope} {a : Addr} {ccd : Value} {cl : List (Str × Addr)} {outer : List Env} {A₀ : Around} {base h₀ : Heap} {L : Addr} {m : Str → Option Value} {news : Led} {s : Shared} {Q E : Value → Shared → Prop}
    (B : Below A₀ base outer h₀) (F : Fr h₀ L s.heap m) (X : (hd3.heap_39 w.params).In h₀) (N : News h₀ L s.heap news) (Tp : Top p loose mean mg mb h₀) (hk : cs.kind = .function) (hP : Pre news) (hd : dp + dn < recursionLimit) (hu : u + un < cLine)
    (ret : ∀ r tl h' tk', Fr h₀ L h' m → News h₀ L h' (news ++ tl) → (∀ q ∈ news, ∀ p ∈ tl, q.1 ≠ p.1) → R (news ++ tl) r → Q r { s with heap := h', toks := tk' }) :
    wpAny (model PySem.Challenge.rw_fk5025_03.row.prog w) (ktrTop dp u gd cn cs L a ccd cl outer) T Q E s := C _ _ _ _ _ _ _ _ _ _ _ _ _ _ _ _ _ _ _ _ _ _ _ B F X N Tp hk hP hd hu ret

theorem memI {a : Addr × Obj} {l : Led} (h : a ∈ l) : List.Mem a l := h
theorem newsSub {h₀ h : Heap} {L : Addr} {l l' : Led} (N : News h₀ L h l) (hs : ∀ p ∈ l', p ∈ l) : News h₀ L h l' := fun p hp => N p (hs p hp)
theorem end0 {h₀ h : Heap} {L : Addr} {news : Led} (pre : Led) (N : News h₀ L h (pre ++ news)) : News h₀ L h (news ++ pre) :=
  newsSub N fun p hp => by rcases List.mem_append.mp hp with h | h <;> simp [h]
theorem end1 {h₀ h : Heap} {L : Addr} {news tl : Led} (pre : Led) (N : News h₀ L h (pre ++ (news ++ tl))) : News h₀ L h (news ++ (pre ++ tl)) :=
  newsSub N fun p hp => by simp only [List.mem_append] at hp ⊢; rcases hp with h | h | h <;> simp [h]
theorem ltOf {d : Addr} : ∀ {l : Led}, AllLt d l → ∀ p ∈ l, p.1 < d
  | [], _, _, hp => (nomatch hp)
  | q :: r, h, p, hp => by
    rcases List.mem_cons.mp hp with rfl | hp
    · exact h.1
    · exact ltOf h.2 p hp
theorem allLtApp {d : Addr} : ∀ {l l' : Led}, AllLt d (l ++ l') → AllLt d l ∧ AllLt d l'
  | [], _, h => ⟨trivial, h⟩
  | _ :: _, _, h => ⟨⟨h.1, (allLtApp h.2).1⟩, (allLtApp h.2).2⟩
theorem allLtL {d : Addr} {l l' : Led} (h : AllLt d (l ++ l')) : AllLt d l := (allLtApp h).1
theorem allLtUp {b a : Addr} (h : @LT.lt Nat _ b a) : ∀ {l : Led}, AllLt b l → AllLt a l
  | [], _ => trivial
  | _ :: _, k => ⟨Nat.lt_trans k.1 h, allLtUp h k.2⟩
theorem offMem {D : Addr} {l : Led} (h : LCg.Off1 D l) : ∀ q ∈ l, q.1 ≠ D := by
  induction l with
  | nil => intro q hq; cases hq
  | cons p r ih =>
    intro q hq
    rcases List.mem_cons.mp hq with rfl | hq
    · exact h.1
    · exact ih h.2 q hq
theorem apLt {a : Addr} {l : Led} (h : AllLt a l) : ∀ q ∈ l, q.1 ≠ a := fun q hq => Nat.ne_of_lt (ltOf h q hq)
theorem apOff {D : Addr} {l l' : Led} (h : LCg.Off1 D l) (hs : ∀ p ∈ l', p ∈ l) : ∀ q ∈ l', q.1 ≠ D := fun q hq => offMem h q (hs q hq)
theorem ord0 {news : Led} : ∀ q ∈ news, ∀ p ∈ ([] : Led), q.1 ≠ p.1 := fun _ _ _ h => nomatch h
theorem ordC {news tl : Led} {a : Addr} {o : Obj} (h : ∀ q ∈ news, q.1 ≠ a) (k : ∀ q ∈ news, ∀ p ∈ tl, q.1 ≠ p.1) : ∀ q ∈ news, ∀ p ∈ (a, o) :: tl, q.1 ≠ p.1 := by
  intro q hq p hp
  rcases List.mem_cons.mp hp with rfl | hp
  · exact h q hq
  · exact k q hq p hp
theorem ordA {news tl tl' : Led} (h : ∀ q ∈ news, ∀ p ∈ tl, q.1 ≠ p.1) (k : ∀ q ∈ news ++ tl, ∀ p ∈ tl', q.1 ≠ p.1) : ∀ q ∈ news, ∀ p ∈ tl ++ tl', q.1 ≠ p.1 := by
  intro q hq p hp
  rcases List.mem_append.mp hp with hp | hp
  · exact h q hq p hp
  · exact k q (List.mem_append.mpr (.inl hq)) p hp
theorem ordS {l l' tl : Led} (h : ∀ q ∈ l, ∀ p ∈ tl, q.1 ≠ p.1) (hs : ∀ p ∈ l', p ∈ l) : ∀ q ∈ l', ∀ p ∈ tl, q.1 ≠ p.1 := fun q hq => h q (hs q hq)
theorem neTl {b : Addr} {o : Obj} {l tl : Led} (ho : ∀ q ∈ l, ∀ p ∈ tl, q.1 ≠ p.1) (hm : (b, o) ∈ l) : ∀ p ∈ tl, p.1 ≠ b := fun p hp => Ne.symm (ho _ hm p hp)

/-- a NumNode -/
inductive NumAt (w : World) (l : Led) : Value → Int → Prop where
  | mk {x dx : Addr} {n : Int} {t1 t2 t3 t4 t5 t6 : Tok} : (x, instObj 359 dx) ∈ l →
      (dx, dictOf [⟨PyData.keyHash w.params (Str.ofString "b"), .str (Str.ofString "b") t1, .int n t2⟩, ⟨PyData.keyHash w.params (Str.ofString "min"), .str (Str.ofString "min") t3, .int n t4⟩, ⟨PyData.keyHash w.params (Str.ofString "max"), .str (Str.ofString "max") t5, .int n t6⟩] 3) ∈ l → NumAt w l (.ref x) n
/-- a Variable -/
inductive VarAt (w : World) (l : Led) : Value → Int → Int → Prop where
  | mk {x dx : Addr} {lo hi : Int} {t1 t2 t3 t4 t5 t6 t7 : Tok} : (x, instObj 305 dx) ∈ l →
      (dx, dictOf [⟨PyData.keyHash w.params (Str.ofString "expr"), .str (Str.ofString "expr") t1, .str (Str.ofString "v") t2⟩, ⟨PyData.keyHash w.params (Str.ofString "min"), .str (Str.ofString "min") t3, .int lo t4⟩, ⟨PyData.keyHash w.params (Str.ofString "max"), .str (Str.ofString "max") t5, .int hi t6⟩, ⟨PyData.keyHash w.params (Str.ofString "_val"), .str (Str.ofString "_val") t7, .none⟩] 4) ∈ l → VarAt w l (.ref x) lo hi
theorem NumAt.mono {w : World} {l l' : Led} {v : Value} {n : Int} (h : NumAt w l v n) (hs : ∀ p ∈ l, p ∈ l') : NumAt w l' v n := by
  cases h with | mk a b => exact .mk (hs _ a) (hs _ b)
theorem VarAt.mono {w : World} {l l' : Led} {v : Value} {lo hi : Int} (h : VarAt w l v lo hi) (hs : ∀ p ∈ l, p ∈ l') : VarAt w l' v lo hi := by
  cases h with | mk a b => exact .mk (hs _ a) (hs _ b)
/-- a node of whatever class: its least and its greatest -/
def NodeCls (C : Addr) : Prop := C = 305 ∨ C = 359 ∨ C = 444 ∨ C = 492 ∨ C = 526 ∨ C = 567 ∨ C = 648
inductive MMAt (w : World) (l : Led) : Value → Int → Int → Prop where
  | mk {x dx C : Addr} {es : List DictEntry} {k : Nat} {lo hi : Int} {t1 t2 : Tok} : NodeCls C → (x, instObj C dx) ∈ l → (dx, dictOf es k) ∈ l →
      getL (Str.ofString "min") es = some (some (.int lo t1)) → getL (Str.ofString "max") es = some (some (.int hi t2)) → MMAt w l (.ref x) lo hi
theorem MMAt.mono {w : World} {l l' : Led} {v : Value} {lo hi : Int} (h : MMAt w l v lo hi) (hs : ∀ p ∈ l, p ∈ l') : MMAt w l' v lo hi := by
  cases h with | mk c a b e f => exact .mk c (hs _ a) (hs _ b) e f
theorem VarAt.mm {w : World} {l : Led} {v : Value} {lo hi : Int} (h : VarAt w l v lo hi) : MMAt w l v lo hi := by
  cases h with | mk a b => exact .mk (.inl rfl) a b rfl rfl
theorem NumAt.mm {w : World} {l : Led} {v : Value} {n : Int} (h : NumAt w l v n) : MMAt w l v n n := by
  cases h with | mk a b => exact .mk (.inr (.inl rfl)) a b rfl rfl
/-- an operation's node (LtNode 444, MulNode 492, DivNode 526, ModNode 567) -/
inductive OpAt (w : World) (l : Led) (C : Addr) : Value → Value → Int → Int → Int → Prop where
  | mk {x dx : Addr} {va : Value} {b lo hi : Int} {t1 t2 t3 t4 t5 t6 t7 : Tok} : (x, instObj C dx) ∈ l →
      (dx, dictOf [⟨PyData.keyHash w.params (Str.ofString "a"), .str (Str.ofString "a") t1, va⟩, ⟨PyData.keyHash w.params (Str.ofString "b"), .str (Str.ofString "b") t2, .int b t3⟩, ⟨PyData.keyHash w.params (Str.ofString "min"), .str (Str.ofString "min") t4, .int lo t5⟩, ⟨PyData.keyHash w.params (Str.ofString "max"), .str (Str.ofString "max") t6, .int hi t7⟩] 4) ∈ l →
      OpAt w l C (.ref x) va b lo hi
theorem OpAt.mono {w : World} {l l' : Led} {C : Addr} {v va : Value} {b lo hi : Int} (h : OpAt w l C v va b lo hi) (hs : ∀ p ∈ l, p ∈ l') : OpAt w l' C v va b lo hi := by
  cases h with | mk a b => exact .mk (hs _ a) (hs _ b)
theorem OpAt.mm {w : World} {l : Led} {C : Addr} {v va : Value} {b lo hi : Int} (h : OpAt w l C v va b lo hi) (hC : C = 444 ∨ C = 492 ∨ C = 526 ∨ C = 567) : MMAt w l v lo hi := by
  cases h with | mk a b => exact .mk (.inr (.inr (by rcases hC with h | h | h | h <;> simp [h]))) a b rfl rfl
/-- a SumNode of the list at ll -/
inductive SumAt (w : World) (l : Led) (ll : Addr) : Value → Int → Int → Prop where
  | mk {x dx : Addr} {lo hi : Int} {t1 t2 t3 t4 t5 : Tok} : (x, instObj 648 dx) ∈ l →
      (dx, dictOf [⟨PyData.keyHash w.params (Str.ofString "nodes"), .str (Str.ofString "nodes") t1, .ref ll⟩, ⟨PyData.keyHash w.params (Str.ofString "min"), .str (Str.ofString "min") t2, .int lo t3⟩, ⟨PyData.keyHash w.params (Str.ofString "max"), .str (Str.ofString "max") t4, .int hi t5⟩] 3) ∈ l → SumAt w l ll (.ref x) lo hi
theorem SumAt.mono {w : World} {l l' : Led} {ll : Addr} {v : Value} {lo hi : Int} (h : SumAt w l ll v lo hi) (hs : ∀ p ∈ l, p ∈ l') : SumAt w l' ll v lo hi := by
  cases h with | mk a b => exact .mk (hs _ a) (hs _ b)
theorem SumAt.mm {w : World} {l : Led} {ll : Addr} {v : Value} {lo hi : Int} (h : SumAt w l ll v lo hi) : MMAt w l v lo hi := by
  cases h with | mk a b => exact .mk (by simp [NodeCls]) a b rfl rfl
theorem off1_ne {D d : Addr} {o : Obj} {l : Led} (h : LCg.Off1 D l) (hm : (d, o) ∈ l) : D ≠ d := Ne.symm (offMem h _ hm)
theorem off3App {I C D : Addr} {l tl : Led} {oI oC oD : Obj} (h : LCg.Off3 I C D l) (ho : ∀ q ∈ (I, oI) :: (C, oC) :: (D, oD) :: l, ∀ p ∈ tl, q.1 ≠ p.1) : LCg.Off3 I C D (l ++ tl) :=
  LCg.Off3.of fun p hp => (List.mem_append.mp hp).elim (h.mem p) fun hp => ⟨Ne.symm (ho _ (.head _) p hp), Ne.symm (ho _ (.tail _ (.head _)) p hp), Ne.symm (ho _ (.tail _ (.tail _ (.head _))) p hp)⟩
theorem endD0 {h₀ h : Heap} {L : Addr} {news : Led} (dr pre : Led) (N : News h₀ L h (dr ++ (pre ++ news))) : News h₀ L h (news ++ pre) :=
  newsSub N fun p hp => by rcases List.mem_append.mp hp with h | h <;> simp [h]
theorem endD1 {h₀ h : Heap} {L : Addr} {news tl : Led} (dr pre : Led) (N : News h₀ L h (dr ++ (pre ++ (news ++ tl)))) : News h₀ L h (news ++ (pre ++ tl)) :=
  newsSub N fun p hp => by simp only [List.mem_append] at hp ⊢; rcases hp with h | h | h <;> simp [h]
local macro_rules | `(tactic| k_room) => `(tactic| ((try simp only [depth_under_make, depth_under_kw, depth_in1, depth_deeper, depth_caller]); (try dsimp only [ktrTop]); omega))
local macro_rules | `(tactic| k_units) => `(tactic| ((try simp only [units_in1, units_deeper, units_under_make, Around.mark_units, units_caller]); (try dsimp only [ktrTop]); omega))
local macro_rules | `(tactic| k_mem) => `(tactic| (refine memI ?_; ktn_app; first | (refine List.mem_append.mpr (Or.inl ?_); k_mem) | (refine List.mem_append.mpr (Or.inr ?_); k_mem)))
local macro_rules | `(tactic| k_mem) => `(tactic| (refine memI ?_; ktr_member))
local macro_rules | `(tactic| k_all) => `(tactic| first
  | (tbn_letter; exact neTl (by assumption) (by k_mem))
  | (refine List.forall_mem_append.mpr ⟨?a, ?b⟩; (case a => k_all); (case b => k_all)))
local macro_rules | `(tactic| k_enter) => `(tactic| (refine' code_defC ?k1 ?k2 ?k3 ?k4 ?k5 ?kA ?kF ?kK ?k6 ?k7 ?k8 ?k9 ?kB ?kD ?_ ?c2 ?c3 ?c4; (case kA => exact rfl); (case kF => exact rfl); (case kK => first | exact rfl | assumption); (case k1 => k_asm); (case k2 => k_asm); (case k3 => k_asm); (case k4 => k_asm); (case k5 => k_asm); (case k6 => k_is); (case k7 => k_is); (case k8 => k_room); (case k9 => first | exact BindsTo.of_eq rfl | exact binds_K (by k_in) rfl (by k_is) rfl rfl rfl); (case kB => exact rfl); (case kD => decide +kernel); (case c2 => exact rfl); (case c3 => exact rfl); (case c4 => exact rfl); k_whole; intro g' L' h' tk' cells' FG' F' N' Y' B' X' T' l1; (try k_lt l1); k_cells Y'; (try simp only [List.cons_append, List.nil_append] at N'); (try dsimp only); (try k_fold)))
local macro_rules | `(tactic| k_enter) => `(tactic| (refine' code_def ?k1 ?k2 ?k3 ?k4 ?k5 ?kA ?kF ?kK ?k6 ?k7 ?k8 ?k9 ?kB ?_ ?c2 ?c3 ?c4 ?c5; (case kA => exact rfl); (case kF => exact rfl); (case kK => first | exact rfl | assumption); (case k1 => k_asm); (case k2 => k_asm); (case k3 => k_asm); (case k4 => k_asm); (case k5 => k_asm); (case k6 => k_is); (case k7 => k_is); (case k8 => k_room); (case k9 => first | exact BindsTo.of_eq rfl | exact binds_K (by k_in) rfl (by k_is) rfl rfl rfl); (case c5 => decide); (case kB => exact locs rfl); (case c2 => exact rfl); (case c3 => exact rfl); (case c4 => exact rfl); k_whole; intro g' L' h' FG' F' N' B' X' T'; (try dsimp only); (try k_fold)))
local macro_rules | `(tactic| walk_at "eval Name") => `(tactic| (k_here; (with_reducible show wpAny _ _ (eval (Expr.Name _ _) (envOf _ _ _ _ _)) _ _ _); k_dflt (first
  | (refine' ld ?k1 ?k2 ?_; (case k1 => k_asm); (case k2 => exact rfl); k_whole)
  | ((with_reducible rename Fr _ _ _ _ => kF); (refine' name_K kF ?k1 ?k2 ?k3 ?_; (case k1 => k_asm); (case k2 => k_asm); (case k3 => k_is); k_whole)))))
local macro_rules | `(tactic| walk_at "CompEnd") => `(tactic| (refine LCg.CompEnd.intro (by assumption) (by assumption) _ (fun p hp => hp) (by assumption) (by first | lcg_src | assumption) ?_))
local macro_rules | `(tactic| walk_at "CompRest") => `(tactic| (with_unfolding_all first
  | (refine LCg.CompRest.succ ?_; intro v' I' oI' C' oC' D' m' h' tk' E' hv' hC' hx' F' N' off' ne'; clear ne'; (first | lcg_open hv' | (obtain ⟨t9', hv9'⟩ := hv'; subst hv9')))
  | refine LCg.CompRest.zero ?_))
local macro_rules | `(tactic| walk_at "CompRestT") => `(tactic| (with_unfolding_all first
  | (refine LCt.CompRestT.succ ?_; intro v' I' oI' C' oC' D' m' h' tk' E' hv' hC' hx' F' N' off' ne'; clear ne'; (first | lcg_open hv' | (obtain ⟨t9', hv9'⟩ := hv'; subst hv9')))
  | refine LCt.CompRestT.zero ?_))
local macro_rules | `(tactic| walk_at "FinE") => `(tactic| ((unfold LCg.FinE); intro D' h' tk' F' N' o1'; (try simp only [List.nil_append, List.cons_append] at N'); (try dsimp only)))
local macro_rules | `(tactic| walk_at "FinA") => `(tactic| ((unfold LCg.FinA); intro D' h' tk' F' N' o1'; (try simp only [List.nil_append, List.cons_append] at N'); (try dsimp only)))
local macro_rules | `(tactic| walk_at "ite") => `(tactic| (k_openite; k_spoken; first
  | (refine ite_pos (by (law_purse 20000 => (law_clear; (try simp only [bne_iff_ne, ne_eq, beq_iff_eq, decide_eq_true_eq, decide_eq_false_iff_not, Bool.and_eq_true, Bool.or_eq_true, Bool.not_eq_true', Bool.not_eq_false', Bool.not_eq_true] at *); all_goals omega))) ?_)
  | (refine ite_neg (by (law_purse 20000 => (law_clear; (try simp only [bne_iff_ne, ne_eq, beq_iff_eq, decide_eq_true_eq, decide_eq_false_iff_not, Bool.and_eq_true, Bool.or_eq_true, Bool.not_eq_true', Bool.not_eq_false', Bool.not_eq_true, Decidable.not_not] at *); all_goals omega))) ?_)))
local macro_rules | `(tactic| walk_at "my lt") => `(tactic| first
  | (refine Mine.apLt ?_; first
    | tbn_find
    | exact allLt_of (by assumption)
    | exact Mine.allLtL (by tbn_find)
    | exact Mine.allLtL (allLt_of (by assumption))
    | exact Mine.allLtUp (by assumption) (by first | tbn_find | exact allLt_of (by assumption) | exact Mine.allLtL (by tbn_find) | exact Mine.allLtL (allLt_of (by assumption))))
  | exact Mine.apOff (by assumption) (by walk_at "my sub"))
local macro_rules | `(tactic| walk_at "my sub") => `(tactic| first
  | exact fun _ h => h
  | (intro p9 h9; simp only [List.mem_append, List.mem_cons, h9, true_or, or_true]; done)
  | (intro p9 h9; simp only [List.append_nil, List.mem_append, List.mem_cons, List.not_mem_nil, or_false] at h9; simp only [List.mem_append, List.mem_cons, h9, true_or, or_true]; done)
  | (intro p9 h9; simp only [List.mem_append, List.mem_cons] at h9 ⊢; (repeat' (first | (simp only [h9, true_or, or_true]; done) | (rcases h9 with h9 | h9))); done))
local macro_rules | `(tactic| walk_at "my ord") => `(tactic| first
  | assumption
  | exact ord0
  | (refine' ordC ?a ?b; (case a => walk_at "my lt"); (case b => walk_at "my ord"))
  | (refine ordA ?_ ?_ <;> walk_at "my ord")
  | exact ordS (by assumption) (by walk_at "my sub"))
local macro_rules | `(tactic| k_ne) => `(tactic| (refine neN ?_; (try dsimp only); refine' Mine.off1_ne ?a ?b; (case a => assumption); (case b => k_mem)))
local macro_rules | `(tactic| walk_at "my rel") => `(tactic| first
  | assumption
  | exact Mine.NumAt.mono (by assumption) (by walk_at "my sub")
  | exact Mine.VarAt.mono (by assumption) (by walk_at "my sub")
  | exact Mine.OpAt.mono (by assumption) (by walk_at "my sub")
  | exact Mine.SumAt.mono (by assumption) (by walk_at "my sub")
  | exact Mine.MMAt.mono (by assumption) (by walk_at "my sub")
  | exact Mine.MMAt.mono (Mine.NumAt.mm (by assumption)) (by walk_at "my sub")
  | exact Mine.MMAt.mono (Mine.VarAt.mm (by assumption)) (by walk_at "my sub")
  | exact Mine.MMAt.mono (Mine.SumAt.mm (by assumption)) (by walk_at "my sub")
  | exact Mine.MMAt.mono (Mine.OpAt.mm (by assumption) (by simp)) (by walk_at "my sub")
  | exact .mk (by k_mem) (by k_mem))
section
variable {prog : Program} {w : World} {A : Around} {E : Value → Shared → Prop} {s : Shared}
theorem eqBool_same {a : Addr} {Q : Bool → Shared → Prop} (h : Q true s) : wpAny (model prog w) A (eqBool (.ref a) (.ref a)) Q E s := by
  unfold eqBool
  refine wpAny_holding ?_
  rw [if_pos (beq_self_eq_true _)]
  exact wpAny_bind (wpAny_rule (wpAny_pure h))
open SeqAt AutoSeq1 MeetsSeq in
theorem tuple_first (l a : Addr) (rest : List Value) (n : Nat) (dd : Option Addr) (sl : Array (Option Value)) :
    Meets (Builtin.«tuple.__contains__» ⟨[.ref l, .ref a], []⟩)
      (fun _ R s => s.heap.get? l = some { cls := .type "tuple", dict := dd, data := .seq (Value.ref a :: rest).toArray n, slots := sl } ∧ R (.ok (.ret (.bool true))) s) :=
  .of_wp fun prog w A R s h => by
    obtain ⟨hp, g, d, tk, os⟩ := s; obtain ⟨hl, h⟩ := h
    wp_walk using AutoSeq1.wpAny_loadPart' hl, wpAny_forIn_array _ (fun r b s' => b.1 = none ∧ s' = ⟨hp, g, d, tk, os⟩ ∧ r.head? = some (Value.ref a)) _
    exact ⟨_, rfl, h⟩
theorem in_first {h₀ : Heap} {L t a : Addr} {news : Led} {rest : List Value} {n : Nat} {dd : Option Addr} {sl : Array (Option Value)} {Q : Value → Shared → Prop} (N : News h₀ L s.heap news)
    (hm : (t, ({ cls := .type "tuple", dict := dd, data := .seq (Value.ref a :: rest).toArray n, slots := sl } : Obj)) ∈ news) (h : Q (.bool true) s) : wpAny (model prog w) A (compareOp .In (.ref a) (.ref t)) Q E s :=
  SeqRoads2.in_meets ⟨_, (N _ hm).1, rfl⟩ F.slot_tuple_contains F.entry_tuple_contains (F.args_tuple_contains_2 _ _) (tuple_first t a rest n dd sl) ⟨(N _ hm).1, _, rfl, h⟩
end
section
open Builtin Builtin.ObjectAttr Builtin.Getset_descriptor
variable {prog : Program} {w : World} {A : Around} {E : Value → Shared → Prop} {s : Shared} {K : Frag} {R : Result → Shared → Prop} {h₀ : Heap} {L C : Addr} {m : Str → Option Value}
theorem cname_get {tp : Value} {od : Option Addr} {dat : Data} {sl : Array (Option Value)} {nm : Str} {tk : Tok} (X : K.In s.heap) (hk : K.lookup C = some ⟨.type "type", od, dat, sl⟩) (hs : sl[2]? = some (some (.str nm tk)))
    (ht : typeIn K (.ref C) = some (.type "type")) (h : R (.ok (.ret (.str nm tk))) s) :
    codeAny (model prog w) A (.call (.builtin "getset_descriptor.__get__") ⟨[.builtin "type.__name__", .ref C, tp], []⟩) R s := by
  obtain ⟨hh, g, dr, t, os⟩ := s
  have L0 : Looks (model prog w) hh (typeOf (.ref C)) (.type "type") := looks_typeIn X ht
  have L1 : Looks (model prog w) hh (isSubtype (.type "type") (.type "type")) true := Looks.of_pure (by rw [isSubtype_type]; kernel_rfl)
  have ho : hh.get? C = some ⟨.type "type", od, dat, sl⟩ := X _ _ hk
  refine codeAny_call_builtin KF.slot_gs.plain KF.entry_gs (KF.slot_gs.check _ _ _ _ _ _ _ _ ktyn_type (KF.args_gs _ _ _) ?_)
  unfold Builtin.«getset_descriptor.__get__» descrGet
  rw [dga_obj]
  refine wpAny_bind (wpAny_pure ?_)
  unfold descrGetter descrCheckInstance descrNameAndClass isInstance
  simp only [ktyn_owner]
  repeat lk
  refine ⟨Code.quiet_builtin _ (by decide +kernel), codeAny_builtin ktyn_entry ?_⟩
  unfold Builtin.«type.__name__» keptObject slotAt
  dsimp only
  refine wpAny_bind (wpAny_bind (wpAny_loadPart ho ?_))
  dsimp only
  rw [hs]
  exact wpAny_pure (wpAny_pure h)
theorem cname_attr {mc : Value} {expr : Bool} {od : Option Addr} {dat : Data} {sl : Array (Option Value)} {nm : Str} {tk : Tok} {Q : Value → Shared → Prop} (F : Fr h₀ L s.heap m) (X₀ : K.In h₀) (hk : K.lookup C = some ⟨.type "type", od, dat, sl⟩) (hs : sl[2]? = some (some (.str nm tk)))
    (ht : typeIn K (.ref C) = some (.type "type")) (hr : readsIn K C (.type "type") = true)
    (e : findCls K (.ref C) (.type "type") (Str.ofString "__name__") = some (.get (.builtin "getset_descriptor.__get__") (.builtin "type.__name__") (.ref C) mc))
    (h : ∀ u, Q (.str nm tk) { s with toks := u }) : wpAny (model prog w) A (getAttr (.ref C) (Str.ofString "__name__") expr) Q E s :=
  cls_bind (X₀.keeps F.keep) hr e (wpAny_call (cname_get (s := { s with toks := s.toks + 1 }) (X₀.keeps F.keep) hk hs ht (handed_on rfl (h _))))
end
section
variable {prog : Program} {w : World} {A : Around} {E : Value → Shared → Prop} {s : Shared} {K : Frag} {h₀ : Heap} {L C x f d : Addr} {m : Str → Option Value} {ox : Obj} {od : Option Obj}
theorem call_hash_str {y : Str} {t : Tok} {Q : Value → Shared → Prop} (h : ∀ u k, Q (.int (hashStr w y) u) { s with toks := k }) : wpAny (model prog w) A (call (.builtin "hash") [.str y t]) Q E s := by
  refine Calls.call_function_entry (b := Builtin.«hash») (by decide +kernel) (by decide +kernel) (entryFor_of_tree (by kernel_rfl)) (by unfold argsOk; kernel_rfl) ?_
  unfold Builtin.«hash»
  refine wpAny_bind (m := oneArg "hash" _) (wpAny_pure ?_)
  refine wpAny_bind (wpAny_pyHash_str ?_)
  unfold retInt
  refine wpAny_bind (wpAny_mkInt (wpAny_pure ?_))
  exact ⟨_, rfl, h _ _⟩
theorem reduced_any {i : Int} {Q : Int → Shared → Prop} (h : ∀ j, Q j s) : wpAny (model prog w) A (pyHashByItsType.reduced i) Q E s := by
  unfold pyHashByItsType.reduced
  split
  · exact wpAny_pure (h _)
  · refine wpAny_bind (wpAny_rule ?_)
    exact wpAny_pure (h _)
theorem pyHash_own {Q : Int → Shared → Prop} (hu : A.units < cLine) (X : K.In s.heap) (I : InstAt s.heap x ox C od) (hs : findIn K (.ref C) "__hash__" = some (some (.ref f))) (hf : isFn K (.ref f) = true)
    (h : wpAny (model prog w) A (call (.ref f) [.ref x]) (fun v s' => ∃ i t, v = .int i t ∧ ∀ j, Q j s') E s) : wpAny (model prog w) A (pyHash (.ref x)) Q E s := by
  have one : ∀ refuse : Sem Value, wpAny (model prog w) A (callSpecialIfBoundUnlessNone? (.ref x) "__hash__" refuse) (fun r s' => ∃ v, r = some v ∧ ∃ i t, v = .int i t ∧ ∀ j, Q j s') E s := by
    intro refuse
    have fin : wpAny (model prog w) A (call (.ref f) [.ref x] >>= fun v => pure (some v)) (fun r s' => ∃ v, r = some v ∧ ∃ i t, v = .int i t ∧ ∀ j, Q j s') E s :=
      wpAny_bind (wpAny_mono h (fun v s' h' => wpAny_pure ⟨v, rfl, h'⟩) fun _ _ z => z)
    have fin2 : wpAny (model prog w) A (if (Value.ref f == Value.none) = true then (refuse >>= fun v => pure (some v)) else (call (.ref f) [.ref x] >>= fun v => pure (some v))) (fun r s' => ∃ v, r = some v ∧ ∃ i t, v = .int i t ∧ ∀ j, Q j s') E s := by
      rw [if_neg (show ¬ ((Value.ref f == Value.none) = true) from Bool.false_ne_true)]
      exact fin
    simp only [callSpecialIfBoundUnlessNone?, bindSpecialIfBound?]
    refine wpAny_holding (wpAny_bind (wpAny_bind (wpAny_bind (I.type.here ((looks_findIn X hs).here ?_)))))
    refine wpAny_bind (wpAny_askSetting (wpAny_ite ?_))
    split
    · exact wpAny_bind ((bind_fn X _ (beq_iff_eq.mp hf)).here (wpAny_pure (by exact fin2)))
    · exact wpAny_tryCatch (wpAny_bind ((bind_fn X _ (beq_iff_eq.mp hf)).here (wpAny_pure (by exact fin2))))
  unfold pyHash pyHashByItsType
  refine wpAny_bind (wpAny_cRoomFor hu ?_)
  refine wpAny_bind (wpAny_bind (I.type.here ((looks_findIn X hs).here ?_)))
  rw [if_neg (show ¬ ((some (Value.ref f) == some Value.none) = true) from Bool.false_ne_true)]
  refine wpAny_bind (wpAny_bind (I.type.here ((looks_findIn X hs).here ?_)))
  rw [if_neg (show ¬ ((some (Value.ref f)).isNone = true) from Bool.false_ne_true)]
  refine wpAny_bind (wpAny_mono (one _) (fun r s' hr => ?_) fun _ _ z => z)
  obtain ⟨v, rfl, i, t, rfl, hq⟩ := hr
  exact reduced_any hq
theorem dictFind_nil {n : Nat} {a : Addr} {hsh : Int} {Q : Option Nat → Shared → Prop} (hd : s.heap.get? d = some (dictOf [] n)) (h : Q none s) : wpAny (model prog w) A (dictFind d (.ref a) hsh) Q E s := by
  unfold dictFind
  refine wpAny_holding (wpAny_bind (wpAny_dictEntries hd rfl ?_))
  simp only [List.size_toArray, List.length_nil, placesWithHash, List.range_zero, List.filter_nil, List.filterMap_nil, List.all_cons, List.all_nil, carriedByValue, Bool.false_and, Bool.false_eq_true, if_false, List.any_toArray, List.any_nil]
  rw [if_neg (by simp)]
  exact wpAny_of_eq (a := none) (by rfl) h
theorem dget_empty {n : Nat} {dflt : Value} {Q : Value → Shared → Prop} (hu : A.units + 1 < cLine) (X : K.In s.heap) (I : InstAt s.heap x ox C od) (hs : findIn K (.ref C) "__hash__" = some (some (.ref f))) (hf : isFn K (.ref f) = true)
    (hd : s.heap.get? d = some (dictOf [] n)) (hy : (d == sysModules) = false)
    (h : wpAny (model prog w) A.in1 (call (.ref f) [.ref x]) (fun v s' => ∃ i t, v = .int i t ∧ s'.heap.get? d = some (dictOf [] n) ∧ Q dflt s') E s) :
    wpAny (model prog w) A (call (.builtin "dict.get") [.ref d, .ref x, dflt]) Q E s := by
  have hT : s.TypeIs (.ref d) "dict" := ⟨_, hd, rfl⟩
  refine wpAny_call_entry F.slot_dict_get hT F.entry_dict_get ?_ (F.args_dict_get_3 _ _ _)
  show wpAny _ _ (dictGet d (.ref x) >>= _) _ _ s
  refine wpAny_bind ?_
  unfold dictGet
  refine wpAny_holding (wpAny_bind (pyHash_own (A := A.in1) (by show A.units + 1 < cLine; exact hu) X I hs hf (wpAny_mono h (fun v s' hv => ?_) fun _ _ z => z)))
  obtain ⟨i, t, rfl, hd', hq⟩ := hv
  refine ⟨i, t, rfl, fun j => ?_⟩
  refine wpAny_bind (dictFind_nil hd' (wpAny_pure ?_))
  refine wpAny_bind (wpAny_missed_other hy ?_)
  exact wpAny_pure ⟨_, rfl, hq⟩
theorem dset_empty {n : Nat} {v : Value} {Q : Unit → Shared → Prop} (hu : A.units + 1 < cLine) (X : K.In s.heap) (I : InstAt s.heap x ox C od) (hs : findIn K (.ref C) "__hash__" = some (some (.ref f))) (hf : isFn K (.ref f) = true)
    (hd : s.heap.get? d = some (dictOf [] n))
    (h : wpAny (model prog w) A.in1 (call (.ref f) [.ref x]) (fun r s' => ∃ i t, r = .int i t ∧ s'.heap.get? d = some (dictOf [] n) ∧
      ∀ j h', h'.get? d = some (dictOf [⟨j, .ref x, v⟩] (n + 1)) → Heap.SameBut d s'.heap h' → Q () { s' with heap := h' }) E s) :
    wpAny (model prog w) A (setItem (.ref d) (.ref x) v) Q E s := by
  have hT : s.TypeIs (.ref d) "dict" := ⟨_, hd, rfl⟩
  unfold setItem
  try with_reducible refine wpAny_holding ?_
  refine wpAny_bind (wpAny_sequenceKey hT (by decide) ?_)
  refine wpAny_bind (wpAny_callSpecial?_slot (name := Str.ofString "__setitem__") hT slot_dict_setitem
    (wpAny_call_entry slot_dict_setitem hT entry_dict_setitem ?_ (args_dict_setitem _ _ _)))
  show wpAny _ _ (Builtin.Dict.notOrdered "__setitem__" ⟨[.ref d, .ref x, v], []⟩ >>= _) _ _ s
  refine wpAny_bind (wpAny_notOrdered_dict hT ?_)
  show wpAny _ _ (dictSet d (.ref x) v >>= _) _ _ s
  refine wpAny_bind ?_
  unfold dictSet
  refine wpAny_holding (wpAny_bind (pyHash_own (A := A.in1) (by show A.units + 1 < cLine; exact hu) X I hs hf (wpAny_mono h (fun r s' hr => ?_) fun _ _ z => z)))
  obtain ⟨i, t, rfl, hd', hq⟩ := hr
  refine ⟨i, t, rfl, fun j => ?_⟩
  unfold dictSetHashed
  refine wpAny_holding (wpAny_bind (dictFind_nil hd' ?_))
  refine wpAny_bind (wpAny_rule ?_)
  refine wpAny_updateDictKeys (hz := Nat.zero_le _) hd' rfl ?_
  have hf' : (Obj.mapDictKeys (fun x_1 => x_1.push ⟨j, Value.ref x, v⟩) (dictOf [] n)) = dictOf [⟨j, .ref x, v⟩] (n + 1) := rfl
  have hg : (s'.heap.update d (Obj.mapDictKeys fun x_1 => x_1.push ⟨j, Value.ref x, v⟩)).get? d = some (dictOf [⟨j, .ref x, v⟩] (n + 1)) := by
    have := Heap.get?_update_self (Obj.mapDictKeys fun x_1 => x_1.push ⟨j, Value.ref x, v⟩) hd' rfl
    rw [this, hf']
  exact wpAny_pure ⟨_, rfl, wpAny_pure (hq j _ hg (Heap.SameBut.update ..))⟩
end
section
variable {prog : Program} {w : World} {A : Around} {E : Value → Shared → Prop} {s : Shared} {it d : Addr} {e : DictEntry} {n : Nat} {ok ov : Value}
/-- the items of a dict of one entry, whatever its key: the one pair -/
theorem items1_next {Q : Option Value → Shared → Prop} (hd : s.heap.get? d = some (dictOf [e] n)) (hit : IsItemIter s.heap it d 0 1 n ok ov)
    (hQ : ∀ h', IsItemIterOut h' it d 1 1 n e.key e.val s.heap.objs.size → h'.get? s.heap.objs.size = some { cls := .type "tuple", data := .seq #[e.key, e.val] } → h'.objs.size = s.heap.objs.size + 1 →
      (∀ b o, b ≠ it → s.heap.get? b = some o → h'.get? b = some o) → Q (some (.ref s.heap.objs.size)) { s with heap := h' }) :
    wpAny (model prog w) A (pyNext (.ref it)) Q E s := by
  obtain ⟨hp, g, dr, tk, os⟩ := s
  have hT : Shared.TypeIs ⟨hp, g, dr, tk, os⟩ (.ref it) "dict_itemiterator" := ⟨_, hit, rfl⟩
  have hown : Builtin.Dict_items.ownsTuple "dict_itemiterator" = true := by decide
  unfold pyNext
  refine wpAny_bind (wpAny_attempt (wpAny_callSpecial?_slot (name := Str.ofString "__next__") hT F.slot_dict_itemiterator_next
    (wpAny_call_entry F.slot_dict_itemiterator_next hT F.entry_dict_itemiterator_next ?_ (F.args_dict_itemiterator_next_1 _))))
  refine wpAny_bind (wpAny_pure (wpAny_bind (wpAny_bind ?_)))
  first | refine wpAny_bind (wpAny_typeNameOfWhole_itemiter hT (wpAny_pure ?_)) | refine wpAny_bind (wpAny_typeNameOf_itemiter hT (wpAny_pure ?_))
  refine wpAny_bind (wpAny_fieldsOf hit rfl ?_)
  simp only [hown, if_true]
  show wpAny _ _ (if (Value.ref d == Value.none) = true then _ else _) _ _ _
  rw [if_neg (show ¬ ((Value.ref d == Value.none) = true) from Bool.false_ne_true)]
  refine wpAny_bind (wpAny_pure (wpAny_bind (wpAny_dictEntries hd rfl ?_)))
  rw [if_neg (by simp)]
  refine wpAny_bind (wpAny_pure (wpAny_bind (wpAny_dictEpoch hd rfl ?_)))
  rw [if_neg (by simp)]
  refine wpAny_pure ?_
  simp only [show ¬ ((0 : Int) < 0) from by omega, if_false, Int.toNat_zero, Int.natCast_zero, List.getElem?_toArray, List.getElem?_cons_zero]
  refine wpAny_bind ?_
  first | refine wpAny_bind (wpAny_typeNameOfWhole_itemiter hT (wpAny_pure ?_)) | refine wpAny_bind (wpAny_typeNameOf_itemiter hT (wpAny_pure ?_))
  refine wpAny_bind (wpAny_isOneOf_itemiter hT ?_)
  show wpAny _ _ (setField (.ref it) 3 (rawInt (0 + 1)) >>= _) _ _ ⟨hp, g, dr, tk, os⟩
  refine wpAny_bind (wpAny_setField_rec hit (by simp) fun h₁ he₁ hs₁ => ?_)
  replace hs₁ : Heap.SameBut it hp h₁ := hs₁
  replace he₁ : IsItemIter h₁ it d 1 1 n ok ov := he₁
  have hT₁ : Shared.TypeIs ⟨h₁, g, dr, tk, os⟩ (.ref it) "dict_itemiterator" := ⟨_, he₁, rfl⟩
  refine wpAny_bind (wpAny_holding (wpAny_bind (wpAny_isOneOf_itemiter hT₁ (wpAny_bind (wpAny_isOneOf_itemiter hT₁ ?_)))))
  show wpAny _ _ (Builtin.Dict_items.pairFromOwner (.ref it) 6 e.key e.val) _ _ ⟨h₁, g, dr, tk, os⟩
  unfold Builtin.Dict_items.pairFromOwner
  refine wpAny_bind (wpAny_newTuple ?_)
  have he₂ : IsItemIter (h₁.push { cls := .type "tuple", data := .seq #[e.key, e.val] }) it d 1 1 n ok ov := Heap.get?_push_of_some _ he₁
  have hz₁ : h₁.objs.size = hp.objs.size := hs₁.1
  have hil : it < hp.objs.size := Heap.lt_size hit
  have ht₂ : (h₁.push { cls := .type "tuple", data := .seq #[e.key, e.val] }).get? hp.objs.size = some { cls := .type "tuple", data := .seq #[e.key, e.val] } := by rw [← hz₁]; exact Heap.get?_push_size _ rfl
  have hz₂ : (h₁.push { cls := .type "tuple", data := .seq #[e.key, e.val] }).objs.size = hp.objs.size + 1 := by rw [Heap.size_push, hz₁]
  have hk₂ : ∀ b o, b ≠ it → hp.get? b = some o → (h₁.push { cls := .type "tuple", data := .seq #[e.key, e.val] }).get? b = some o := fun b o hb q => Heap.get?_push_of_some _ (hs₁.extBut b o hb q)
  show wpAny _ _ (Builtin.Dict_items.ownedTupleIsFree (.ref it) >>= _) _ _ ⟨h₁.push _, g, dr, tk, os⟩
  generalize h₁.push { cls := .type "tuple", data := .seq #[e.key, e.val] } = h₂ at he₂ ht₂ hz₂ hk₂
  rw [hz₁]
  clear he₁ hs₁ hT₁ hz₁ h₁
  refine wpAny_bind ?_
  unfold Builtin.Dict_items.ownedTupleIsFree
  refine wpAny_bind (wpAny_field he₂ rfl (x := .none) rfl (wpAny_pure ?_))
  simp only [if_true]
  refine wpAny_bind (wpAny_field he₂ rfl (x := ok) rfl (wpAny_bind (wpAny_field he₂ rfl (x := ov) rfl ?_)))
  refine wpAny_bind (wpAny_setField_rec he₂ (by simp) fun h₃ he₃ hs₃ => ?_)
  replace hs₃ : Heap.SameBut it h₂ h₃ := hs₃
  replace he₃ : IsItemIter h₃ it d 1 1 n e.key ov := he₃
  refine wpAny_bind (wpAny_setField_rec he₃ (by simp) fun h₄ he₄ hs₄ => ?_)
  replace hs₄ : Heap.SameBut it h₃ h₄ := hs₄
  replace he₄ : IsItemIter h₄ it d 1 1 n e.key e.val := he₄
  refine wpAny_bind (wpAny_setField_rec he₄ (by simp) fun h₅ he₅ hs₅ => ?_)
  replace hs₅ : Heap.SameBut it h₄ h₅ := hs₅
  replace he₅ : IsItemIterOut h₅ it d 1 1 n e.key e.val hp.objs.size := he₅
  refine wpAny_bind (wpAny_setField_rec he₅ (by simp) fun h₆ he₆ hs₆ => ?_)
  replace hs₆ : Heap.SameBut it h₅ h₆ := hs₆
  replace he₆ : IsItemIterOut h₆ it d 1 1 n e.key e.val hp.objs.size := he₆
  have up : ∀ b o, b ≠ it → h₂.get? b = some o → h₆.get? b = some o := fun b o hb q => hs₆.extBut b o hb (hs₅.extBut b o hb (hs₄.extBut b o hb (hs₃.extBut b o hb q)))
  have hz₆ : h₆.objs.size = hp.objs.size + 1 := by rw [hs₆.1, hs₅.1, hs₄.1, hs₃.1, hz₂]
  exact wpAny_bind (wpAny_letGo (wpAny_pure (wpAny_pure ⟨_, rfl, wpAny_pure (hQ h₆ he₆ (up _ _ (Nat.ne_of_gt hil) ht₂) hz₆ fun b o hb q => up b o hb (hk₂ b o hb q))⟩)))
theorem items1_end {Q : Option Value → Shared → Prop} (hh : A.handled = none) (hd : s.heap.get? d = some (dictOf [e] n)) (hit : IsItemIter s.heap it d 1 1 n ok ov)
    (hQ : ∀ h', Heap.ExtBut it s.heap h' → Q none { s with heap := h' }) : wpAny (model prog w) A (pyNext (.ref it)) Q E s := by
  have hT : s.TypeIs (.ref it) "dict_itemiterator" := ⟨_, hit, rfl⟩
  have hown : Builtin.Dict_items.ownsTuple "dict_itemiterator" = true := by decide
  unfold pyNext
  refine wpAny_bind (wpAny_attempt (wpAny_callSpecial?_slot (name := Str.ofString "__next__") hT F.slot_dict_itemiterator_next
    (wpAny_call_entry F.slot_dict_itemiterator_next hT F.entry_dict_itemiterator_next ?_ (F.args_dict_itemiterator_next_1 _))))
  refine wpAny_bind (wpAny_pure (wpAny_bind (wpAny_bind ?_)))
  first | refine wpAny_bind (wpAny_typeNameOfWhole_itemiter hT (wpAny_pure ?_)) | refine wpAny_bind (wpAny_typeNameOf_itemiter hT (wpAny_pure ?_))
  refine wpAny_bind (wpAny_fieldsOf hit rfl ?_)
  simp only [hown, if_true]
  show wpAny _ _ (if (Value.ref d == Value.none) = true then _ else _) _ _ s
  rw [if_neg (show ¬ ((Value.ref d == Value.none) = true) from Bool.false_ne_true)]
  refine wpAny_bind (wpAny_pure (wpAny_bind (wpAny_dictEntries hd rfl ?_)))
  rw [if_neg (by simp)]
  refine wpAny_bind (wpAny_pure (wpAny_bind (wpAny_dictEpoch hd rfl ?_)))
  rw [if_neg (by simp)]
  refine wpAny_pure ?_
  simp only [show ¬ ((1 : Int) < 0) from by omega, if_false, show (1 : Int).toNat = 1 from rfl, show ((1 : Nat) : Int) = 1 from rfl, List.getElem?_toArray, List.getElem?_cons_succ, List.getElem?_nil]
  refine wpAny_bind ?_
  first | refine wpAny_bind (wpAny_typeNameOfWhole_itemiter hT (wpAny_pure ?_)) | refine wpAny_bind (wpAny_typeNameOf_itemiter hT (wpAny_pure ?_))
  show wpAny _ _ (setField (.ref it) 2 .none >>= _) _ _ s
  refine wpAny_bind (wpAny_setField hit rfl (by simp) ?_)
  show wpAny _ _ (newExc (.type "StopIteration") [] >>= _) _ _ _
  refine wpAny_bind ?_
  simp only [newExc, newTuple]
  refine wpAny_bind (wpAny_newObj_type ?_ (by size_fits))
  refine wpAny_bind (m := firstArgMember _ _) (wpAny_of_eq (a := Value.none) (by first | rfl | (simp only [firstArgMember]; rfl)) ?_)
  refine wpAny_newObj_type ?_ (by size_fits)
  simp only [raiseNew]
  refine wpAny_bind (wpAny_handled ?_)
  rw [show A.in1.handled = none from hh]
  refine wpAny_bind (wpAny_pure (wpAny_throw ?_))
  refine wpAny_bind (wpAny_isInstance (T := "StopIteration") (b := true) ⟨_, Heap.get?_push_size _ rfl, rfl⟩ isSubtype_stop ?_)
  exact wpAny_pure (hQ _ (((Heap.SameBut.update ..).extBut.push _).push _))
theorem items1_iter {v : Addr} {Q : Value → Shared → Prop} (hv : s.heap.IsItemsView v d) (hd : s.heap.get? d = some (dictOf [e] n))
    (hQ : Q (.ref s.heap.objs.size) { s with heap := s.heap.push { cls := .type "dict_itemiterator", data := .fields #[.none, .bool false, .ref d, .int 0 0, .int 1 0, .int n 0, .none, .none] } }) :
    wpAny (model prog w) A (pyIter (.ref v)) Q E s := by
  obtain ⟨ov, hov, hcv, hdv⟩ := id hv
  have hown : Builtin.Dict_items.ownsTuple "dict_itemiterator" = true := by decide
  refine wpAny_pyIter_slot hv.typeIs F.slot_dict_items_iter (wpAny_call_entry F.slot_dict_items_iter hv.typeIs F.entry_dict_items_iter ?_ (F.args_dict_items_iter_1 _))
  unfold Builtin.«dict_items.__iter__»
  refine wpAny_bind (wpAny_pure (wpAny_bind ?_))
  unfold Builtin.Dict_items.dictOf
  refine wpAny_bind (wpAny_field hov hdv (x := .ref d) rfl (wpAny_pure (wpAny_bind ?_)))
  unfold Builtin.Dict_items.newIterator
  refine wpAny_bind (wpAny_dictEntries hd rfl (wpAny_bind (wpAny_dictEpoch hd rfl ?_)))
  simp only [hown, if_true]
  refine wpAny_newObj_type (wpAny_pure ⟨_, rfl, "dict_itemiterator", _, ⟨_, Heap.get?_push_size _ rfl, rfl⟩, F.slot_dict_itemiterator_next.lookup, ?_⟩)
    (by simp only [sizeOk, Builtin.Dict_items.ownedTupleFields, List.size_toArray, List.length_append, List.length_cons, List.length_nil, sizeLine_eq]; omega)
  simpa [rawInt, Builtin.Dict_items.ownedTupleFields] using hQ
theorem items1_call {Q : Value → Shared → Prop} {es : List DictEntry} (hd : s.heap.get? d = some (dictOf es n)) (hy : (d == sysModules) = false)
    (hQ : Q (.ref s.heap.objs.size) { s with heap := s.heap.push { cls := .type "dict_items", data := .fields #[.ref d] } }) :
    wpAny (model prog w) A (call (.builtin "dict.items") [.ref d]) Q E s := by
  have hT : s.TypeIs (.ref d) "dict" := ⟨_, hd, rfl⟩
  refine wpAny_call_entry F.slot_dict_items hT F.entry_dict_items ?_ (F.args_dict_items_1 _)
  unfold Builtin.«dict.items»
  refine wpAny_bind ?_
  unfold Builtin.Dict.noArgs
  refine wpAny_bind (wpAny_notOrdered_dict hT ?_)
  show wpAny _ _ (pure d) _ _ s
  refine wpAny_pure ?_
  show wpAny _ _ (Builtin.Dict.showsAll d >>= _) _ _ s
  unfold Builtin.Dict.showsAll
  rw [if_neg (by rw [hy]; exact Bool.false_ne_true)]
  exact wpAny_bind (wpAny_pure (wpAny_bind (wpAny_newObj_type (wpAny_pure ⟨_, rfl, hQ⟩))))
theorem dict_method {name : Str} {id : String} {pl : Sem Bool} {es : List DictEntry} {Q : Value × List Value → Shared → Prop} (slot : Slot "dict" name id) (hty : typeOf (.builtin id) = pure (.type "method_descriptor"))
    (hd : s.heap.get? d = some (dictOf es n)) (h : Q (.builtin id, [.ref d]) s) : wpAny (model prog w) A (getMethod (.ref d) name pl) Q E s :=
  getMethod_builtin (T := "dict") ⟨_, hd, rfl⟩ F.plainAttrs_dict slot hty (by intro o ho; cases ho; exact ⟨_, hd, rfl⟩) h
theorem dict_new {h₀ : Heap} {L : Addr} {m : Str → Option Value} {news : Led} {env : Env} {pos : Pos} {Q : Value → Shared → Prop} (F : Fr h₀ L s.heap m) (N : News h₀ L s.heap news) (hbig : h₀.NoLimit)
    (k : ∀ d h', Fr h₀ L h' m → News h₀ L h' ((d, dictOf [] 0) :: news) → (∀ p ∈ news, p.1 < d) → (d == sysModules) = false → Q (.ref d) { s with heap := h' }) : wpAny (model prog w) A (eval (.Dict [] [] pos) env) Q E s :=
  wpAny_Dict_empty (k _ _ (F.push _) (News.push F N _) (fun p hp => Heap.lt_size (N p hp).1) (F.notModules (modules_low hbig)))
end
section
open LCg
variable {prog : Program} {w : World} {A : Around} {E : Value → Shared → Prop} {s : Shared} {h₀ : Heap} {L : Addr} {m : Str → Option Value} {env : Env}
/-- the one turn of a comprehension over the items of a dict of one entry, with a test -/
def Turn1 (prog : Program) (w : World) (A : Around) (h₀ : Heap) (L : Addr) (m : Str → Option Value) (env : Env) (c elt : PySem.Expr) (a b : Str) (scope : Scope) (cl : List (Str × Addr)) (s : Shared) (d : Addr) (e : DictEntry) (n : Nat) (Fin : List Value → Led → Prop) (news : Led) : Prop :=
  ∀ I oI C oC D m₂ h tk (E' : Value → Shared → Prop), NsObj oC m₂ → m₂ a = some e.key → m₂ b = some e.val → Fr h₀ L h m → News h₀ L h ((I, oI) :: (C, oC) :: (D, lst []) :: news) → Off3 I C D news → (∀ p ∈ news, p.1 < I) → ((@LT.lt Nat _ I D) ∧ (@LT.lt Nat _ D C)) →
    wpAny (model prog w) A (isTrue c (compEnvC scope cl C env) (eval c (compEnvC scope cl C env))) (fun okb s₃ => if okb = true then
      wpAny (model prog w) A (eval elt (compEnvC scope cl C env)) (CompEnd h₀ L m { s with heap := h, toks := tk } I oI C oC D (lst []) (fun nw => (d, dictOf [e] n) ∈ nw) (fun y news' => Fin [y] news')) E' s₃
      else CompEnd h₀ L m { s with heap := h, toks := tk } I oI C oC D (lst []) (fun nw => (d, dictOf [e] n) ∈ nw) (fun _ news' => Fin [] news') .none s₃) E' { s with heap := h, toks := tk }
theorem items1_block {elt iter c : PySem.Expr} {a b : Str} {pa pb tp : Pos} {kk : Nat} {scope : Scope} {cl : List (Str × Addr)} {pos : Pos} {s₂ : Shared} {I d : Addr} {e : DictEntry} {n : Nat} {ok ov : Value} {news : Led}
    {Fin : List Value → Led → Prop} {RR : Value → Addr → Result → Shared → Prop}
    (hh : A.handled = none) (hne : d ≠ I) (hit : IsItemIter s₂.heap I d 0 1 n ok ov) (hdm : (d, dictOf [e] n) ∈ news)
    (hcell : ∀ y ∈ scope.names, y.2 ≠ .cell) (hkind : scope.kind = .function) (hxa : scope.names.lookup a = some .local) (hxb : scope.names.lookup b = some .local) (hab : ¬ a = b)
    (F : Fr h₀ L s₂.heap m) (N : News h₀ L s₂.heap news) (hIL : L ≠ I) (hI₀ : h₀.get? I = none) (off : ∀ p ∈ news, p.1 < I)
    (R : Turn1 prog w A h₀ L m env c elt a b scope cl s₂ d e n Fin news)
    (hRR : ∀ D C h tk m' ys news', Fr h₀ L h m → News h₀ L h ((D, lst ys) :: news') → Off1 D news' → h.Ns C m' → h₀.get? C = none → h₀.get? D = none → C ≠ L → D ≠ L → C ≠ D → (∀ p ∈ news', p.1 ≠ C) → Fin ys news' → RR (.ref D) C (.ok .next) { s₂ with heap := h, toks := tk }) :
    wpAny (model prog w) A (newList []) (fun acc s₃ => wpAny (model prog w) A (newFunctionEnv scope env.globals cl [] env.qual none .none (some env)) (fun cenv s₄ =>
      codeAny (model prog w) A (.compStart (.ListComp elt [⟨.Tuple [.Name a pa, .Name b pb] kk tp, iter, [c], 0⟩] scope pos) 0 (.ref I) acc { cenv with scope := relabel scope env }) (RR acc cenv.locals) s₄) E s₃) E s₂ := by
  refine wpAny_newObj_type (wpAny_newFunctionEnv hcell (by intro y hy; simp at hy) (fun h₁ hns₁ hsb₁ => ?_) hkind)
  dsimp only at hns₁ hsb₁ ⊢
  generalize hH2 : s₂.heap.push { cls := .type "list", dict := none, data := .seq ([] : List Value).toArray } = H2 at hns₁ hsb₁ ⊢
  have hC : H2.objs.size = s₂.heap.objs.size + 1 := by rw [← hH2, Heap.size_push]
  have hDC' : s₂.heap.objs.size < H2.objs.size := by rw [hC]; exact Nat.lt_succ_self _
  have hDC : s₂.heap.objs.size ≠ H2.objs.size := Nat.ne_of_lt hDC'
  have hIlt : I < s₂.heap.objs.size := Heap.lt_size hit
  have hLlt : L < s₂.heap.objs.size := F.ns.lt
  have old : ∀ q o, s₂.heap.get? q = some o → h₁.get? q = some o := fun q o z => hsb₁.extBut q o (Nat.ne_of_lt (Nat.lt_trans (Heap.lt_size z) hDC')) (Heap.get?_push_of_some _ (hH2 ▸ Heap.get?_push_of_some _ z))
  have hacc : h₁.get? s₂.heap.objs.size = some (lst []) := hsb₁.extBut _ _ hDC (Heap.get?_push_of_some _ (hH2 ▸ Heap.get?_push_size _ rfl))
  have fresh₀ : ∀ q, s₂.heap.objs.size ≤ q → h₀.get? q = none := fun q hq => by
    cases z : h₀.get? q with
    | none => rfl
    | some o' => exact absurd (Heap.lt_size (F.keep q o' z)) (Nat.not_lt.mpr hq)
  have hD₀ : h₀.get? s₂.heap.objs.size = none := fresh₀ _ (Nat.le_refl _)
  have hC₀ : h₀.get? H2.objs.size = none := fresh₀ _ (Nat.le_of_lt hDC')
  have hDL : s₂.heap.objs.size ≠ L := Nat.ne_of_gt hLlt
  have hCL : H2.objs.size ≠ L := Nat.ne_of_gt (Nat.lt_trans hLlt hDC')
  have hCI : I ≠ H2.objs.size := Nat.ne_of_lt (Nat.lt_trans hIlt hDC')
  have hDI : I ≠ s₂.heap.objs.size := Nat.ne_of_lt hIlt
  have hlt : ∀ p ∈ news, p.1 < s₂.heap.objs.size := fun p hp => Heap.lt_size (N p hp).1
  have off₀ : Off3 I H2.objs.size s₂.heap.objs.size news := Off3.of fun p hp => ⟨Nat.ne_of_lt (off p hp), Nat.ne_of_lt (Nat.lt_trans (hlt p hp) hDC'), Nat.ne_of_lt (hlt p hp)⟩
  have loop : ∀ s₃ : Shared, s₃ = { s₂ with heap := h₁, toks := s₂.toks + ([] : List (Str × Value)).length } →
      codeAny (model prog w) A (.compLoop (.ListComp elt [⟨.Tuple [.Name a pa, .Name b pb] kk tp, iter, [c], 0⟩] scope pos) 0 (.ref I) (.ref s₂.heap.objs.size) (compEnvC scope cl H2.objs.size env))
        (RR (.ref s₂.heap.objs.size) H2.objs.size) s₃ := by
    rintro s₃ rfl
    refine kct_loop
      (fun k s' => (k = 2 ∧ ∃ h' tk m', s' = { s₂ with heap := h', toks := tk } ∧ (∃ ok ov, IsItemIter h' I d 0 1 n ok ov) ∧ Fr h₀ L h' m ∧ h'.Ns H2.objs.size m' ∧ News h₀ L h' ((s₂.heap.objs.size, lst []) :: news)) ∨
        (k = 1 ∧ ∃ h' tk ys m' news', s' = { s₂ with heap := h', toks := tk } ∧ (∃ ok ov, IsItemIter h' I d 1 1 n ok ov) ∧ Fr h₀ L h' m ∧ h'.Ns H2.objs.size m' ∧ News h₀ L h' ((s₂.heap.objs.size, lst ys) :: news') ∧
          Off3 I H2.objs.size s₂.heap.objs.size news' ∧ (d, dictOf [e] n) ∈ news' ∧ Fin ys news')) ?_ 2
      (.inl ⟨rfl, h₁, _, _, rfl, ⟨_, _, old _ _ hit⟩, F.keeps old, hns₁, fun p hp => ?_⟩)
    · rintro k s' (⟨rfl, h', tk, m', rfl, ⟨ok', ov', hit'⟩, F', hn', N'⟩ | ⟨rfl, h', tk, ys, m', news', rfl, ⟨ok', ov', hit'⟩, F', hn', N', off', hd', fin⟩)
      · have hdh : h'.get? d = some (dictOf [e] n) := (N' _ (List.mem_cons_of_mem _ hdm)).1
        refine items1_next hdh hit' fun h₂ ho ht hz hk => ?_
        refine wpAny_letOwnedTupleGo_items ho fun h₃ hi₃ hs₃ => ?_
        have hTI : h'.objs.size ≠ I := Nat.ne_of_gt (Heap.lt_size hit')
        have hT : h₃.IsTuple h'.objs.size #[e.key, e.val] := ⟨_, hs₃.extBut _ _ hTI ht, rfl, _, rfl⟩
        have up₃ : ∀ q o, q ≠ I → h'.get? q = some o → h₃.get? q = some o := fun q o hq z => hs₃.extBut q o hq (hk q o hq z)
        refine kcp_assign (env := compEnvC scope cl H2.objs.size env) hh hT (lookup_relabel_local hxa) (lookup_relabel_local hxb) (by simp [compEnvC, relabel, hkind]) (hn'.at' fun o z => up₃ _ o (Ne.symm hCI) z) fun h₄ tk₄ hn₄ hs₄ => ?_
        have up : ∀ q o, q ≠ I → q ≠ H2.objs.size → h'.get? q = some o → h₄.get? q = some o := fun q o h1 h2 z => hs₄ q o h2 (up₃ q o h1 z)
        have hI₄ : IsItemIter h₄ I d 1 1 n e.key e.val := hs₄ I _ hCI hi₃
        obtain ⟨oC, heC, hoC⟩ := ns_obj hn₄
        have F₄ : Fr h₀ L h₄ m := ⟨F'.ns.at' fun o z => up _ o hIL (Ne.symm hCL) z, fun q o z => up q o (fun y => by rw [y, hI₀] at z; cases z) (fun y => by rw [y, hC₀] at z; cases z) (F'.keep q o z), F'.above⟩
        have N₄ : News h₀ L h₄ ((I, _) :: (H2.objs.size, oC) :: (s₂.heap.objs.size, lst []) :: news) := fun q hq => by
          rcases List.mem_cons.mp hq with rfl | hq
          · exact ⟨hI₄, Ne.symm hIL, hI₀⟩
          rcases List.mem_cons.mp hq with rfl | hq
          · exact ⟨heC, hCL, hC₀⟩
          have z := N' q hq
          refine ⟨up _ _ ?_ ?_ z.1, z.2⟩
          · rcases List.mem_cons.mp hq with rfl | hq
            · exact Ne.symm hDI
            · exact Nat.ne_of_lt (off q hq)
          · rcases List.mem_cons.mp hq with rfl | hq
            · exact hDC
            · exact Nat.ne_of_lt (Nat.lt_trans (hlt q hq) hDC')
        have fin : ∀ (ys : List Value) (h₅ : Heap) (tk₅ : Nat) (news₅ : Led), Fr h₀ L h₅ m → News h₀ L h₅ ((I, { cls := .type "dict_itemiterator", dict := none, data := .fields #[.none, .bool false, .ref d, .int (1 : Nat) 0, .int (1 : Nat) 0, .int n 0, e.key, e.val], slots := #[] }) :: (H2.objs.size, oC) :: (s₂.heap.objs.size, lst ys) :: news₅) →
            Off3 I H2.objs.size s₂.heap.objs.size news₅ → (d, dictOf [e] n) ∈ news₅ → Fin ys news₅ →
            ∃ q', q' < 2 ∧ ((q' = 2 ∧ ∃ h' tk m', ({ s₂ with heap := h₅, toks := tk₅ } : Shared) = { s₂ with heap := h', toks := tk } ∧ (∃ ok ov, IsItemIter h' I d 0 1 n ok ov) ∧ Fr h₀ L h' m ∧ h'.Ns H2.objs.size m' ∧ News h₀ L h' ((s₂.heap.objs.size, lst []) :: news)) ∨
              (q' = 1 ∧ ∃ h' tk ys m' news', ({ s₂ with heap := h₅, toks := tk₅ } : Shared) = { s₂ with heap := h', toks := tk } ∧ (∃ ok ov, IsItemIter h' I d 1 1 n ok ov) ∧ Fr h₀ L h' m ∧ h'.Ns H2.objs.size m' ∧ News h₀ L h' ((s₂.heap.objs.size, lst ys) :: news') ∧
                Off3 I H2.objs.size s₂.heap.objs.size news' ∧ (d, dictOf [e] n) ∈ news' ∧ Fin ys news')) := by
          intro ys h₅ tk₅ news₅ F₅ N₅ off₅ hd₅ fin₅
          exact ⟨1, by omega, .inr ⟨rfl, h₅, tk₅, ys, _, news₅, rfl, ⟨_, _, (N₅ _ List.mem_cons_self).1⟩, F₅, hoC.ns (N₅ (H2.objs.size, oC) (List.mem_cons_of_mem _ List.mem_cons_self)).1,
            fun q hq => N₅ q (List.mem_cons_of_mem _ (List.mem_cons_of_mem _ hq)), off₅, hd₅, fin₅⟩⟩
        refine wpAny_mono (R I _ H2.objs.size oC s₂.heap.objs.size _ h₄ tk₄ _ hoC (by simp [hab]) (by simp) F₄ N₄ off₀ off ⟨hIlt, hDC'⟩) (fun okb s₅ h₅ => ?_) fun _ _ z => z
        cases okb with
        | false =>
          simp only [Bool.false_eq_true, if_false] at h₅ ⊢
          obtain ⟨h₅, tk₅, news₅, rfl, F₅, N₅, off₅, hS₅, R₅⟩ := h₅
          exact fin [] h₅ tk₅ news₅ F₅ N₅ off₅ hS₅ R₅
        | true =>
          simp only [if_true] at h₅ ⊢
          refine wpAny_mono h₅ (fun y s₆ h₆ => ?_) fun _ _ z => z
          obtain ⟨h₅, tk₅, news₅, rfl, F₅, N₅, off₅, hS₅, R₅⟩ := h₆
          have zI := (N₅ _ List.mem_cons_self).1
          have zC := (N₅ _ (List.mem_cons_of_mem _ List.mem_cons_self)).1
          have zD := (N₅ (s₂.heap.objs.size, lst []) (List.mem_cons_of_mem _ (List.mem_cons_of_mem _ List.mem_cons_self))).1
          have N₅' : News h₀ L h₅ news₅ := fun q hq => N₅ q (List.mem_cons_of_mem _ (List.mem_cons_of_mem _ (List.mem_cons_of_mem _ hq)))
          refine append_at (hsz := Nat.zero_le _) zD fun h₆ hs₆ hD₆ => ?_
          have off5 := off₅.mem
          refine fin [y] h₆ _ news₅ (F₅.change hs₆ hDL hD₀) (fun q hq => ?_) off₅ hS₅ R₅
          rcases List.mem_cons.mp hq with rfl | hq
          · exact ⟨hs₆.extBut I _ hDI zI, Ne.symm hIL, hI₀⟩
          rcases List.mem_cons.mp hq with rfl | hq
          · exact ⟨hs₆.extBut _ oC (Ne.symm hDC) zC, hCL, hC₀⟩
          rcases List.mem_cons.mp hq with rfl | hq
          · exact ⟨hD₆.trans (congrArg some (lst_snoc [] y)), hDL, hD₀⟩
          · exact ⟨hs₆.extBut _ _ (off5 q hq).2.2 (N₅' q hq).1, (N₅' q hq).2⟩
      · have hdh : h'.get? d = some (dictOf [e] n) := (N' _ (List.mem_cons_of_mem _ hd')).1
        have off3 := off'.mem
        refine items1_end hh hdh hit' fun h₂ hk₂ => ?_
        have hk₃ : ∀ q o, q ∉ [I] → h'.get? q = some o → h₂.get? q = some o := fun q o hq z => hk₂ q o (by simpa using hq) z
        exact hRR _ _ h₂ tk _ ys news' (fr_but F' hk₃ hIL hI₀) (news_but N' hk₃ fun p hp => by
          rcases List.mem_cons.mp hp with rfl | hp
          · exact Ne.symm hDI
          · exact (off3 p hp).1) off'.one (hn'.at' fun o z => hk₃ _ o (by simpa using Ne.symm hCI) z) hC₀ hD₀ hCL hDL (Ne.symm hDC) (fun p hp => (off3 p hp).2.1) fin
    · rcases List.mem_cons.mp hp with rfl | hp
      · exact ⟨hacc, hDL, hD₀⟩
      · exact ⟨old _ _ (N p hp).1, (N p hp).2⟩
  exact codeAny_compStart_list (loop _ rfl) (kcp_self (old _ _ hit) (loop _ rfl))
theorem Assign_items1 {elt iter c : PySem.Expr} {a b y : Str} {pa pb tp py : Pos} {kk : Nat} {scope : Scope} {cl : List (Str × Addr)} {pos spos : Pos} {Q : Flow → Shared → Prop} (F₀ : Fr h₀ L s.heap m) (hLe : env.locals = L)
    (hsw : swapsWith (.ListComp elt [⟨.Tuple [.Name a pa, .Name b pb] kk tp, iter, [c], 0⟩] scope pos) (some (.Name y py)) spos.line env = pure true)
    (hclos : closureFor scope env = pure cl) (hcell : ∀ z ∈ scope.names, z.2 ≠ .cell) (hkind : scope.kind = .function)
    (hnames : ∀ z ∈ scope.names, z.2 = .local → scope.names.lookup z.1 = some .local) (hxa : scope.names.lookup a = some .local) (hxb : scope.names.lookup b = some .local) (hab : ¬ a = b)
    (hy : env.kindOf y = some .local) (hp : (env.scope.kind == .class || (env.scope.kind == .module && env.locals != env.globals)) = false)
    (h : wpAny (model prog w) A (eval iter env) (fun xv s₁ => ∃ vw d e n news, xv = .ref vw ∧ A.handled = none ∧ Fr h₀ L s₁.heap m ∧ News h₀ L s₁.heap news ∧ s₁.heap.IsItemsView vw d ∧ (d, dictOf [e] n) ∈ news ∧
      ∀ g : Heap, Turn1 prog w A h₀ L m env c elt a b scope cl { s₁ with heap := g } d e n (FinA h₀ L m { s₁ with heap := g } y Q) news) E s)
    (hs : ∀ x, foldedSetIterable iter env x = pure x := by intro _; rfl) :
    wpAny (model prog w) A (exec (.Assign [.Name y py] (.ListComp elt [⟨.Tuple [.Name a pa, .Name b pb] kk tp, iter, [c], 0⟩] scope pos) spos) env) Q E s := by
  subst hLe
  rw [exec_Assign_Name_used _ _ _ _ hsw]
  refine wpAny_bind (wpAny_standAt (wpAny_bind ?_))
  show wpAny _ A (do let _ ← comprehension (.ListComp elt [⟨.Tuple [.Name a pa, .Name b pb] kk tp, iter, [c], 0⟩] scope pos) scope env _ (newList []) false (eval iter env) (some (assign (.Name y py) env))) _ _ s
  refine wpAny_bind (wpAny_mono (wpAny_comprehension_free (use := some (assign (.Name y py) env)) (Q := fun _ s' => Q .next s') rfl hs hclos hkind hnames
    (wpAny_mono h (fun xv s₁ h₁ => ?_) fun _ _ e => e)) (fun _ s' hq => wpAny_pure (wpAny_pure hq)) fun _ _ e => e)
  obtain ⟨vw, d, e, n, news, rfl, hh, F, N, hv, hdm, R⟩ := h₁
  refine items1_iter hv (N _ hdm).1 ?_
  refine items1_block hh (Nat.ne_of_lt (Heap.lt_size (N _ hdm).1)) (Heap.get?_push_size _ rfl) hdm hcell hkind hxa hxb hab (F.push _)
    (fun p hp => ⟨Heap.get?_push_of_some _ (N p hp).1, (N p hp).2⟩) (Nat.ne_of_lt F.ns.lt) (next_is_new F) (fun p hp => Heap.lt_size (N p hp).1) (R _) ?_
  intro D C h' tk m' ys news' F' N' o1 hn hC₀ hD₀ hCL hDL hCD offC fin
  show wpAny _ A (assign (.Name y py) env (.ref D)) _ _ _
  refine wpAny_assign_Name (wpAny_storeName_local hy F'.ns (fun h₂ hn₂ hs₂ => ?_) hp)
  have hL₀ : h₀.get? env.locals = none := Heap.get?_none_of_le F'.above
  have F₂ : Fr h₀ env.locals h₂ (fun z => if z = y then some (.ref D) else m z) := ⟨hn₂, fun b o e => hs₂.extBut b o (fun q => by rw [q, hL₀] at e; cases e) (F'.keep b o e), F'.above⟩
  refine ⟨m', hn.sameBut hs₂ hCL, fun h'' hs'' => fin D h'' _ (F₂.change hs'' hCL hC₀) (fun p hp => ?_) o1⟩
  have z : h₂.get? p.1 = some p.2 := hs₂.extBut _ _ (N' p hp).2.1 (N' p hp).1
  refine ⟨hs''.extBut _ _ ?_ z, (N' p hp).2⟩
  rcases List.mem_cons.mp hp with rfl | hp
  · exact Ne.symm hCD
  · exact offC p hp
end
local macro_rules | `(tactic| walk_at "compareOp In") => `(tactic| ((with_reducible show wpAny _ _ (compareOp CmpOp.In (Value.ref _) (Value.ref _)) _ _ _); k_dflt (refine' Mine.in_first ?N ?m ?_; (case N => k_asm); (case m => k_mem); k_whole)))
local macro_rules | `(tactic| walk_at "getAttr ref") => `(tactic| (k_here; (with_reducible show wpAny _ _ (getAttr (Value.ref _) (PySem.Str.ofString "__name__") _) _ _ _); k_dflt (refine' Mine.cname_attr ?F ?X ?k ?s ?t ?r ?e ?_; (case F => k_asm); (case X => k_asm); (case k => k_is); (case s => exact rfl); (case t => k_is); (case r => k_is); (case e => k_is); k_whole); intro _))
local macro_rules | `(tactic| walk_at "call builtin:hash") => `(tactic| ((with_reducible show wpAny _ _ (call (Value.builtin "hash") [Value.str _ _]) _ _ _); k_dflt (refine Mine.call_hash_str ?_; intro _ _)))
local macro_rules | `(tactic| walk_at "eval Dict nil nil") => `(tactic| (k_here; k_dflt (refine' Mine.dict_new ?k1 ?k2 (Top.nolimit (by k_asm)) ?_; (case k1 => k_asm); (case k2 => k_asm); k_whole); intro d' h' F' N' l1 lo'; (try k_lt l1); (try k_sweep)))
local macro_rules | `(tactic| walk_at "getMethod ref") => `(tactic| (k_here; (with_reducible show wpAny _ _ (getMethod (Value.ref _) (PySem.Str.ofString "get") _) _ _ _); k_dflt (refine' Mine.dict_method F.slot_dict_get F.type_dict_get (News.get ?k1 ?k2) ?_; (case k1 => k_asm); (case k2 => k_mem))))
local macro_rules | `(tactic| walk_at "getMethod ref") => `(tactic| (k_here; (with_reducible show wpAny _ _ (getMethod (Value.ref _) (PySem.Str.ofString "items") _) _ _ _); k_dflt (refine' Mine.dict_method F.slot_dict_items F.type_dict_items (News.get ?k1 ?k2) ?_; (case k1 => k_asm); (case k2 => k_mem))))
section
open LCg
variable {prog : Program} {w : World} {A : Around} {E : Value → Shared → Prop} {s : Shared} {h₀ : Heap} {L : Addr} {m : Str → Option Value} {env : Env}
theorem nest_turn0 (elt i1 i2 : PySem.Expr) (x y : Str) (px py : Pos) (scope : Scope) (pos : Pos) (it acc : Value) (env : Env) :
    compTurn (.ListComp elt [⟨.Name x px, i1, [], 0⟩, ⟨.Name y py, i2, [], 0⟩] scope pos) 0 it acc env = (standAt i1.pos >>= fun _ => pyNext it >>= fun r => match r with
      | none => pure (.done .next)
      | some v => assign (.Name x px) env v >>= fun _ =>
        (eval i2 env >>= fun xv => standAt i2.pos >>= fun _ => foldedSetIterable i2 env xv >>= fun xv' => holding [xv'] (pyIter xv') >>= fun it' =>
          runOwn (.compStart (.ListComp elt [⟨.Name x px, i1, [], 0⟩, ⟨.Name y py, i2, [], 0⟩] scope pos) 1 it' acc env) env >>= fun _ =>
          again (.compLoop (.ListComp elt [⟨.Name x px, i1, [], 0⟩, ⟨.Name y py, i2, [], 0⟩] scope pos) 0 it acc env))) := by rfl
theorem nest_turn1 (elt i1 i2 : PySem.Expr) (x y : Str) (px py : Pos) (scope : Scope) (pos : Pos) (it acc : Value) (env : Env) :
    compTurn (.ListComp elt [⟨.Name x px, i1, [], 0⟩, ⟨.Name y py, i2, [], 0⟩] scope pos) 1 it acc env = (standAt i2.pos >>= fun _ => pyNext it >>= fun r => match r with
      | none => pure (.done .next)
      | some v => assign (.Name y py) env v >>= fun _ =>
        (eval elt env >>= fun z => call (.builtin "list.append") [acc, z] >>= fun _ => pure ()) >>= fun _ =>
          again (.compLoop (.ListComp elt [⟨.Name x px, i1, [], 0⟩, ⟨.Name y py, i2, [], 0⟩] scope pos) 1 it acc env)) := by rfl
/-- one turn of the inner loop over a list of one item -/
theorem nest_inner {elt i1 i2 : PySem.Expr} {x y : Str} {px py : Pos} {scope : Scope} {cl : List (Str × Addr)} {pos : Pos} {C D I₂ l₂ : Addr} {u : Value} {m' : Str → Option Value} {ys : List Value} {R : Result → Shared → Prop}
    (hh : A.handled = none) (hI : s.heap.IsListIter I₂ l₂ 0) (hl : s.heap.IsList l₂ #[u]) (hne : l₂ ≠ I₂) (hn : s.heap.Ns C m') (hCI : C ≠ I₂) (hCl : C ≠ l₂) (hD : s.heap.get? D = some (lst ys)) (hDC : D ≠ C) (hDI : D ≠ I₂) (hDl : D ≠ l₂) (hys : ys.length ≤ sizeLine)
    (hkind : scope.kind = .function) (hy : scope.names.lookup y = some .local)
    (hR : ∀ h' tk, h'.Ns C (fun z => if z = y then some u else m' z) → h'.get? D = some (lst (ys ++ [u])) → (∀ b o, b ≠ C → b ≠ D → b ≠ I₂ → s.heap.get? b = some o → h'.get? b = some o) → R (.ok .next) { s with heap := h', toks := tk })
    (helt : ∃ pe, elt = .Name y pe) (hdb : (y == ("__debug__" : Str)) = false) :
    codeAny (model prog w) A (.compStart (.ListComp elt [⟨.Name x px, i1, [], 0⟩, ⟨.Name y py, i2, [], 0⟩] scope pos) 1 (.ref I₂) (.ref D) (compEnvC scope cl C env)) R s := by
  have W := Walks.list (prog := prog) (w := w) hh I₂ l₂ hne #[u]
  have loop : ∀ s₁ : Shared, (∃ tk, s₁ = { s with toks := tk }) → codeAny (model prog w) A (.compLoop (.ListComp elt [⟨.Name x px, i1, [], 0⟩, ⟨.Name y py, i2, [], 0⟩] scope pos) 1 (.ref I₂) (.ref D) (compEnvC scope cl C env)) R s₁ := by
    rintro s₁ ⟨tk₁, rfl⟩
    refine codeAny_loop (M := model prog w) rfl (fun k s' => (k = 2 ∧ s' = { s with toks := tk₁ }) ∨ (k = 1 ∧ ∃ h' tk, s' = { s with heap := h', toks := tk } ∧ h'.IsListIter I₂ l₂ 1 ∧ h'.IsList l₂ #[u] ∧ h'.Ns C (fun z => if z = y then some u else m' z) ∧ h'.get? D = some (lst (ys ++ [u])) ∧
      (∀ b o, b ≠ C → b ≠ D → b ≠ I₂ → s.heap.get? b = some o → h'.get? b = some o))) (fun k s' hk => ?_) 2 (.inl ⟨rfl, rfl⟩)
    show wpAny _ _ ((compTurn (.ListComp elt [⟨.Name x px, i1, [], 0⟩, ⟨.Name y py, i2, [], 0⟩] scope pos) 1 (.ref I₂) (.ref D) (compEnvC scope cl C env)).onRaise (fun x => do noteFrame x (compEnvC scope cl C env); theTreesLotGoes x)) _ _ s'
    refine wpAny_noted ?_
    rw [nest_turn1]
    refine wpAny_bind (wpAny_standAt (wpAny_bind ?_))
    rcases hk with ⟨rfl, rfl⟩ | ⟨rfl, h', tk, rfl, hi', hl', hn', hD', hk'⟩
    · refine W.item 0 _ _ _ (by simp) ⟨hI, hl⟩ fun v h₂ tk₂ hv st₂ hk₂ => ?_
      have hv' : v = u := by simpa using hv.symm
      subst hv'
      dsimp only
      refine wpAny_bind (wpAny_assign_Name (wpAny_storeName_local (lookup_relabel_local hy) (hn.at' fun o z => hk₂ _ o (by simpa using hCI) z) (fun h₃ hn₃ hs₃ => ?_) (by simp [compEnvC, relabel, hkind])))
      obtain ⟨pe, rfl⟩ := helt
      have hD₃ : h₃.get? D = some (lst ys) := hs₃.extBut _ _ hDC (hk₂ _ _ (by simpa using hDI) hD)
      refine wpAny_bind (wpAny_bind (wpAny_Name (wpAny_loadName_local (v := v) (m := fun z => if z = y then some v else m' z) (by simp [compEnvC, relabel, hkind]) (lookup_relabel_local hy) hn₃ (by simp) ?_) hdb))
      refine wpAny_bind (append_at (hsz := by rw [List.size_toArray]; exact hys) hD₃ fun h₄ hs₄ hD₄ => ?_)
      refine wpAny_pure (wpAny_pure ⟨rfl, 1, by omega, .inr ⟨rfl, h₄, _, rfl, ?_, ?_, hn₃.sameBut hs₄ (Ne.symm hDC), ?_, ?_⟩⟩)
      · exact (st₂.1.at fun o z => hs₃.extBut _ _ (Ne.symm hCI) z).at fun o z => hs₄.extBut _ _ (Ne.symm hDI) z
      · exact (st₂.2.at fun o z => hs₃.extBut _ _ (Ne.symm hCl) z).at fun o z => hs₄.extBut _ _ (Ne.symm hDl) z
      · rw [hD₄, List.size_toArray] at *
        exact congrArg some (lst_snoc ys v)
      · exact fun b o h1 h2 h3 z => hs₄.extBut _ _ h2 (hs₃.extBut _ _ h1 (hk₂ b o (by simpa using h3) z))
    · refine W.done _ _ _ ⟨hi', hl'⟩ fun h₂ tk₂ hk₂ => ?_
      have up : ∀ b o, b ≠ I₂ → h'.get? b = some o → h₂.get? b = some o := fun b o hb z => hk₂ b o (by simpa using hb) z
      exact wpAny_pure (hR h₂ tk₂ (hn'.at' fun o z => up _ o hCI z) (up _ _ hDI hD') fun b o h1 h2 h3 z => up b o h3 (hk' b o h1 h2 h3 z))
  refine codeAny_of_tree ?_
  show wpAny _ _ ((compStart (.ListComp elt [⟨.Name x px, i1, [], 0⟩, ⟨.Name y py, i2, [], 0⟩] scope pos) 1 (.ref I₂) (.ref D) (compEnvC scope cl C env)).onRaise (fun x => do noteFrame x (compEnvC scope cl C env); standAt theWindowsPlace)) _ _ s
  refine wpAny_notedAt ?_
  unfold compStart
  show wpAny _ _ (ask >>= _) _ _ s
  have self := W.self 0 s (fun it' s' => codeAny (model prog w) A (.compLoop (.ListComp elt [⟨.Name x px, i1, [], 0⟩, ⟨.Name y py, i2, [], 0⟩] scope pos) 1 it' (.ref D) (compEnvC scope cl C env)) R s') (notedBy (model prog w) A (compEnvC scope cl C env) fun x s' => R (.error x) s') ⟨hI, hl⟩ (loop s ⟨_, rfl⟩)
  refine wpAny_bind (wpAny_askSetting (wpAny_ite ?_))
  split
  · first
      | exact wpAny_bind (wpAny_pure (wpAny_pure (And.intro rfl (loop s ⟨_, rfl⟩))))
      | exact wpAny_pure (And.intro rfl (loop s ⟨_, rfl⟩))
  · refine wpAny_bind (wpAny_rule ?_)
    show wpAny _ _ (standAt i2.pos >>= _) _ _ s
    exact wpAny_bind (wpAny_standAt (wpAny_bind (wpAny_mono self (fun it' s' h' => wpAny_pure (And.intro rfl h')) fun _ _ x => x)))
/-- the end of the inner source's evaluation: a list of one item -/
def NestEnd (h₀ : Heap) (L : Addr) (m : Str → Option Value) (s₁ : Shared) (I : Addr) (oI : Obj) (C : Addr) (oC : Obj) (D : Addr) (oD : Obj) (S : Led → Prop) (rest : Value → Led → Prop) (xv : Value) (s₂ : Shared) : Prop :=
  ∃ h' tk news' l' k u, xv = .ref l' ∧ s₂ = { s₁ with heap := h', toks := tk } ∧ Fr h₀ L h' m ∧ News h₀ L h' ((I, oI) :: (C, oC) :: (D, oD) :: news') ∧ Off3 I C D news' ∧ S news' ∧ (l', ({ cls := .type "list", data := .seq #[u] k } : Obj)) ∈ news' ∧ rest u news'
def NestRest (prog : Program) (w : World) (A : Around) (h₀ : Heap) (L : Addr) (m : Str → Option Value) (env : Env) (i2 : PySem.Expr) (x : Str) (scope : Scope) (cl : List (Str × Addr)) (s : Shared) (S : Led → Prop) (Fin : List Value → Led → Prop) : List Value → List Value → Led → Prop
  | [], ys, news => Fin ys news
  | v :: r, ys, news => ∀ I oI C oC D m₂ h tk (E' : Value → Shared → Prop), NsObj oC m₂ → m₂ x = some v → Fr h₀ L h m → News h₀ L h ((I, oI) :: (C, oC) :: (D, lst ys) :: news) → Off3 I C D news →
      wpAny (model prog w) A (eval i2 (compEnvC scope cl C env)) (NestEnd h₀ L m { s with heap := h, toks := tk } I oI C oC D (lst ys) S (fun u news' => NestRest prog w A h₀ L m env i2 x scope cl s S Fin r (ys ++ [u]) news')) E' { s with heap := h, toks := tk }
theorem nest_block {elt i1 i2 : PySem.Expr} {x y : Str} {px py : Pos} {scope : Scope} {cl : List (Str × Addr)} {pos : Pos} {s₂ : Shared} {I ax : Addr} {its : List Value} {news : Led} {ko : Nat}
    {Fin : List Value → Led → Prop} {RR : Value → Addr → Result → Shared → Prop}
    (hh : A.handled = none) (hsz : its.length ≤ sizeLine) (hne : ax ≠ I) (hI : s₂.heap.IsListIter I ax 0) (hax : (ax, ({ cls := .type "list", data := .seq its.toArray ko } : Obj)) ∈ news)
    (hcell : ∀ y ∈ scope.names, y.2 ≠ .cell) (hkind : scope.kind = .function) (hx : scope.names.lookup x = some .local) (hy : scope.names.lookup y = some .local) (hdb : (y == ("__debug__" : Str)) = false) (helt : ∃ pe, elt = .Name y pe) (hs2 : ∀ e v, foldedSetIterable i2 e v = pure v)
    (F : Fr h₀ L s₂.heap m) (N : News h₀ L s₂.heap news) (hIL : L ≠ I) (hI₀ : h₀.get? I = none) (off : ∀ p ∈ news, p.1 < I)
    (R : NestRest prog w A h₀ L m env i2 x scope cl s₂ (fun nw => (ax, ({ cls := .type "list", data := .seq its.toArray ko } : Obj)) ∈ nw) Fin its [] news)
    (hRR : ∀ D C h tk m' ys news', Fr h₀ L h m → News h₀ L h ((D, lst ys) :: news') → Off1 D news' → h.Ns C m' → h₀.get? C = none → h₀.get? D = none → C ≠ L → D ≠ L → C ≠ D → (∀ p ∈ news', p.1 ≠ C) → Fin ys news' → RR (.ref D) C (.ok .next) { s₂ with heap := h, toks := tk }) :
    wpAny (model prog w) A (newList []) (fun acc s₃ => wpAny (model prog w) A (newFunctionEnv scope env.globals cl [] env.qual none .none (some env)) (fun cenv s₄ =>
      codeAny (model prog w) A (.compStart (.ListComp elt [⟨.Name x px, i1, [], 0⟩, ⟨.Name y py, i2, [], 0⟩] scope pos) 0 (.ref I) acc { cenv with scope := relabel scope env }) (RR acc cenv.locals) s₄) E s₃) E s₂ := by
  refine wpAny_newObj_type (wpAny_newFunctionEnv hcell (by intro y hy; simp at hy) (fun h₁ hns₁ hsb₁ => ?_) hkind)
  dsimp only at hns₁ hsb₁ ⊢
  generalize hH2 : s₂.heap.push { cls := .type "list", dict := none, data := .seq ([] : List Value).toArray } = H2 at hns₁ hsb₁ ⊢
  have hC : H2.objs.size = s₂.heap.objs.size + 1 := by rw [← hH2, Heap.size_push]
  have hDC' : s₂.heap.objs.size < H2.objs.size := by rw [hC]; exact Nat.lt_succ_self _
  have hDC : s₂.heap.objs.size ≠ H2.objs.size := Nat.ne_of_lt hDC'
  have hIlt : I < s₂.heap.objs.size := by obtain ⟨_, z, _⟩ := hI; exact Heap.lt_size z
  have hLlt : L < s₂.heap.objs.size := F.ns.lt
  have old : ∀ q o, s₂.heap.get? q = some o → h₁.get? q = some o := fun q o z => hsb₁.extBut q o (Nat.ne_of_lt (Nat.lt_trans (Heap.lt_size z) hDC')) (Heap.get?_push_of_some _ (hH2 ▸ Heap.get?_push_of_some _ z))
  have hacc : h₁.get? s₂.heap.objs.size = some (lst []) := hsb₁.extBut _ _ hDC (Heap.get?_push_of_some _ (hH2 ▸ Heap.get?_push_size _ rfl))
  have fresh₀ : ∀ q, s₂.heap.objs.size ≤ q → h₀.get? q = none := fun q hq => by
    cases z : h₀.get? q with
    | none => rfl
    | some o' => exact absurd (Heap.lt_size (F.keep q o' z)) (Nat.not_lt.mpr hq)
  have hD₀ : h₀.get? s₂.heap.objs.size = none := fresh₀ _ (Nat.le_refl _)
  have hC₀ : h₀.get? H2.objs.size = none := fresh₀ _ (Nat.le_of_lt hDC')
  have hDL : s₂.heap.objs.size ≠ L := Nat.ne_of_gt hLlt
  have hCL : H2.objs.size ≠ L := Nat.ne_of_gt (Nat.lt_trans hLlt hDC')
  have hCI : I ≠ H2.objs.size := Nat.ne_of_lt (Nat.lt_trans hIlt hDC')
  have hDI : I ≠ s₂.heap.objs.size := Nat.ne_of_lt hIlt
  have hlt : ∀ p ∈ news, p.1 < s₂.heap.objs.size := fun p hp => Heap.lt_size (N p hp).1
  have off₀ : Off3 I H2.objs.size s₂.heap.objs.size news := Off3.of fun p hp => ⟨Nat.ne_of_lt (off p hp), Nat.ne_of_lt (Nat.lt_trans (hlt p hp) hDC'), Nat.ne_of_lt (hlt p hp)⟩
  have W := Walks.list (prog := prog) (w := w) hh I ax hne its.toArray
  have loop : ∀ s₃ : Shared, s₃ = { s₂ with heap := h₁, toks := s₂.toks + ([] : List (Str × Value)).length } →
      codeAny (model prog w) A (.compLoop (.ListComp elt [⟨.Name x px, i1, [], 0⟩, ⟨.Name y py, i2, [], 0⟩] scope pos) 0 (.ref I) (.ref s₂.heap.objs.size) (compEnvC scope cl H2.objs.size env))
        (RR (.ref s₂.heap.objs.size) H2.objs.size) s₃ := by
    rintro s₃ rfl
    refine codeAny_loop (M := model prog w) rfl
      (fun k s' => ∃ h' tk i ys m' news', s' = { s₂ with heap := h', toks := tk } ∧ i ≤ its.length ∧ k = its.length + 1 - i ∧ ys.length = i ∧ h'.IsListIter I ax i ∧ Fr h₀ L h' m ∧ h'.Ns H2.objs.size m' ∧ News h₀ L h' ((s₂.heap.objs.size, lst ys) :: news') ∧
        Off3 I H2.objs.size s₂.heap.objs.size news' ∧ (ax, ({ cls := .type "list", data := .seq its.toArray ko } : Obj)) ∈ news' ∧
        NestRest prog w A h₀ L m env i2 x scope cl s₂ (fun nw => (ax, ({ cls := .type "list", data := .seq its.toArray ko } : Obj)) ∈ nw) Fin (its.drop i) ys news') (fun k s' hk => ?_) (its.length + 1)
      ⟨h₁, _, 0, [], _, news, rfl, Nat.zero_le _, rfl, rfl, hI.at fun o z => old _ _ z, F.keeps old, hns₁, fun p hp => ?_, off₀, hax, by rw [List.drop_zero]; exact R⟩
    · obtain ⟨h', tk, i, ys, m', news', rfl, hi, rfl, hyl, hit', F', hn', N', off', hax', R'⟩ := hk
      have off3 := off'.mem
      have hls' : h'.IsList ax its.toArray := ⟨_, (N' _ (List.mem_cons_of_mem _ hax')).1, rfl, _, rfl⟩
      have haxI : ax ≠ I := (off3 _ hax').1
      show wpAny _ _ ((compTurn (.ListComp elt [⟨.Name x px, i1, [], 0⟩, ⟨.Name y py, i2, [], 0⟩] scope pos) 0 (.ref I) (.ref s₂.heap.objs.size) (compEnvC scope cl H2.objs.size env)).onRaise (fun x => do noteFrame x (compEnvC scope cl H2.objs.size env); theTreesLotGoes x)) _ _ _
      refine wpAny_noted ?_
      rw [nest_turn0]
      refine wpAny_bind (wpAny_standAt (wpAny_bind ?_))
      by_cases hlt' : i < its.length
      · have hdrop : its.drop i = its[i] :: its.drop (i + 1) := List.drop_eq_getElem_cons hlt'
        rw [hdrop] at R'
        refine W.item i _ _ _ (by simpa using hlt') ⟨hit', hls'⟩ fun v h₂ tk₂ hv st₂ hk₂ => ?_
        have hv' : v = its[i] := by
          have z : its[i]? = some v := by simpa using hv
          rw [List.getElem?_eq_getElem hlt'] at z
          exact (Option.some.inj z).symm
        subst hv'
        dsimp only
        refine wpAny_bind (wpAny_assign_Name (wpAny_storeName_local (lookup_relabel_local hx) (hn'.at' fun o z => hk₂ _ o (by simpa using Ne.symm hCI) z) (fun h₃ hn₃ hs₃ => ?_) (by simp [compEnvC, relabel, hkind])))
        have st₃ : h₃.IsListIter I ax (i + 1) := st₂.1.at fun o z => hs₃.extBut _ _ hCI z
        obtain ⟨oI, heI, hoI⟩ : ∃ oI : Obj, h₃.get? I = some oI ∧ ∀ h : Heap, h.get? I = some oI → h.IsListIter I ax (i + 1) := by
          obtain ⟨o, ho, hr⟩ := st₃
          exact ⟨o, ho, fun h z => ⟨o, z, hr⟩⟩
        obtain ⟨oC, heC, hoC⟩ := ns_obj hn₃
        have F₃ : Fr h₀ L h₃ m := (fr_but F' hk₂ hIL hI₀).change hs₃ hCL hC₀
        have N₂ : News h₀ L h₂ ((s₂.heap.objs.size, lst ys) :: news') := news_but N' hk₂ fun p hp => by
          rcases List.mem_cons.mp hp with rfl | hp
          · exact Ne.symm hDI
          · exact (off3 p hp).1
        have N₃ : News h₀ L h₃ ((I, oI) :: (H2.objs.size, oC) :: (s₂.heap.objs.size, lst ys) :: news') := fun p hp => by
          rcases List.mem_cons.mp hp with rfl | hp
          · exact ⟨heI, Ne.symm hIL, hI₀⟩
          rcases List.mem_cons.mp hp with rfl | hp
          · exact ⟨heC, hCL, hC₀⟩
          have z := N₂ p hp
          refine ⟨hs₃.extBut _ _ ?_ z.1, z.2⟩
          rcases List.mem_cons.mp hp with rfl | hp
          · exact hDC
          · exact (off3 p hp).2.1
        refine wpAny_bind (wpAny_mono (R' I oI H2.objs.size oC s₂.heap.objs.size _ h₃ _ _ hoC (by simp) F₃ N₃ off') (fun xv s₄ h₄ => ?_) fun _ _ z => z)
        obtain ⟨h₄, tk₄, news₄, l', k', u, rfl, rfl, F₄, N₄, off₄, hS₄, hl₄, R₄⟩ := h₄
        have off4 := off₄.mem
        refine wpAny_bind (wpAny_standAt (wpAny_bind (wpAny_of_eq (hs2 _ _) (wpAny_bind (wpAny_holding ?_)))))
        have hls₄ : h₄.IsList l' #[u] := ⟨_, (N₄ _ (List.mem_cons_of_mem _ (List.mem_cons_of_mem _ (List.mem_cons_of_mem _ hl₄)))).1, rfl, _, rfl⟩
        refine wpAny_pyIter_list hls₄ ?_
        have zI := (N₄ (I, oI) List.mem_cons_self).1
        have zC := (N₄ (H2.objs.size, oC) (List.mem_cons_of_mem _ List.mem_cons_self)).1
        have zD := (N₄ (s₂.heap.objs.size, lst ys) (List.mem_cons_of_mem _ (List.mem_cons_of_mem _ List.mem_cons_self))).1
        have N₄' : News h₀ L h₄ news₄ := fun p hp => N₄ p (List.mem_cons_of_mem _ (List.mem_cons_of_mem _ (List.mem_cons_of_mem _ hp)))
        have zl := (N₄' _ hl₄).1
        have up : ∀ b o, h₄.get? b = some o → (h₄.push { cls := .type "list_iterator", data := .fields #[.ref l', .int 0 0] }).get? b = some o := fun b o z => Heap.get?_push_of_some _ z
        have nI₂ : ∀ b o, h₄.get? b = some o → b ≠ h₄.objs.size := fun b o z => Nat.ne_of_lt (Heap.lt_size z)
        refine wpAny_bind (wpAny_runOwn (nest_inner (m' := _) (ys := ys) hh ⟨_, Heap.get?_push_size _ rfl, rfl, rfl⟩ (hls₄.at fun o z => up _ _ z) (nI₂ _ _ zl) ((hoC.ns zC).at' fun o z => up _ _ z) (nI₂ _ _ zC) (Ne.symm (off4 _ hl₄).2.1) (up _ _ zD) hDC (nI₂ _ _ zD) (Ne.symm (off4 _ hl₄).2.2)
          (by rw [hyl]; exact Nat.le_trans hi hsz) hkind hy (fun h₅ tk₅ hn₅ hD₅ hk₅ => ?_) helt hdb))
        refine wpAny_pure ⟨rfl, its.length + 1 - (i + 1), by omega, h₅, tk₅, i + 1, ys ++ [u], _, news₄, rfl, hlt', rfl, by rw [List.length_append, List.length_singleton, hyl], ?_, ?_, hn₅, fun p hp => ?_, off₄, hS₄, R₄⟩
        · exact hoI _ (hk₅ I _ hCI hDI (nI₂ _ _ zI) (up _ _ zI))
        · refine ⟨F₄.ns.at' fun o z => hk₅ L o (Ne.symm hCL) (Ne.symm hDL) (nI₂ _ _ z) (up _ _ z), fun b o z => ?_, F₄.above⟩
          refine hk₅ b o (fun q => by rw [q, hC₀] at z; cases z) (fun q => by rw [q, hD₀] at z; cases z) ?_ (up _ _ (F₄.keep b o z))
          exact nI₂ _ _ (F₄.keep b o z)
        · rcases List.mem_cons.mp hp with rfl | hp
          · exact ⟨hD₅, hDL, hD₀⟩
          · exact ⟨hk₅ _ _ (off4 p hp).2.1 (off4 p hp).2.2 (nI₂ _ _ (N₄' p hp).1) (up _ _ (N₄' p hp).1), (N₄' p hp).2⟩
      · obtain rfl : i = its.length := Nat.le_antisymm hi (Nat.not_lt.mp hlt')
        rw [List.drop_length] at R'
        refine W.done _ _ _ (by simpa using And.intro hit' hls') fun h₂ tk₂ hk₂ => ?_
        exact wpAny_pure (hRR _ _ h₂ tk₂ _ ys news' (fr_but F' hk₂ hIL hI₀) (news_but N' hk₂ fun p hp => by
          rcases List.mem_cons.mp hp with rfl | hp
          · exact Ne.symm hDI
          · exact (off3 p hp).1) off'.one (hn'.at' fun o z => hk₂ _ o (by simpa using Ne.symm hCI) z) hC₀ hD₀ hCL hDL (Ne.symm hDC) (fun p hp => (off3 p hp).2.1) R')
    · rcases List.mem_cons.mp hp with rfl | hp
      · exact ⟨hacc, hDL, hD₀⟩
      · exact ⟨old _ _ (N p hp).1, (N p hp).2⟩
  exact codeAny_compStart_list (loop _ rfl) (wpAny_pyIter_listiter (hI.at fun o z => old _ _ z) (loop _ rfl))
theorem ListComp_nest {elt i1 i2 : PySem.Expr} {x y : Str} {px py : Pos} {scope : Scope} {cl : List (Str × Addr)} {pos : Pos} {Q : Value → Shared → Prop} (F₀ : Fr h₀ L s.heap m)
    (hclos : closureFor scope env = pure cl) (hcell : ∀ y ∈ scope.names, y.2 ≠ .cell) (hkind : scope.kind = .function)
    (hnames : ∀ y ∈ scope.names, y.2 = .local → scope.names.lookup y.1 = some .local) (hx : scope.names.lookup x = some .local) (hy : scope.names.lookup y = some .local) (hdb : (y == ("__debug__" : Str)) = false) (helt : ∃ pe, elt = .Name y pe)
    (h : wpAny (model prog w) A (eval i1 env) (fun xv s₁ => ∃ ax its ko news, xv = .ref ax ∧ A.handled = none ∧ its.length ≤ sizeLine ∧ Fr h₀ L s₁.heap m ∧ News h₀ L s₁.heap news ∧ (ax, ({ cls := .type "list", data := .seq its.toArray ko } : Obj)) ∈ news ∧
      ∀ g : Heap, NestRest prog w A h₀ L m env i2 x scope cl { s₁ with heap := g } (fun nw => (ax, ({ cls := .type "list", data := .seq its.toArray ko } : Obj)) ∈ nw) (FinE h₀ L m { s₁ with heap := g } Q) its [] news) E s)
    (hs : ∀ x, foldedSetIterable i1 env x = pure x := by intro _; rfl) (hs2 : ∀ e v, foldedSetIterable i2 e v = pure v := by intro _ _; rfl) :
    wpAny (model prog w) A (eval (.ListComp elt [⟨.Name x px, i1, [], 0⟩, ⟨.Name y py, i2, [], 0⟩] scope pos) env) Q E s := by
  rw [eval_ListComp]
  refine wpAny_comprehension_free (use := none) rfl hs hclos hkind hnames (wpAny_mono h (fun xv s₁ h₁ => ?_) fun _ _ e => e)
  obtain ⟨ax, its, ko, news, rfl, hh, hsz, F, N, hax, R⟩ := h₁
  have hls : s₁.heap.IsList ax its.toArray := ⟨_, (N _ hax).1, rfl, _, rfl⟩
  refine wpAny_pyIter_list hls ?_
  refine nest_block hh hsz (Nat.ne_of_lt (Heap.lt_size (N _ hax).1)) ⟨_, Heap.get?_push_size _ rfl, rfl, rfl⟩ hax hcell hkind hx hy hdb helt hs2 (F.push _)
    (fun p hp => ⟨Heap.get?_push_of_some _ (N p hp).1, (N p hp).2⟩) (Nat.ne_of_lt F.ns.lt) (next_is_new F) (fun p hp => Heap.lt_size (N p hp).1) (R _) ?_
  intro D C h tk m' ys news' F' N' o1 hn hC₀ hD₀ hCL hDL hCD offC fin
  refine ⟨m', hn, fun h'' hs'' => fin D h'' tk (F'.change hs'' hCL hC₀) (fun p hp => ?_) o1⟩
  refine ⟨hs''.extBut _ _ ?_ (N' p hp).1, (N' p hp).2⟩
  rcases List.mem_cons.mp hp with rfl | hp
  · exact Ne.symm hCD
  · exact offC p hp
def NestSrc (prog : Program) (w : World) (A : Around) (h₀ : Heap) (L : Addr) (m : Str → Option Value) (env : Env) (i2 : PySem.Expr) (x : Str) (scope : Scope) (cl : List (Str × Addr)) (Q : Value → Shared → Prop) (xv : Value) (s₁ : Shared) : Prop :=
  ∃ ax its ko news, xv = .ref ax ∧ A.handled = none ∧ its.length ≤ sizeLine ∧ Fr h₀ L s₁.heap m ∧ News h₀ L s₁.heap news ∧ (ax, ({ cls := .type "list", data := .seq its.toArray ko } : Obj)) ∈ news ∧
      ∀ g : Heap, NestRest prog w A h₀ L m env i2 x scope cl { s₁ with heap := g } (fun nw => (ax, ({ cls := .type "list", data := .seq its.toArray ko } : Obj)) ∈ nw) (FinE h₀ L m { s₁ with heap := g } Q) its [] news
theorem NestSrc.intro {i2 : PySem.Expr} {x : Str} {scope : Scope} {cl : List (Str × Addr)} {Q : Value → Shared → Prop} {ax : Addr} {its : List Value} {ko : Nat} {news : Led} {s₁ : Shared} (hh : A.handled = none) (F : Fr h₀ L s₁.heap m) (N : News h₀ L s₁.heap news)
    (hm : (ax, ({ cls := .type "list", data := .seq its.toArray ko } : Obj)) ∈ news) (hsz : its.length ≤ sizeLine)
    (h : ∀ g : Heap, NestRest prog w A h₀ L m env i2 x scope cl { s₁ with heap := g } (fun nw => (ax, ({ cls := .type "list", data := .seq its.toArray ko } : Obj)) ∈ nw) (FinE h₀ L m { s₁ with heap := g } Q) its [] news) :
    NestSrc prog w A h₀ L m env i2 x scope cl Q (.ref ax) s₁ := ⟨ax, its, ko, news, rfl, hh, hsz, F, N, hm, h⟩
theorem NestRest.nil {i2 : PySem.Expr} {x : Str} {scope : Scope} {cl : List (Str × Addr)} {S : Led → Prop} {Fin : List Value → Led → Prop} {ys : List Value} {news : Led} (h : Fin ys news) : NestRest prog w A h₀ L m env i2 x scope cl s S Fin [] ys news := h
theorem NestRest.cons {i2 : PySem.Expr} {x : Str} {scope : Scope} {cl : List (Str × Addr)} {S : Led → Prop} {Fin : List Value → Led → Prop} {v : Value} {r ys : List Value} {news : Led}
    (h : ∀ I oI C oC D m₂ h tk (E' : Value → Shared → Prop), NsObj oC m₂ → m₂ x = some v → Fr h₀ L h m → News h₀ L h ((I, oI) :: (C, oC) :: (D, lst ys) :: news) → Off3 I C D news →
      wpAny (model prog w) A (eval i2 (compEnvC scope cl C env)) (NestEnd h₀ L m { s with heap := h, toks := tk } I oI C oC D (lst ys) S (fun u news' => NestRest prog w A h₀ L m env i2 x scope cl s S Fin r (ys ++ [u]) news')) E' { s with heap := h, toks := tk }) :
    NestRest prog w A h₀ L m env i2 x scope cl s S Fin (v :: r) ys news := h
theorem NestEnd.one {s₁ : Shared} {I C D l' : Addr} {oI oC oD : Obj} {S : Led → Prop} {rest : Value → Led → Prop} {h' : Heap} {tk k : Nat} {u : Value} {news : Led} (F : Fr h₀ L h' m)
    (N : News h₀ L h' ((l', ({ cls := .type "list", data := .seq #[u] k } : Obj)) :: (I, oI) :: (C, oC) :: (D, oD) :: news)) (lt : AllLt l' ((I, oI) :: (C, oC) :: (D, oD) :: news)) (off : Off3 I C D news)
    (hS : S ((l', ({ cls := .type "list", data := .seq #[u] k } : Obj)) :: news)) (r : rest u ((l', ({ cls := .type "list", data := .seq #[u] k } : Obj)) :: news)) : NestEnd h₀ L m s₁ I oI C oC D oD S rest (.ref l') { s₁ with heap := h', toks := tk } :=
  ⟨h', tk, (l', ({ cls := .type "list", data := .seq #[u] k } : Obj)) :: news, l', k, u, rfl, rfl, F, newsSub N (fun p hp => by simp only [List.mem_cons] at hp ⊢; rcases hp with h | h | h | h | h <;> simp [h]), ⟨⟨Nat.ne_of_gt lt.1, Nat.ne_of_gt lt.2.1, Nat.ne_of_gt lt.2.2.1⟩, off⟩, hS, List.mem_cons_self, r⟩
theorem ListComp_nestW {elt i1 i2 : PySem.Expr} {x y : Str} {px py : Pos} {scope : Scope} {cl : List (Str × Addr)} {pos : Pos} {Q : Value → Shared → Prop} (F₀ : Fr h₀ L s.heap m)
    (hclos : closureFor scope env = pure cl) (hcell : ∀ y ∈ scope.names, y.2 ≠ .cell) (hkind : scope.kind = .function)
    (hnames : ∀ y ∈ scope.names, y.2 = .local → scope.names.lookup y.1 = some .local) (hx : scope.names.lookup x = some .local) (hy : scope.names.lookup y = some .local) (hdb : (y == ("__debug__" : Str)) = false) (helt : ∃ pe, elt = .Name y pe)
    (h : wpAny (model prog w) A (eval i1 env) (NestSrc prog w A h₀ L m env i2 x scope cl Q) E s)
    (hs : ∀ x, foldedSetIterable i1 env x = pure x := by intro _; rfl) (hs2 : ∀ e v, foldedSetIterable i2 e v = pure v := by intro _ _; rfl) :
    wpAny (model prog w) A (eval (.ListComp elt [⟨.Name x px, i1, [], 0⟩, ⟨.Name y py, i2, [], 0⟩] scope pos) env) Q E s := ListComp_nest F₀ hclos hcell hkind hnames hx hy hdb helt h hs hs2
/-- the source of a comprehension over the items of a dict of one entry -/
def Items1Src (prog : Program) (w : World) (A : Around) (h₀ : Heap) (L : Addr) (m : Str → Option Value) (env : Env) (c elt : PySem.Expr) (a b : Str) (scope : Scope) (cl : List (Str × Addr)) (y : Str) (Q : Flow → Shared → Prop) (xv : Value) (s₁ : Shared) : Prop :=
  ∃ vw d e n news, xv = .ref vw ∧ A.handled = none ∧ Fr h₀ L s₁.heap m ∧ News h₀ L s₁.heap news ∧ s₁.heap.IsItemsView vw d ∧ (d, dictOf [e] n) ∈ news ∧
      ∀ g : Heap, Turn1 prog w A h₀ L m env c elt a b scope cl { s₁ with heap := g } d e n (FinA h₀ L m { s₁ with heap := g } y Q) news
theorem Items1Src.intro {c elt : PySem.Expr} {a b y : Str} {scope : Scope} {cl : List (Str × Addr)} {Q : Flow → Shared → Prop} {vw d : Addr} {e : DictEntry} {n : Nat} {news : Led} {s₁ : Shared} (hh : A.handled = none) (F : Fr h₀ L s₁.heap m) (N : News h₀ L s₁.heap news)
    (hv : (vw, ({ cls := .type "dict_items", data := .fields #[.ref d] } : Obj)) ∈ news) (hd : (d, dictOf [e] n) ∈ news)
    (h : ∀ g : Heap, Turn1 prog w A h₀ L m env c elt a b scope cl { s₁ with heap := g } d e n (FinA h₀ L m { s₁ with heap := g } y Q) news) : Items1Src prog w A h₀ L m env c elt a b scope cl y Q (.ref vw) s₁ :=
  ⟨vw, d, e, n, news, rfl, hh, F, N, ⟨_, (N _ hv).1, rfl, rfl⟩, hd, h⟩
theorem Turn1.intro {c elt : PySem.Expr} {a b : Str} {scope : Scope} {cl : List (Str × Addr)} {d : Addr} {e : DictEntry} {n : Nat} {Fin : List Value → Led → Prop} {news : Led}
  (h : ∀ I oI C oC D m₂ h tk (E' : Value → Shared → Prop), NsObj oC m₂ → m₂ a = some e.key → m₂ b = some e.val → Fr h₀ L h m → News h₀ L h ((I, oI) :: (C, oC) :: (D, lst []) :: news) → Off3 I C D news → (∀ p ∈ news, p.1 < I) → ((@LT.lt Nat _ I D) ∧ (@LT.lt Nat _ D C)) →
    wpAny (model prog w) A (isTrue c (compEnvC scope cl C env) (eval c (compEnvC scope cl C env))) (fun okb s₃ => if okb = true then
      wpAny (model prog w) A (eval elt (compEnvC scope cl C env)) (CompEnd h₀ L m { s with heap := h, toks := tk } I oI C oC D (lst []) (fun nw => (d, dictOf [e] n) ∈ nw) (fun y news' => Fin [y] news')) E' s₃
      else CompEnd h₀ L m { s with heap := h, toks := tk } I oI C oC D (lst []) (fun nw => (d, dictOf [e] n) ∈ nw) (fun _ news' => Fin [] news') .none s₃) E' { s with heap := h, toks := tk }) :
  Turn1 prog w A h₀ L m env c elt a b scope cl s d e n Fin news := h
theorem Assign_items1W {elt iter c : PySem.Expr} {a b y : Str} {pa pb tp py : Pos} {kk : Nat} {scope : Scope} {cl : List (Str × Addr)} {pos spos : Pos} {Q : Flow → Shared → Prop} (F₀ : Fr h₀ L s.heap m) (hLe : env.locals = L)
    (hsw : swapsWith (.ListComp elt [⟨.Tuple [.Name a pa, .Name b pb] kk tp, iter, [c], 0⟩] scope pos) (some (.Name y py)) spos.line env = pure true)
    (hclos : closureFor scope env = pure cl) (hcell : ∀ z ∈ scope.names, z.2 ≠ .cell) (hkind : scope.kind = .function)
    (hnames : ∀ z ∈ scope.names, z.2 = .local → scope.names.lookup z.1 = some .local) (hxa : scope.names.lookup a = some .local) (hxb : scope.names.lookup b = some .local) (hab : ¬ a = b)
    (hy : env.kindOf y = some .local) (hp : (env.scope.kind == .class || (env.scope.kind == .module && env.locals != env.globals)) = false)
    (h : wpAny (model prog w) A (eval iter env) (Items1Src prog w A h₀ L m env c elt a b scope cl y Q) E s)
    (hs : ∀ x, foldedSetIterable iter env x = pure x := by intro _; rfl) :
    wpAny (model prog w) A (exec (.Assign [.Name y py] (.ListComp elt [⟨.Tuple [.Name a pa, .Name b pb] kk tp, iter, [c], 0⟩] scope pos) spos) env) Q E s :=
  Assign_items1 F₀ hLe hsw hclos hcell hkind hnames hxa hxb hab hy hp h hs
theorem items_call {es : List DictEntry} {n : Nat} {d : Addr} {news : Led} {Q : Value → Shared → Prop} (F : Fr h₀ L s.heap m) (N : News h₀ L s.heap news) (hm : (d, dictOf es n) ∈ news) (hy : (d == sysModules) = false)
    (h : ∀ vw h', Fr h₀ L h' m → News h₀ L h' ((vw, ({ cls := .type "dict_items", data := .fields #[.ref d] } : Obj)) :: news) → (∀ p ∈ news, p.1 < vw) → Q (.ref vw) { s with heap := h' }) : wpAny (model prog w) A (call (.builtin "dict.items") [.ref d]) Q E s :=
  items1_call (N _ hm).1 hy (h _ _ (F.push _) (News.push F N _) fun p hp => Heap.lt_size (N p hp).1)
end
local macro_rules | `(tactic| walk_at "eval ListComp") => `(tactic| (k_here; (with_reducible show wpAny _ _ (eval (PySem.Expr.ListComp _ [_, _] _ _) _) _ _ _); k_dflt (refine Mine.ListComp_nestW (F₀ := by k_asm) (by with_unfolding_all rfl) (by decide) (by rfl) (by decide) (by rfl) (by rfl) (by decide) ⟨_, rfl⟩ ?_)))
local macro_rules | `(tactic| walk_at "NestSrc") => `(tactic| (k_here; k_dflt (refine Mine.NestSrc.intro (by rfl) (by k_asm) (by k_asm) (by k_mem) (by first | size_fits | exact Nat.le_of_ble_eq_true rfl) ?_; intro g')))
local macro_rules | `(tactic| walk_at "NestRest") => `(tactic| (with_unfolding_all first
  | (refine Mine.NestRest.cons ?_; intro I' oI' C' oC' D' m' h' tk' E' hC' hx' F' N' off')
  | refine Mine.NestRest.nil ?_))
local macro_rules | `(tactic| walk_at "NestEnd") => `(tactic| (refine Mine.NestEnd.one (by assumption) (by assumption) (by (simp only [AllLt, and_true]); assumption) (by assumption) (by exact List.mem_cons_of_mem _ (by k_mem)) ?_))
local macro_rules | `(tactic| walk_at "exec Assign cons ListComp") => `(tactic| (k_here; (with_reducible show wpAny _ _ (exec (PySem.Stmt.Assign [_] (PySem.Expr.ListComp _ [PySem.Comprehension.mk (PySem.Expr.Tuple _ _ _) _ _ _] _ _) _) _) _ _ _); k_dflt (refine Mine.Assign_items1W (F₀ := by k_asm) (by rfl) (by with_unfolding_all rfl) (by with_unfolding_all rfl) (by decide) (by rfl) (by decide) (by rfl) (by rfl) (by decide) (by rfl) (by rfl) ?_)))
local macro_rules | `(tactic| walk_at "Items1Src") => `(tactic| (k_here; k_dflt (refine Mine.Items1Src.intro (by rfl) (by k_asm) (by k_asm) (by k_mem) (by k_mem) ?_; intro g')))
local macro_rules | `(tactic| walk_at "Turn1") => `(tactic| (refine Mine.Turn1.intro ?_; intro I' oI' C' oC' D' m' h' tk' E' hC' ha' hb' F' N' off' lI' lt'; (try dsimp only at ha' hb')))
local macro_rules | `(tactic| walk_at "call builtin:dict.items") => `(tactic| (k_here; (with_reducible show wpAny _ _ (call (Value.builtin "dict.items") [Value.ref _]) _ _ _); k_dflt (refine' Mine.items_call ?k1 ?k2 ?k3 ?k4 ?_; (case k1 => k_asm); (case k2 => k_asm); (case k3 => k_mem); (case k4 => assumption); k_whole); intro vw' h' F' N' l1; (try k_lt l1); (try k_sweep)))
section
variable {prog : Program} {w : World} {A : Around} {E : Value → Shared → Prop} {s : Shared} {a b : Int} {t u : Tok} {Q : Value → Shared → Prop}
theorem mulW_r (h1 : -18446744073709551616 < b) (h2 : b < 18446744073709551616) (h : Q (.int (a * b) s.toks) { s with toks := s.toks + 1 }) : wpAny (model prog w) A (binaryOp .Mult (.int a t) (.int b u)) Q E s :=
  PyProof.Rows.mul_int h (IntMulOk.of_right (intBits_le_64 h1 h2))
theorem mulW_l (h1 : -18446744073709551616 < a) (h2 : a < 18446744073709551616) (h : Q (.int (a * b) s.toks) { s with toks := s.toks + 1 }) : wpAny (model prog w) A (binaryOp .Mult (.int a t) (.int b u)) Q E s :=
  PyProof.Rows.mul_int h (IntMulOk.of_left (intBits_le_64 h1 h2))
theorem log2_small {n : Nat} (h : n < 18446744073709551616) : n.log2 < 9000 := by
  by_cases h0 : n = 0
  · subst h0; decide
  · have := (Nat.log2_lt h0 (k := 64)).mpr h
    omega
theorem divW (hb : 0 < b) (hb' : b < 18446744073709551616) (h : Q (.int (a / b) s.toks) { s with toks := s.toks + 1 }) : wpAny (model prog w) A (binaryOp .FloorDiv (.int a t) (.int b u)) Q E s :=
  PyProof.Rows.floordiv_int (by omega) (by rw [Int.fdiv_eq_ediv_of_nonneg _ (by omega)]; exact h) (Or.inl (PyProof.noPylong_of_log2 (log2_small (by omega))))
theorem modW (hb : 0 < b) (h : Q (.int (a % b) s.toks) { s with toks := s.toks + 1 }) : wpAny (model prog w) A (binaryOp .Mod (.int a t) (.int b u)) Q E s :=
  PyProof.Rows.mod_int' (by omega) (by rw [Int.fmod_eq_emod_of_nonneg _ (by omega)]; exact h)
end
local macro_rules | `(tactic| walk_at "binaryOp Mult") => `(tactic| ((with_reducible show wpAny _ _ (binaryOp Operator.Mult (Value.int _ _) (Value.int _ _)) _ _ _); first
  | (refine Mine.mulW_r (by (law_purse 20000 => (law_clear; omega))) (by (law_purse 20000 => (law_clear; omega))) ?_)
  | (refine Mine.mulW_l (by (law_purse 20000 => (law_clear; omega))) (by (law_purse 20000 => (law_clear; omega))) ?_); (try dsimp only)))
local macro_rules | `(tactic| walk_at "binaryOp FloorDiv") => `(tactic| ((with_reducible show wpAny _ _ (binaryOp Operator.FloorDiv (Value.int _ _) (Value.int _ _)) _ _ _); (refine Mine.divW (by (law_purse 20000 => (law_clear; omega))) (by (law_purse 20000 => (law_clear; omega))) ?_); (try dsimp only)))
local macro_rules | `(tactic| walk_at "binaryOp Mod") => `(tactic| ((with_reducible show wpAny _ _ (binaryOp Operator.Mod (Value.int _ _) (Value.int _ _)) _ _ _); (refine Mine.modW (by (law_purse 20000 => (law_clear; omega))) ?_); (try dsimp only)))
theorem mm_min (w : World) {A : Around} {E : Value → Shared → Prop} {s : Shared} {h₀ : Heap} {L : Addr} {m : Str → Option Value} {news : Led} {v : Value} {lo hi : Int} {ex : Bool} {Q : Value → Shared → Prop} :
    Fr h₀ L s.heap m → (hd3.heap_39 w.params).In h₀ → News h₀ L s.heap news → MMAt w news v lo hi → (∀ t, Q (.int lo t) { s with toks := s.toks + 1 }) →
    wpAny (model PySem.Challenge.rw_fk5025_03.row.prog w) A (getAttr v (Str.ofString "min") ex) Q E s := by
  k_fill
  intro F X N hM h
  obtain ⟨hC, hx, hdx, e, f⟩ := hM
  rcases hC with rfl | rfl | rfl | rfl | rfl | rfl | rfl <;>
    exact get_own F X (InstAt.of_news N hx hdx) (by k_dflt k_is) (by k_dflt k_is) (by k_dflt k_is) (by k_dflt k_is) e rfl (h _)
theorem mm_max (w : World) {A : Around} {E : Value → Shared → Prop} {s : Shared} {h₀ : Heap} {L : Addr} {m : Str → Option Value} {news : Led} {v : Value} {lo hi : Int} {ex : Bool} {Q : Value → Shared → Prop} :
    Fr h₀ L s.heap m → (hd3.heap_39 w.params).In h₀ → News h₀ L s.heap news → MMAt w news v lo hi → (∀ t, Q (.int hi t) { s with toks := s.toks + 1 }) →
    wpAny (model PySem.Challenge.rw_fk5025_03.row.prog w) A (getAttr v (Str.ofString "max") ex) Q E s := by
  k_fill
  intro F X N hM h
  obtain ⟨hC, hx, hdx, e, f⟩ := hM
  rcases hC with rfl | rfl | rfl | rfl | rfl | rfl | rfl <;>
    exact get_own F X (InstAt.of_news N hx hdx) (by k_dflt k_is) (by k_dflt k_is) (by k_dflt k_is) (by k_dflt k_is) f rfl (h _)
local macro_rules | `(tactic| walk_at "getAttr") => `(tactic| (k_here; (with_reducible show wpAny _ _ (getAttr _ (PySem.Str.ofString "min") _) _ _ _); k_dflt (refine' Mine.mm_min _ ?F ?X ?N ?M ?_; (case F => k_asm); (case X => k_asm); (case N => k_asm); (case M => walk_at "my rel"); k_whole); intro _; (try dsimp only)))
local macro_rules | `(tactic| walk_at "getAttr") => `(tactic| (k_here; (with_reducible show wpAny _ _ (getAttr _ (PySem.Str.ofString "max") _) _ _ _); k_dflt (refine' Mine.mm_max _ ?F ?X ?N ?M ?_; (case F => k_asm); (case X => k_asm); (case N => k_asm); (case M => walk_at "my rel"); k_whole); intro _; (try dsimp only)))
theorem c_hash (w : World) (v : Value) (lo hi : Int) (b0 : 0 ≤ lo) (b1 : lo < hi) (b2 : hi < 10^19) : Ctc w (call (.ref 100) [v]) 12 64 (fun l => VarAt w l v lo hi) (fun l r => ∃ i t, r = .int i t) := by
  unfold Ctc
  k_fill
  intro p loose mean mg mb dp u gd cn cs a ccd cl outer A₀ base h₀ L m news s Q E B F X N T hk hP hd hu hret
  cases hP
  rename_i hx hdx
  refine wpAny_call ?_
  k_dflt k_enter
  k_steps
  refine hret _ _ _ _ (by k_asm) (end0 [_] (by k_asm)) (by walk_at "my ord") ?_
  exact ⟨_, _, rfl⟩
theorem c_dget (w : World) (v dflt : Value) (d : Addr) (n : Nat) (lo hi : Int) (b0 : 0 ≤ lo) (b1 : lo < hi) (b2 : hi < 10^19) (hy : (d == sysModules) = false) :
    Ctc w (call (.builtin "dict.get") [.ref d, v, dflt]) 12 70 (fun l => VarAt w l v lo hi ∧ (d, dictOf [] n) ∈ l) (fun _ r => r = dflt) := by
  unfold Ctc
  k_fill
  intro p loose mean mg mb dp u gd cn cs a ccd cl outer A₀ base h₀ L m news s Q E B F X N T hk hP hd hu hret
  obtain ⟨hV, hm⟩ := hP
  have hV' := hV
  cases hV
  rename_i hx hdx
  k_dflt (refine dget_empty (A := ktrTop dp u gd cn cs L a ccd cl outer) (by (show u + 1 < cLine); omega) (by k_in) (by k_inst) (by k_is) (by k_is) (N _ hm).1 hy ?_)
  refine Ctc.use (dp := dp) (u := u + 1) (c_hash w _ lo hi b0 b1 b2) B F X N T hk hV' hd (by omega) ?_
  rintro r tl h' tk' F' N' ho ⟨i, t, rfl⟩
  exact ⟨i, t, rfl, (N' _ (List.mem_append.mpr (.inl hm))).1, hret _ tl h' tk' F' N' ho rfl⟩
theorem updApp {d : Addr} {o o' : Obj} {l l' tl : Led} (U : Upd d o o' l l') (h : ∀ p ∈ tl, p.1 ≠ d) : Upd d o o' (l ++ tl) (l' ++ tl) := by
  induction U with
  | head hr => exact .head fun p hp => (List.mem_append.mp hp).elim (hr p) (h p)
  | tail hp _ ih => exact .tail hp ih
theorem updMem {d : Addr} {o o' : Obj} {l l' : Led} (U : Upd d o o' l l') : (d, o) ∈ l := by
  induction U with
  | head _ => exact .head _
  | tail _ _ ih => exact .tail _ ih
theorem newsUpd {h₀ h h' : Heap} {L d : Addr} {o o' : Obj} {l l' : Led} (N : News h₀ L h l) (U : Upd d o o' l l') (hg : h'.get? d = some o') (hs : Heap.SameBut d h h') : News h₀ L h' l' := by
  obtain ⟨pre, post, rfl, rfl, h1, h2⟩ := U.split
  intro p hp
  rcases List.mem_append.mp hp with hp | hp
  · have z := N p (List.mem_append.mpr (.inl hp))
    exact ⟨hs.extBut _ _ (h1 p hp) z.1, z.2⟩
  · rcases List.mem_cons.mp hp with rfl | hp
    · exact ⟨hg, (N (d, o) (List.mem_append.mpr (.inr (.head _)))).2⟩
    · have z := N p (List.mem_append.mpr (.inr (.tail _ hp)))
      exact ⟨hs.extBut _ _ (h2 p hp) z.1, z.2⟩
theorem c_dset (w : World) (x : Addr) (v : Value) (d : Addr) (n : Nat) (lo hi : Int) (b0 : 0 ≤ lo) (b1 : lo < hi) (b2 : hi < 10^19)
    {p : Program} {loose : List Str} {mean : ExcName → Option Value} {mg mb : Str → Option Value} {dp u : Nat} {gd : Option (List Code)} {cn : Str} {cs : Scope} {a : Addr} {ccd : Value} {cl : List (Str × Addr)} {outer : List Env} {A₀ : Around} {base h₀ : Heap} {L : Addr} {m : Str → Option Value} {news : Led} {news' : Int → Led} {s : Shared} {Q : Unit → Shared → Prop} {E : Value → Shared → Prop}
    (B : Below A₀ base outer h₀) (F : Fr h₀ L s.heap m) (X : (hd3.heap_39 w.params).In h₀) (N : News h₀ L s.heap news) (T : Top p loose mean mg mb h₀) (hk : cs.kind = .function) (hV : VarAt w news (.ref x) lo hi)
    (U : ∀ j, Upd d (dictOf [] n) (dictOf [⟨j, .ref x, v⟩] (n + 1)) news (news' j)) (hd : dp + 12 < recursionLimit) (hu : u + 70 < cLine)
    (ret : ∀ j tl h' tk', Fr h₀ L h' m → News h₀ L h' (news' j ++ tl) → (∀ q ∈ news, ∀ p ∈ tl, q.1 ≠ p.1) → Q () { s with heap := h', toks := tk' }) :
    wpAny (model PySem.Challenge.rw_fk5025_03.row.prog w) (ktrTop dp u gd cn cs L a ccd cl outer) (setItem (.ref d) (.ref x) v) Q E s := by
  have hV' := hV
  have hm : (d, dictOf [] n) ∈ news := updMem (U 0)
  cases hV
  rename_i hx hdx
  k_dflt (refine dset_empty (A := ktrTop dp u gd cn cs L a ccd cl outer) (by (show u + 1 < cLine); omega) (by k_in) (by k_inst) (by k_is) (by k_is) (N _ hm).1 ?_)
  refine Ctc.use (dp := dp) (u := u + 1) (c_hash w _ lo hi b0 b1 b2) B F X N T hk hV' hd (by omega) ?_
  rintro r tl h' tk' F' N' ho ⟨i, t, rfl⟩
  have hne : ∀ p ∈ tl, p.1 ≠ d := fun p hp => Ne.symm (ho _ hm p hp)
  refine ⟨i, t, rfl, (N' _ (List.mem_append.mpr (.inl hm))).1, fun j h'' hg hs => ?_⟩
  have hdL : d ≠ L := (N _ hm).2.1
  have hd₀ : h₀.get? d = none := (N _ hm).2.2
  refine ret j tl h'' tk' (F'.change hs hdL hd₀) (newsUpd N' (updApp (U j) hne) hg hs) ho
theorem mod_fact {lo hi b : Int} (hb : 0 < b) (h1 : lo < hi) (hw : lo / b ≠ hi / b) : hi - lo ≥ b ∨ hi % b ≤ lo % b := by
  have e1 := Int.mul_ediv_add_emod lo b
  have e2 := Int.mul_ediv_add_emod hi b
  have m1 := Int.emod_nonneg lo (Int.ne_of_gt hb)
  have m2 := Int.emod_lt_of_pos lo hb
  have m3 := Int.emod_nonneg hi (Int.ne_of_gt hb)
  have m4 := Int.emod_lt_of_pos hi hb
  by_cases hq : lo / b + 1 < hi / b
  · left
    have : b * (lo / b + 2) ≤ b * (hi / b) := Int.mul_le_mul_of_nonneg_left (by omega) (by omega)
    rw [Int.mul_add] at this
    omega
  · have hle : lo / b ≤ hi / b := Int.ediv_le_ediv hb (by omega)
    have he : hi / b = lo / b + 1 := by omega
    rw [he, Int.mul_add, Int.mul_one] at e2
    omega
theorem c_Mod (w : World) (va : Value) (lo hi b : Int) (t : Tok) (h0 : 0 ≤ lo) (h1 : lo < hi) (hb : 0 < b) (hb2 : b < 18446744073709551616) (hw : lo / b ≠ hi / b) : Ctc w (call (.ref 567) [va, .int b t]) 20 164 (fun l => MMAt w l va lo hi) (fun l r => OpAt w l 567 r va b 0 (b - 1)) := by
  have hM := mod_fact hb h1 hw
  have hne : lo ≠ hi := by omega
  clear hw
  rcases hM with hM | hM
  · have := hne
    unfold Ctc
    k_fill
    intro p loose mean mg mb dp u gd cn cs a ccd cl outer A₀ base h₀ L m news s Q E B F X N T hk hP hd hu hret
    k_steps
    all_goals (refine hret _ _ _ _ (by k_asm) (endD0 [_, _] [_, _] (by k_asm)) (by walk_at "my ord") ?_; exact .mk (by k_mem) (by k_mem))
  · have := hne
    unfold Ctc
    k_fill
    intro p loose mean mg mb dp u gd cn cs a ccd cl outer A₀ base h₀ L m news s Q E B F X N T hk hP hd hu hret
    k_steps
    all_goals (refine hret _ _ _ _ (by k_asm) (endD0 [_, _] [_, _] (by k_asm)) (by walk_at "my ord") ?_; exact .mk (by k_mem) (by k_mem))
open SeqAt AutoSeq1 MeetsSeq in
theorem int_eq_own (b : Int) (u : Tok) (l C d : Addr) :
    Meets (Builtin.«int.__eq__» ⟨[.int b u, .ref l], []⟩) (fun _ R s => s.heap.get? l = some (instObj C d) ∧ R (.ok (.ret .notImplemented)) s) :=
  .of_wp fun prog w A R s h => by obtain ⟨hp, g, d, tk, os⟩ := s; obtain ⟨hl, h⟩ := h; wp_walk using wpAny_loadPart' hl, wpAny_load hl; exact ⟨_, rfl, h⟩
section
variable {prog : Program} {w : World} {A : Around} {E : Value → Shared → Prop} {s : Shared} {K : Frag} {x C L f d : Addr} {h₀ : Heap} {m : Str → Option Value} {od : Option Obj}
/-- == of an own object and an int, where the own method answers NotImplemented -/
theorem eq_declined {n : Int} {t : Tok} {Q : Value → Shared → Prop} (hu : A.units < cLine) (kF : Fr h₀ L s.heap m) (X₀ : K.In h₀) (I : InstAt s.heap x (instObj C d) C od) (hn : notFirst K C (.type "int") = true)
    (hs : findIn K (.ref C) (cmpInfo .Eq).2.1 = some (some (.ref f))) (hf : isFn K (.ref f) = true)
    (h : wpAny (model prog w) A (call (.ref f) [.ref x, .int n t]) (fun v s' => v = .notImplemented ∧ s'.heap.get? x = some (instObj C d) ∧ Q (.bool false) s') E s) :
    wpAny (model prog w) A (compareOp .Eq (.ref x) (.int n t)) Q E s := by
  have X := X₀.keeps kF.keep
  show wpAny (model prog w) A (richCompare .Eq (.ref x) (.int n t)) Q E s
  have one : wpAny (model prog w) A (tryCompare (.ref x) (cmpInfo .Eq).2.1 (.int n t)) (fun r s' => r = none ∧ s'.heap.get? x = some (instObj C d) ∧ Q (.bool false) s') E s := by
    unfold tryCompare
    refine wpAny_bind (ifBound_K X I hs hf (wpAny_mono h (fun v s' hv => ?_) fun _ _ e => e))
    obtain ⟨rfl, hv⟩ := hv
    exact wpAny_pure ⟨rfl, hv⟩
  have two : ∀ s' : Shared, s'.heap.get? x = some (instObj C d) → Q (.bool false) s' → wpAny (model prog w) A (tryCompare (.int n t) (cmpInfo .Eq).2.2 (.ref x)) (fun r s'' => r = none ∧ Q (.bool false) s'') E s' := by
    intro s' hx hq
    unfold tryCompare
    refine wpAny_bind (wpAny_callSpecialIfBound?_slot (T := "int") rfl PySem.F.slot_int_eq ?_)
    exact PySem.call_meets PySem.F.slot_int_eq rfl PySem.F.entry_int_eq (PySem.F.args_int_eq_2 _ _) (int_eq_own n t x C d) ⟨hx, wpAny_pure ⟨rfl, hq⟩⟩
  have three : ∀ s' : Shared, Q (.bool false) s' → wpAny (model prog w) A (isSame (.ref x) (.int n t)) (fun b s'' => Q (.bool b) s'') E s' := by
    intro s' hq
    unfold isSame
    exact wpAny_pure hq
  have hb : Looks (model prog w) s.heap (typeOf (.int n t)) (.type "int") := Looks.of_pure rfl
  have fin : ∀ s' : Shared, s'.heap.get? x = some (instObj C d) → Q (.bool false) s' → wpAny (model prog w) A (do
      if let some v ← tryCompare (.int n t) (cmpInfo .Eq).2.2 (.ref x) then return v
      rule "compare.eq-identity"; return .bool (← isSame (.ref x) (.int n t))) Q E s' := by
    intro s' hx hq
    refine wpAny_bind (wpAny_mono (two s' hx hq) (fun r s'' z => ?_) fun _ _ e => e)
    obtain ⟨rfl, hq⟩ := z
    refine wpAny_bind (wpAny_rule ?_)
    exact wpAny_bind (wpAny_mono (three s'' hq) (fun b s₃ z => wpAny_pure z) fun _ _ e => e)
  unfold richCompare
  simp only [oneThing_ref]
  refine wpAny_holding (wpAny_bind (wpAny_cRoomFor hu ?_))
  refine wpAny_bind (I.type.here (wpAny_bind (hb.here ?_)))
  split
  · rename_i q
    have e : subIn K (.type "int") (.ref C) = some false := by
      rcases Bool.or_eq_true_iff.mp hn with e | e
      · rw [beq_iff_eq.mp e] at q; simp at q
      · exact beq_iff_eq.mp e
    refine wpAny_bind ((looks_subIn X e).here ?_)
    simp only [Bool.false_eq_true, if_false]
    refine wpAny_bind (wpAny_mono one (fun r s' z => ?_) fun _ _ e => e)
    obtain ⟨rfl, hx, hq⟩ := z
    exact fin s' hx hq
  · refine wpAny_bind (wpAny_pure ?_)
    simp only [Bool.false_eq_true, if_false]
    refine wpAny_bind (wpAny_mono one (fun r s' z => ?_) fun _ _ e => e)
    obtain ⟨rfl, hx, hq⟩ := z
    exact fin s' hx hq
end
theorem c_eqV (w : World) (v : Value) (lo hi n : Int) (t : Tok) : Ctc w (compareOp .Eq v (.int n t)) 4 64 (fun l => VarAt w l v lo hi) (fun _ r => r = .bool false) := by
  unfold Ctc
  k_fill
  intro p loose mean mg mb dp u gd cn cs a ccd cl outer A₀ base h₀ L m news s Q E B F X N T hk hP hd hu hret
  cases hP
  rename_i hx hdx
  k_dflt (refine eq_declined (A := ktrTop dp u gd cn cs L a ccd cl outer) (by (show u < cLine); omega) F X (by k_inst) (by k_is) (by k_is) (by k_is) ?_)
  refine wpAny_call ?_
  k_dflt k_enter
  k_steps
  all_goals first
    | rfl
    | ((with_reducible rename News _ _ _ _ => N9); exact (N9 _ hx).1)
    | (refine hret _ _ _ _ (by k_asm) (end0 [] (by k_asm)) (by walk_at "my ord") ?_; rfl)
theorem c_eqM (w : World) (v va : Value) (b lo hi n : Int) (t : Tok) : Ctc w (compareOp .Eq v (.int n t)) 4 64 (fun l => OpAt w l 492 v va b lo hi) (fun _ r => r = .bool false) := by
  unfold Ctc
  k_fill
  intro p loose mean mg mb dp u gd cn cs a ccd cl outer A₀ base h₀ L m news s Q E B F X N T hk hP hd hu hret
  cases hP
  rename_i hx hdx
  k_dflt (refine eq_declined (A := ktrTop dp u gd cn cs L a ccd cl outer) (by (show u < cLine); omega) F X (by k_inst) (by k_is) (by k_is) (by k_is) ?_)
  refine wpAny_call ?_
  k_dflt k_enter
  k_steps
  all_goals first
    | rfl
    | ((with_reducible rename News _ _ _ _ => N9); exact (N9 _ hx).1)
    | (refine hret _ _ _ _ (by k_asm) (end0 [] (by k_asm)) (by walk_at "my ord") ?_; rfl)
theorem allLtApp_iff {d : Addr} {l l' : Led} : AllLt d (l ++ l') ↔ AllLt d l ∧ AllLt d l' := by
  refine ⟨allLtApp, ?_⟩
  induction l with
  | nil => exact fun h => h.2
  | cons p r ih => exact fun h => ⟨h.1.1, ih ⟨h.1.2, h.2⟩⟩
theorem MMAt.cast {w : World} {l : Led} {v : Value} {a b a' b' : Int} (h : MMAt w l v a b) (e : a = a') (f : b = b') : MMAt w l v a' b' := by
  subst e; subst f; exact h
theorem subMem {p : Addr × Obj} {l l' : Led} (h : p ∈ l) (hs : ∀ p ∈ l, p ∈ l') : p ∈ l' := hs p h
theorem offDict {l : Led} {a d : Addr} {es : List DictEntry} {n : Nat} {vs : List Value} (h : (a, LCg.lst vs) ∈ (d, dictOf es n) :: l) : (a, LCg.lst vs) ∈ l := by
  rcases List.mem_cons.mp h with e | h
  · exfalso
    have e2 : (LCg.lst vs).cls = (dictOf es n).cls := congrArg (fun p : Addr × Obj => p.2.cls) e
    injection e2 with e3
    exact absurd e3 (by decide)
  · exact h
/-- the same, what it makes written out ahead of the ledger -/
abbrev CtX (w : World) (T : Sem Value) (dn un : Nat) (Pre : Led → Prop) (R : Led → Led → Value → Prop) : Prop :=
  ∀ (p : Program) (loose : List Str) (mean : ExcName → Option Value) (mg mb : Str → Option Value) (dp u : Nat) (gd : Option (List Code)) (cn : Str) (cs : Scope) (a : Addr) (ccd : Value) (cl : List (Str × Addr)) (outer : List Env) (A₀ : Around) (base h₀ : Heap) (L : Addr) (m : Str → Option Value) (news : Led) (s : Shared) (Q E : Value → Shared → Prop),
    Below A₀ base outer h₀ → Fr h₀ L s.heap m → (hd3.heap_39 w.params).In h₀ → News h₀ L s.heap news → Top p loose mean mg mb h₀ → cs.kind = .function → Pre news → dp + dn < recursionLimit → u + un < cLine →
    (∀ r tl h' tk', Fr h₀ L h' m → News h₀ L h' (tl ++ news) → R news tl r → Q r { s with heap := h', toks := tk' }) →
    wpAny (model PySem.Challenge.rw_fk5025_03.row.prog w) (ktrTop dp u gd cn cs L a ccd cl outer) T Q E s
theorem CtX.use {w : World} {T : Sem Value} {dn un : Nat} {Pre : Led → Prop} {R : Led → Led → Value → Prop} (C : CtX w T dn un Pre R)
    {p : Program} {loose : List Str} {mean : ExcName → Option Value} {mg mb : Str → Option Value} {dp u : Nat} {gd : Option (List Code)} {cn : Str} {cs : Scope} {a : Addr} {ccd : Value} {cl : List (Str × Addr)} {outer : List Env} {A₀ : Around} {base h₀ : Heap} {L : Addr} {m : Str → Option Value} {news : Led} {s : Shared} {Q E : Value → Shared → Prop}
    (B : Below A₀ base outer h₀) (F : Fr h₀ L s.heap m) (X : (hd3.heap_39 w.params).In h₀) (N : News h₀ L s.heap news) (Tp : Top p loose mean mg mb h₀) (hk : cs.kind = .function) (hP : Pre news) (hd : dp + dn < recursionLimit) (hu : u + un < cLine)
    (ret : ∀ r tl h' tk', Fr h₀ L h' m → News h₀ L h' (tl ++ news) → R news tl r → Q r { s with heap := h', toks := tk' }) :
    wpAny (model PySem.Challenge.rw_fk5025_03.row.prog w) (ktrTop dp u gd cn cs L a ccd cl outer) T Q E s := C _ _ _ _ _ _ _ _ _ _ _ _ _ _ _ _ _ _ _ _ _ _ _ B F X N Tp hk hP hd hu ret
theorem newsL {h₀ h : Heap} {L : Addr} {news tl : Led} (N : News h₀ L h (news ++ tl)) : News h₀ L h ([] ++ news) := fun p hp => N p (List.mem_append.mpr (.inl hp))
theorem Ctc.drop {w : World} {T : Sem Value} {dn un : Nat} {Pre : Led → Prop} {R : Led → Value → Prop} (C : Ctc w T dn un Pre R) (R' : Value → Prop) (h : ∀ l r, R l r → R' r) : CtX w T dn un Pre (fun _ tl r => tl = [] ∧ R' r) :=
  fun _ _ _ _ _ _ _ _ _ _ _ _ _ _ _ _ _ _ _ _ _ _ _ B F X N Tp hk hP hd hu ret => C.use B F X N Tp hk hP hd hu fun r _ h' tk' F' N' _ hR => ret r [] h' tk' F' (newsL N') ⟨rfl, h _ _ hR⟩
theorem endX2 {h₀ h' : Heap} {L : Addr} {m : Str → Option Value} {news l : Led} {s : Shared} {Q : Value → Shared → Prop} {R : Led → Led → Value → Prop} {r : Value} {tk' : Nat} {p1 p2 : Addr × Obj}
    (hret : ∀ r tl h' tk', Fr h₀ L h' m → News h₀ L h' (tl ++ news) → R news tl r → Q r { s with heap := h', toks := tk' })
    (F : Fr h₀ L h' m) (N : News h₀ L h' l) (a : p1 ∈ l) (b : p2 ∈ l) (sub : ∀ p ∈ news, p ∈ l) (hR : R news [p1, p2] r) : Q r { s with heap := h', toks := tk' } :=
  hret r [p1, p2] h' tk' F (fun p hp => N p (by
    rcases List.mem_cons.mp hp with rfl | hp
    · exact a
    rcases List.mem_cons.mp hp with rfl | hp
    · exact b
    exact sub p hp)) hR
theorem endX1 {h₀ h' : Heap} {L : Addr} {m : Str → Option Value} {news l : Led} {s : Shared} {Q : Value → Shared → Prop} {R : Led → Led → Value → Prop} {r : Value} {tk' : Nat} {p1 : Addr × Obj}
    (hret : ∀ r tl h' tk', Fr h₀ L h' m → News h₀ L h' (tl ++ news) → R news tl r → Q r { s with heap := h', toks := tk' })
    (F : Fr h₀ L h' m) (N : News h₀ L h' l) (a : p1 ∈ l) (sub : ∀ p ∈ news, p ∈ l) (hR : R news [p1] r) : Q r { s with heap := h', toks := tk' } :=
  hret r [p1] h' tk' F (fun p hp => N p (by
    rcases List.mem_cons.mp hp with rfl | hp
    · exact a
    exact sub p hp)) hR
def NumX (w : World) (n : Int) (news tl : Led) (r : Value) : Prop := ∃ (x dx : Addr) (t1 t2 t3 t4 t5 t6 : Tok), r = .ref x ∧ tl = [(x, instObj 359 dx),
      (dx, dictOf [⟨PyData.keyHash w.params (Str.ofString "b"), .str (Str.ofString "b") t1, .int n t2⟩, ⟨PyData.keyHash w.params (Str.ofString "min"), .str (Str.ofString "min") t3, .int n t4⟩, ⟨PyData.keyHash w.params (Str.ofString "max"), .str (Str.ofString "max") t5, .int n t6⟩] 3)] ∧ AllLt dx news ∧ @LT.lt Nat _ dx x
def SumX (w : World) (ll : Addr) (lo hi : Int) (news tl : Led) (r : Value) : Prop := ∃ (x dx : Addr) (t1 t2 t3 t4 t5 : Tok), r = .ref x ∧ tl = [(x, instObj 648 dx),
      (dx, dictOf [⟨PyData.keyHash w.params (Str.ofString "nodes"), .str (Str.ofString "nodes") t1, .ref ll⟩, ⟨PyData.keyHash w.params (Str.ofString "min"), .str (Str.ofString "min") t2, .int lo t3⟩, ⟨PyData.keyHash w.params (Str.ofString "max"), .str (Str.ofString "max") t4, .int hi t5⟩] 3)] ∧ AllLt dx news ∧ @LT.lt Nat _ dx x
def OpX (w : World) (C : Addr) (va : Value) (b lo hi : Int) (news tl : Led) (r : Value) : Prop := ∃ (x dx : Addr) (t1 t2 t3 t4 t5 t6 t7 : Tok), r = .ref x ∧ tl = [(x, instObj C dx),
      (dx, dictOf [⟨PyData.keyHash w.params (Str.ofString "a"), .str (Str.ofString "a") t1, va⟩, ⟨PyData.keyHash w.params (Str.ofString "b"), .str (Str.ofString "b") t2, .int b t3⟩, ⟨PyData.keyHash w.params (Str.ofString "min"), .str (Str.ofString "min") t4, .int lo t5⟩, ⟨PyData.keyHash w.params (Str.ofString "max"), .str (Str.ofString "max") t6, .int hi t7⟩] 4)] ∧ AllLt dx news ∧ @LT.lt Nat _ dx x
def LstX (vs : List Value) (news tl : Led) (r : Value) : Prop := ∃ l2 : Addr, r = .ref l2 ∧ tl = [(l2, LCg.lst vs)] ∧ ∀ q ∈ news, @Ne Nat q.1 l2
theorem x_num (w : World) (n : Int) (t : Tok) : CtX w (call (.ref 359) [.int n t]) 8 64 (fun _ => True) (NumX w n) := by
  unfold CtX
  k_fill
  intro p loose mean mg mb dp u gd cn cs a ccd cl outer A₀ base h₀ L m news s Q E B F X N T hk hP hd hu hret
  k_steps
  refine endX2 hret (by k_asm) (by k_asm) (by k_mem) (by k_mem) (by walk_at "my sub") ⟨_, _, _, _, _, _, _, _, rfl, rfl, by first | tbn_find | exact allLt_of (by assumption), by assumption⟩
theorem x_Sum2 (w : World) (ll : Addr) (v1 v2 : Value) (lo1 hi1 lo2 hi2 : Int) : CtX w (call (.ref 648) [.ref ll]) 20 164 (fun l => (ll, LCg.lst [v1, v2]) ∈ l ∧ MMAt w l v1 lo1 hi1 ∧ MMAt w l v2 lo2 hi2) (SumX w ll (lo1 + (lo2 + 0)) (hi1 + (hi2 + 0))) := by
  unfold CtX
  k_fill
  intro p loose mean mg mb dp u gd cn cs a ccd cl outer A₀ base h₀ L m news s Q E B F X N T hk hP hd hu hret
  obtain ⟨hl, hm1, hm2⟩ := hP
  k_steps
  refine endX2 hret (by k_asm) (by k_asm) (by k_mem) (by k_mem) (by walk_at "my sub") ⟨_, _, _, _, _, _, _, rfl, rfl, by first | tbn_find | exact allLt_of (by assumption), by assumption⟩
theorem x_flatV (w : World) (r : Value) (ll : Addr) (v1 v2 : Value) (lo hi n a b : Int) : CtX w (getAttr r (Str.ofString "flat_components") true) 20 164 (fun l => SumAt w l ll r a b ∧ (ll, LCg.lst [v1, v2]) ∈ l ∧ VarAt w l v1 lo hi ∧ NumAt w l v2 n) (LstX [v1, v2]) := by
  unfold CtX
  k_fill
  intro p loose mean mg mb dp u gd cn cs a ccd cl outer A₀ base h₀ L m news s Q E B F X N T hk hP hd hu hret
  obtain ⟨hs, hl, hm1, hm2⟩ := hP
  cases hs
  cases hm1
  cases hm2
  k_steps
  refine endX1 hret (by k_asm) (by k_asm) (by k_mem) (by walk_at "my sub") ⟨_, rfl, rfl, by (show ∀ q ∈ (_ : Led), q.1 ≠ _); walk_at "my lt"⟩
theorem x_flatM (w : World) (r : Value) (ll : Addr) (v1 v2 va : Value) (lo hi k n a b : Int) : CtX w (getAttr r (Str.ofString "flat_components") true) 20 164 (fun l => SumAt w l ll r a b ∧ (ll, LCg.lst [v1, v2]) ∈ l ∧ OpAt w l 492 v1 va k lo hi ∧ NumAt w l v2 n) (LstX [v1, v2]) := by
  unfold CtX
  k_fill
  intro p loose mean mg mb dp u gd cn cs a ccd cl outer A₀ base h₀ L m news s Q E B F X N T hk hP hd hu hret
  obtain ⟨hs, hl, hm1, hm2⟩ := hP
  cases hs
  cases hm1
  cases hm2
  k_steps
  refine endX1 hret (by k_asm) (by k_asm) (by k_mem) (by walk_at "my sub") ⟨_, rfl, rfl, by (show ∀ q ∈ (_ : Led), q.1 ≠ _); walk_at "my lt"⟩
theorem x_flatN (w : World) (r : Value) (ll : Addr) (v1 v2 : Value) (n1 n a b : Int) : CtX w (getAttr r (Str.ofString "flat_components") true) 20 164 (fun l => SumAt w l ll r a b ∧ (ll, LCg.lst [v1, v2]) ∈ l ∧ NumAt w l v1 n1 ∧ NumAt w l v2 n) (LstX [v1, v2]) := by
  unfold CtX
  k_fill
  intro p loose mean mg mb dp u gd cn cs a ccd cl outer A₀ base h₀ L m news s Q E B F X N T hk hP hd hu hret
  obtain ⟨hs, hl, hm1, hm2⟩ := hP
  cases hs
  cases hm1
  cases hm2
  k_steps
  refine endX1 hret (by k_asm) (by k_asm) (by k_mem) (by walk_at "my sub") ⟨_, rfl, rfl, by (show ∀ q ∈ (_ : Led), q.1 ≠ _); walk_at "my lt"⟩
theorem x_MulP (w : World) (va : Value) (lo hi b : Int) (t : Tok) (h0 : 0 ≤ lo) (hb : 0 ≤ b) (hb2 : b < 18446744073709551616) : CtX w (call (.ref 492) [va, .int b t]) 20 164 (fun l => MMAt w l va lo hi) (OpX w 492 va b (lo * b) (hi * b)) := by
  unfold CtX
  k_fill
  intro p loose mean mg mb dp u gd cn cs a ccd cl outer A₀ base h₀ L m news s Q E B F X N T hk hP hd hu hret
  k_steps
  refine endX2 hret (by k_asm) (by k_asm) (by k_mem) (by k_mem) (by walk_at "my sub") ⟨_, _, _, _, _, _, _, _, _, rfl, rfl, by first | tbn_find | exact allLt_of (by assumption), by assumption⟩
theorem x_MulN (w : World) (va : Value) (lo hi b : Int) (t : Tok) (h0 : 0 ≤ lo) (hb : b < 0) (hb2 : -18446744073709551616 < b) : CtX w (call (.ref 492) [va, .int b t]) 20 164 (fun l => MMAt w l va lo hi) (OpX w 492 va b (hi * b) (lo * b)) := by
  unfold CtX
  k_fill
  intro p loose mean mg mb dp u gd cn cs a ccd cl outer A₀ base h₀ L m news s Q E B F X N T hk hP hd hu hret
  k_steps
  refine endX2 hret (by k_asm) (by k_asm) (by k_mem) (by k_mem) (by walk_at "my sub") ⟨_, _, _, _, _, _, _, _, _, rfl, rfl, by first | tbn_find | exact allLt_of (by assumption), by assumption⟩
theorem x_dget (w : World) (v dflt : Value) (d : Addr) (n : Nat) (lo hi : Int) (b0 : 0 ≤ lo) (b1 : lo < hi) (b2 : hi < 10^19) (hy : (d == sysModules) = false) :
    CtX w (call (.builtin "dict.get") [.ref d, v, dflt]) 12 70 (fun l => VarAt w l v lo hi ∧ (d, dictOf [] n) ∈ l) (fun _ tl r => tl = [] ∧ r = dflt) :=
  Ctc.drop (c_dget w v dflt d n lo hi b0 b1 b2 hy) (fun r => r = dflt) fun _ _ h => h
theorem x_dset (w : World) (x : Addr) (v : Value) (d : Addr) (n : Nat) (lo hi : Int) (b0 : 0 ≤ lo) (b1 : lo < hi) (b2 : hi < 10^19)
    {p : Program} {loose : List Str} {mean : ExcName → Option Value} {mg mb : Str → Option Value} {dp u : Nat} {gd : Option (List Code)} {cn : Str} {cs : Scope} {a : Addr} {ccd : Value} {cl : List (Str × Addr)} {outer : List Env} {A₀ : Around} {base h₀ : Heap} {L : Addr} {m : Str → Option Value} {news : Led} {news' : Int → Led} {s : Shared} {Q : Unit → Shared → Prop} {E : Value → Shared → Prop}
    (B : Below A₀ base outer h₀) (F : Fr h₀ L s.heap m) (X : (hd3.heap_39 w.params).In h₀) (N : News h₀ L s.heap news) (T : Top p loose mean mg mb h₀) (hk : cs.kind = .function) (hV : VarAt w news (.ref x) lo hi)
    (U : ∀ j, Upd d (dictOf [] n) (dictOf [⟨j, .ref x, v⟩] (n + 1)) news (news' j)) (hd : dp + 12 < recursionLimit) (hu : u + 70 < cLine)
    (ret : ∀ j h' tk', Fr h₀ L h' m → News h₀ L h' (news' j) → Q () { s with heap := h', toks := tk' }) :
    wpAny (model PySem.Challenge.rw_fk5025_03.row.prog w) (ktrTop dp u gd cn cs L a ccd cl outer) (setItem (.ref d) (.ref x) v) Q E s :=
  c_dset w x v d n lo hi b0 b1 b2 B F X N T hk hV U hd hu fun j _ h' tk' F' N' _ => ret j h' tk' F' (newsL N')
theorem x_eqV (w : World) (v : Value) (lo hi n : Int) (t : Tok) : CtX w (compareOp .Eq v (.int n t)) 4 64 (fun l => VarAt w l v lo hi) (fun _ tl r => tl = [] ∧ r = .bool false) :=
  Ctc.drop (c_eqV w v lo hi n t) (fun r => r = .bool false) fun _ _ h => h
theorem x_eqM (w : World) (v va : Value) (b lo hi n : Int) (t : Tok) : CtX w (compareOp .Eq v (.int n t)) 4 64 (fun l => OpAt w l 492 v va b lo hi) (fun _ tl r => tl = [] ∧ r = .bool false) :=
  Ctc.drop (c_eqM w v va b lo hi n t) (fun r => r = .bool false) fun _ _ h => h
theorem unrEndA {h₀ : Heap} {L I : Addr} {it : Obj} {rest : (Str → Option Value) → Led → Prop} {s₁ : Shared} {h' : Heap} {tk : Nat} {m' : Str → Option Value} {n : Led} (F : Fr h₀ L h' m') (N : News h₀ L h' ((I, it) :: n))
    (off : ∀ q ∈ n, q.1 ≠ I) (r : rest m' n) : UnrEnd h₀ L s₁ I it rest { s₁ with heap := h', toks := tk } :=
  UnrEnd.intro F N n (fun _ h => h) off r
theorem unrEndB {h₀ : Heap} {L I : Addr} {it : Obj} {rest : (Str → Option Value) → Led → Prop} {s₁ : Shared} {h' : Heap} {tk : Nat} {m' : Str → Option Value} {p : Addr × Obj} {n : Led} (F : Fr h₀ L h' m') (N : News h₀ L h' (p :: (I, it) :: n))
    (off : ∀ q ∈ p :: n, q.1 ≠ I) (r : rest m' (p :: n)) : UnrEnd h₀ L s₁ I it rest { s₁ with heap := h', toks := tk } :=
  UnrEnd.intro F N (p :: n) (fun q h => by
    rcases List.mem_cons.mp h with rfl | h
    · exact .tail _ (.head _)
    rcases List.mem_cons.mp h with rfl | h
    · exact .head _
    · exact .tail _ (.tail _ h)) off r
theorem unrEndC {h₀ : Heap} {L I : Addr} {it : Obj} {rest : (Str → Option Value) → Led → Prop} {s₁ : Shared} {h' : Heap} {tk : Nat} {m' : Str → Option Value} {p p2 : Addr × Obj} {n : Led} (F : Fr h₀ L h' m') (N : News h₀ L h' (p :: p2 :: (I, it) :: n))
    (off : ∀ q ∈ p :: p2 :: n, q.1 ≠ I) (r : rest m' (p :: p2 :: n)) : UnrEnd h₀ L s₁ I it rest { s₁ with heap := h', toks := tk } :=
  UnrEnd.intro F N (p :: p2 :: n) (fun q h => by
    rcases List.mem_cons.mp h with rfl | h
    · exact .tail _ (.tail _ (.head _))
    rcases List.mem_cons.mp h with rfl | h
    · exact .head _
    rcases List.mem_cons.mp h with rfl | h
    · exact .tail _ (.head _)
    · exact .tail _ (.tail _ (.tail _ h))) off r
theorem compEndB {h₀ : Heap} {L I C D : Addr} {m : Str → Option Value} {s₁ : Shared} {oI oC oD : Obj} {S : Led → Prop} {rest : Value → Led → Prop} {y : Value} {h' : Heap} {tk : Nat} {n : Led} {x dx : Addr} {o o2 : Obj}
    (F : Fr h₀ L h' m) (N : News h₀ L h' ((x, o) :: (dx, o2) :: (I, oI) :: (C, oC) :: (D, oD) :: n)) (lt : @LT.lt Nat _ I dx ∧ @LT.lt Nat _ C dx ∧ @LT.lt Nat _ D dx) (lx : @LT.lt Nat _ dx x) (off : LCg.Off3 I C D n) (hS : S ((x, o) :: (dx, o2) :: n)) (r : rest y ((x, o) :: (dx, o2) :: n)) :
    LCg.CompEnd h₀ L m s₁ I oI C oC D oD S rest y { s₁ with heap := h', toks := tk } :=
  LCg.CompEnd.intro F N ((x, o) :: (dx, o2) :: n) (fun p hp => by simp only [List.mem_cons] at hp ⊢; rcases hp with h | h | h | h | h | h <;> simp [h])
    ⟨⟨Nat.ne_of_gt (Nat.lt_trans lt.1 lx), Nat.ne_of_gt (Nat.lt_trans lt.2.1 lx), Nat.ne_of_gt (Nat.lt_trans lt.2.2 lx)⟩, ⟨Nat.ne_of_gt lt.1, Nat.ne_of_gt lt.2.1, Nat.ne_of_gt lt.2.2⟩, off⟩ hS r
theorem off1_ne2 {D d : Addr} {o : Obj} {l : Led} (h : LCg.Off1 D l) (hm : (d, o) ∈ l) : d ≠ D := offMem h _ hm
theorem endM {h₀ h' : Heap} {L : Addr} {m : Str → Option Value} {w : World} {news l : Led} {s : Shared} {Q : Value → Shared → Prop} {LO HI : Int} {tk' : Nat} {x dx C : Addr} {es : List DictEntry} {k : Nat} {lo hi : Int} {t1 t2 : Tok}
    (hret : ∀ r tl h' tk', Fr h₀ L h' m → News h₀ L h' (news ++ tl) → (∀ q ∈ news, ∀ p ∈ tl, q.1 ≠ p.1) → MMAt w (news ++ tl) r LO HI → Q r { s with heap := h', toks := tk' })
    (F : Fr h₀ L h' m) (N : News h₀ L h' l) (a : (x, instObj C dx) ∈ l) (b : (dx, dictOf es k) ∈ l) (hC : NodeCls C)
    (f : getL (Str.ofString "min") es = some (some (.int lo t1))) (g : getL (Str.ofString "max") es = some (some (.int hi t2))) (e1 : lo = LO) (e2 : hi = HI)
    (sub : ∀ p ∈ news, p ∈ l) (o2 : ∀ q ∈ news, q.1 ≠ dx) (o1 : ∀ q ∈ news, q.1 ≠ x) : Q (.ref x) { s with heap := h', toks := tk' } := by
  subst e1; subst e2
  have hM : MMAt w (news ++ [(x, instObj C dx), (dx, dictOf es k)]) (.ref x) lo hi :=
    .mk hC (List.mem_append.mpr (.inr (.head _))) (List.mem_append.mpr (.inr (.tail _ (.head _)))) f g
  refine hret _ [(x, instObj C dx), (dx, dictOf es k)] h' tk' F (fun p hp => N p ?_) ?_ hM
  · rcases List.mem_append.mp hp with hp | hp
    · exact sub p hp
    rcases List.mem_cons.mp hp with rfl | hp
    · exact a
    rcases List.mem_cons.mp hp with rfl | hp
    · exact b
    · cases hp
  · exact ordC o1 (ordC o2 ord0)
theorem endKM {h₀ h' : Heap} {L : Addr} {m : Str → Option Value} {w : World} {news l : Led} {s : Shared} {Q : Value → Shared → Prop} {LO HI : Int} {r : Value} {tk' : Nat}
    (hret : ∀ r tl h' tk', Fr h₀ L h' m → News h₀ L h' (news ++ tl) → (∀ q ∈ news, ∀ p ∈ tl, q.1 ≠ p.1) → MMAt w (news ++ tl) r LO HI → Q r { s with heap := h', toks := tk' })
    (F : Fr h₀ L h' m) (N : News h₀ L h' l) (sub : ∀ p ∈ news, p ∈ l) (hR : MMAt w (news ++ []) r LO HI) : Q r { s with heap := h', toks := tk' } :=
  hret r [] h' tk' F (fun p hp => N p (sub p (by simpa using hp))) ord0 hR
theorem endKN {h₀ h' : Heap} {L : Addr} {m : Str → Option Value} {w : World} {news l : Led} {s : Shared} {Q : Value → Shared → Prop} {n : Int} {r : Value} {tk' : Nat}
    (hret : ∀ r tl h' tk', Fr h₀ L h' m → News h₀ L h' (news ++ tl) → (∀ q ∈ news, ∀ p ∈ tl, q.1 ≠ p.1) → NumAt w (news ++ tl) r n → Q r { s with heap := h', toks := tk' })
    (F : Fr h₀ L h' m) (N : News h₀ L h' l) (sub : ∀ p ∈ news, p ∈ l) (hR : NumAt w (news ++ []) r n) : Q r { s with heap := h', toks := tk' } :=
  hret r [] h' tk' F (fun p hp => N p (sub p (by simpa using hp))) ord0 hR
theorem endN {h₀ h' : Heap} {L : Addr} {m : Str → Option Value} {w : World} {news l : Led} {s : Shared} {Q : Value → Shared → Prop} {N0 n : Int} {tk' : Nat} {x dx : Addr} {t1 t2 t3 t4 t5 t6 : Tok}
    (hret : ∀ r tl h' tk', Fr h₀ L h' m → News h₀ L h' (news ++ tl) → (∀ q ∈ news, ∀ p ∈ tl, q.1 ≠ p.1) → NumAt w (news ++ tl) r N0 → Q r { s with heap := h', toks := tk' })
    (F : Fr h₀ L h' m) (N : News h₀ L h' l) (a : (x, instObj 359 dx) ∈ l)
    (b : (dx, dictOf [⟨PyData.keyHash w.params (Str.ofString "b"), .str (Str.ofString "b") t1, .int n t2⟩, ⟨PyData.keyHash w.params (Str.ofString "min"), .str (Str.ofString "min") t3, .int n t4⟩, ⟨PyData.keyHash w.params (Str.ofString "max"), .str (Str.ofString "max") t5, .int n t6⟩] 3) ∈ l)
    (e1 : n = N0) (sub : ∀ p ∈ news, p ∈ l) (o2 : ∀ q ∈ news, q.1 ≠ dx) (o1 : ∀ q ∈ news, q.1 ≠ x) : Q (.ref x) { s with heap := h', toks := tk' } := by
  subst e1
  have hM : NumAt w (news ++ [(x, instObj 359 dx), (dx, dictOf [⟨PyData.keyHash w.params (Str.ofString "b"), .str (Str.ofString "b") t1, .int n t2⟩, ⟨PyData.keyHash w.params (Str.ofString "min"), .str (Str.ofString "min") t3, .int n t4⟩, ⟨PyData.keyHash w.params (Str.ofString "max"), .str (Str.ofString "max") t5, .int n t6⟩] 3)]) (.ref x) n :=
    .mk (List.mem_append.mpr (.inr (.head _))) (List.mem_append.mpr (.inr (.tail _ (.head _))))
  refine hret _ [(x, instObj 359 dx), (dx, _)] h' tk' F (fun p hp => N p ?_) ?_ hM
  · rcases List.mem_append.mp hp with hp | hp
    · exact sub p hp
    rcases List.mem_cons.mp hp with rfl | hp
    · exact a
    rcases List.mem_cons.mp hp with rfl | hp
    · exact b
    · cases hp
  · exact ordC o1 (ordC o2 ord0)
theorem lst2 {l : Led} {ll : Addr} {v1 v2 : Value} (h : (ll, W.listOf (#[v1].push v2) ([v1].length + 1)) ∈ l) : (ll, LCg.lst [v1, v2]) ∈ l := h
theorem truthy_lst {prog : Program} {w : World} {A : Around} {E : Value → Shared → Prop} {s : Shared} {Q : Bool → Shared → Prop} {h₀ : Heap} {L l : Addr} {news : Led} {vs : List Value} (N : News h₀ L s.heap news) (hm : (l, LCg.lst vs) ∈ news) (hsz : vs.length ≤ 64)
    (h : Q (!vs.isEmpty) { s with toks := s.toks + 1 + 1 }) : wpAny (model prog w) A (truthy (.ref l)) Q E s :=
  wpAny_truthy_list (items := vs.toArray) ⟨_, (N _ hm).1, rfl, _, rfl⟩ (by simp only [List.size_toArray]; omega) (by simpa using h)
theorem item_lst {prog : Program} {w : World} {A : Around} {E : Value → Shared → Prop} {s : Shared} {Q : Value → Shared → Prop} {h₀ : Heap} {L l : Addr} {news : Led} {vs : List Value} {value slice : PySem.Expr} {k : Int} {u : Tok} {v : Value} (N : News h₀ L s.heap news) (hm : (l, LCg.lst vs) ∈ news)
    (h0 : 0 ≤ k) (hhi : k < 2 ^ 63) (hx : vs[k.toNat]? = some v) (h : Q v s)
    (hs : subscripted slice false (.ref l) (.int k u) = operate [.ref l, .int k u] (getItem (.ref l) (.int k u))) :
    wpAny (model prog w) A (subscriptTail value slice (.ref l) (.int k u)) Q E s :=
  have hl : s.heap.IsList l vs.toArray := ⟨_, (N _ hm).1, rfl, _, rfl⟩
  tail_any hl.typeIs slot_list_getitem.lookup (wpAny_getItem_list hl h0 hhi (by simpa using hx) h) hs
theorem lst1 {l : Led} {ll : Addr} {v1 : Value} (h : (ll, W.listOf (#[].push v1) (([] : List Value).length + 1)) ∈ l) : (ll, LCg.lst [v1]) ∈ l := h
section
variable {prog : Program} {w : World} {A : Around} {E : Value → Shared → Prop} {s : Shared} {it d : Addr} {n : Nat} {ok ov : Value}
theorem items0_end {Q : Option Value → Shared → Prop} (hh : A.handled = none) (hd : s.heap.get? d = some (dictOf [] n)) (hit : IsItemIter s.heap it d 0 0 n ok ov)
    (hQ : ∀ h', Heap.ExtBut it s.heap h' → Q none { s with heap := h' }) : wpAny (model prog w) A (pyNext (.ref it)) Q E s := by
  have hT : s.TypeIs (.ref it) "dict_itemiterator" := ⟨_, hit, rfl⟩
  have hown : Builtin.Dict_items.ownsTuple "dict_itemiterator" = true := by decide
  unfold pyNext
  refine wpAny_bind (wpAny_attempt (wpAny_callSpecial?_slot (name := Str.ofString "__next__") hT F.slot_dict_itemiterator_next
    (wpAny_call_entry F.slot_dict_itemiterator_next hT F.entry_dict_itemiterator_next ?_ (F.args_dict_itemiterator_next_1 _))))
  refine wpAny_bind (wpAny_pure (wpAny_bind (wpAny_bind ?_)))
  first | refine wpAny_bind (wpAny_typeNameOfWhole_itemiter hT (wpAny_pure ?_)) | refine wpAny_bind (wpAny_typeNameOf_itemiter hT (wpAny_pure ?_))
  refine wpAny_bind (wpAny_fieldsOf hit rfl ?_)
  simp only [hown, if_true]
  show wpAny _ _ (if (Value.ref d == Value.none) = true then _ else _) _ _ s
  rw [if_neg (show ¬ ((Value.ref d == Value.none) = true) from Bool.false_ne_true)]
  refine wpAny_bind (wpAny_pure (wpAny_bind (wpAny_dictEntries hd rfl ?_)))
  rw [if_neg (by simp)]
  refine wpAny_bind (wpAny_pure (wpAny_bind (wpAny_dictEpoch hd rfl ?_)))
  rw [if_neg (by simp)]
  refine wpAny_pure ?_
  simp only [show ¬ ((0 : Int) < 0) from by omega, if_false, Int.toNat_zero, Int.natCast_zero, List.getElem?_toArray, List.getElem?_nil]
  refine wpAny_bind ?_
  first | refine wpAny_bind (wpAny_typeNameOfWhole_itemiter hT (wpAny_pure ?_)) | refine wpAny_bind (wpAny_typeNameOf_itemiter hT (wpAny_pure ?_))
  show wpAny _ _ (setField (.ref it) 2 .none >>= _) _ _ s
  refine wpAny_bind (wpAny_setField hit rfl (by simp) ?_)
  show wpAny _ _ (newExc (.type "StopIteration") [] >>= _) _ _ _
  refine wpAny_bind ?_
  simp only [newExc, newTuple]
  refine wpAny_bind (wpAny_newObj_type ?_ (by size_fits))
  refine wpAny_bind (m := firstArgMember _ _) (wpAny_of_eq (a := Value.none) (by first | rfl | (simp only [firstArgMember]; rfl)) ?_)
  refine wpAny_newObj_type ?_ (by size_fits)
  simp only [raiseNew]
  refine wpAny_bind (wpAny_handled ?_)
  rw [show A.in1.handled = none from hh]
  refine wpAny_bind (wpAny_pure (wpAny_throw ?_))
  refine wpAny_bind (wpAny_isInstance (T := "StopIteration") (b := true) ⟨_, Heap.get?_push_size _ rfl, rfl⟩ isSubtype_stop ?_)
  exact wpAny_pure (hQ _ (((Heap.SameBut.update ..).extBut.push _).push _))
theorem items0_iter {v : Addr} {Q : Value → Shared → Prop} (hv : s.heap.IsItemsView v d) (hd : s.heap.get? d = some (dictOf [] n))
    (hQ : Q (.ref s.heap.objs.size) { s with heap := s.heap.push { cls := .type "dict_itemiterator", data := .fields #[.none, .bool false, .ref d, .int 0 0, .int 0 0, .int n 0, .none, .none] } }) :
    wpAny (model prog w) A (pyIter (.ref v)) Q E s := by
  obtain ⟨ov, hov, hcv, hdv⟩ := id hv
  have hown : Builtin.Dict_items.ownsTuple "dict_itemiterator" = true := by decide
  refine wpAny_pyIter_slot hv.typeIs F.slot_dict_items_iter (wpAny_call_entry F.slot_dict_items_iter hv.typeIs F.entry_dict_items_iter ?_ (F.args_dict_items_iter_1 _))
  unfold Builtin.«dict_items.__iter__»
  refine wpAny_bind (wpAny_pure (wpAny_bind ?_))
  unfold Builtin.Dict_items.dictOf
  refine wpAny_bind (wpAny_field hov hdv (x := .ref d) rfl (wpAny_pure (wpAny_bind ?_)))
  unfold Builtin.Dict_items.newIterator
  refine wpAny_bind (wpAny_dictEntries hd rfl (wpAny_bind (wpAny_dictEpoch hd rfl ?_)))
  simp only [hown, if_true]
  refine wpAny_newObj_type (wpAny_pure ⟨_, rfl, "dict_itemiterator", _, ⟨_, Heap.get?_push_size _ rfl, rfl⟩, F.slot_dict_itemiterator_next.lookup, ?_⟩)
    (by simp only [sizeOk, Builtin.Dict_items.ownedTupleFields, List.size_toArray, List.length_append, List.length_cons, List.length_nil, sizeLine_eq]; omega)
  simpa [rawInt, Builtin.Dict_items.ownedTupleFields] using hQ
end
section
open LCg
variable {prog : Program} {w : World} {A : Around} {E : Value → Shared → Prop} {s : Shared} {h₀ : Heap} {L : Addr} {m : Str → Option Value} {env : Env}
theorem items0_block {elt iter c : PySem.Expr} {a b : Str} {pa pb tp : Pos} {kk : Nat} {scope : Scope} {cl : List (Str × Addr)} {pos : Pos} {s₂ : Shared} {I d : Addr} {n : Nat} {ok ov : Value} {news : Led}
    {Fin : List Value → Led → Prop} {RR : Value → Addr → Result → Shared → Prop}
    (hh : A.handled = none) (hne : d ≠ I) (hit : IsItemIter s₂.heap I d 0 0 n ok ov) (hdm : (d, dictOf [] n) ∈ news)
    (hcell : ∀ y ∈ scope.names, y.2 ≠ .cell) (hkind : scope.kind = .function)
    (F : Fr h₀ L s₂.heap m) (N : News h₀ L s₂.heap news) (hIL : L ≠ I) (hI₀ : h₀.get? I = none) (off : ∀ p ∈ news, p.1 < I)
    (R : Fin [] news)
    (hRR : ∀ D C h tk m' ys news', Fr h₀ L h m → News h₀ L h ((D, lst ys) :: news') → Off1 D news' → h.Ns C m' → h₀.get? C = none → h₀.get? D = none → C ≠ L → D ≠ L → C ≠ D → (∀ p ∈ news', p.1 ≠ C) → Fin ys news' → RR (.ref D) C (.ok .next) { s₂ with heap := h, toks := tk }) :
    wpAny (model prog w) A (newList []) (fun acc s₃ => wpAny (model prog w) A (newFunctionEnv scope env.globals cl [] env.qual none .none (some env)) (fun cenv s₄ =>
      codeAny (model prog w) A (.compStart (.ListComp elt [⟨.Tuple [.Name a pa, .Name b pb] kk tp, iter, [c], 0⟩] scope pos) 0 (.ref I) acc { cenv with scope := relabel scope env }) (RR acc cenv.locals) s₄) E s₃) E s₂ := by
  refine wpAny_newObj_type (wpAny_newFunctionEnv hcell (by intro y hy; simp at hy) (fun h₁ hns₁ hsb₁ => ?_) hkind)
  dsimp only at hns₁ hsb₁ ⊢
  generalize hH2 : s₂.heap.push { cls := .type "list", dict := none, data := .seq ([] : List Value).toArray } = H2 at hns₁ hsb₁ ⊢
  have hC : H2.objs.size = s₂.heap.objs.size + 1 := by rw [← hH2, Heap.size_push]
  have hDC' : s₂.heap.objs.size < H2.objs.size := by rw [hC]; exact Nat.lt_succ_self _
  have hDC : s₂.heap.objs.size ≠ H2.objs.size := Nat.ne_of_lt hDC'
  have hIlt : I < s₂.heap.objs.size := Heap.lt_size hit
  have hLlt : L < s₂.heap.objs.size := F.ns.lt
  have old : ∀ q o, s₂.heap.get? q = some o → h₁.get? q = some o := fun q o z => hsb₁.extBut q o (Nat.ne_of_lt (Nat.lt_trans (Heap.lt_size z) hDC')) (Heap.get?_push_of_some _ (hH2 ▸ Heap.get?_push_of_some _ z))
  have hacc : h₁.get? s₂.heap.objs.size = some (lst []) := hsb₁.extBut _ _ hDC (Heap.get?_push_of_some _ (hH2 ▸ Heap.get?_push_size _ rfl))
  have fresh₀ : ∀ q, s₂.heap.objs.size ≤ q → h₀.get? q = none := fun q hq => by
    cases z : h₀.get? q with
    | none => rfl
    | some o' => exact absurd (Heap.lt_size (F.keep q o' z)) (Nat.not_lt.mpr hq)
  have hD₀ : h₀.get? s₂.heap.objs.size = none := fresh₀ _ (Nat.le_refl _)
  have hC₀ : h₀.get? H2.objs.size = none := fresh₀ _ (Nat.le_of_lt hDC')
  have hDL : s₂.heap.objs.size ≠ L := Nat.ne_of_gt hLlt
  have hCL : H2.objs.size ≠ L := Nat.ne_of_gt (Nat.lt_trans hLlt hDC')
  have hCI : I ≠ H2.objs.size := Nat.ne_of_lt (Nat.lt_trans hIlt hDC')
  have hDI : I ≠ s₂.heap.objs.size := Nat.ne_of_lt hIlt
  have hlt : ∀ p ∈ news, p.1 < s₂.heap.objs.size := fun p hp => Heap.lt_size (N p hp).1
  have off₀ : Off3 I H2.objs.size s₂.heap.objs.size news := Off3.of fun p hp => ⟨Nat.ne_of_lt (off p hp), Nat.ne_of_lt (Nat.lt_trans (hlt p hp) hDC'), Nat.ne_of_lt (hlt p hp)⟩
  have loop : ∀ s₃ : Shared, s₃ = { s₂ with heap := h₁, toks := s₂.toks + ([] : List (Str × Value)).length } →
      codeAny (model prog w) A (.compLoop (.ListComp elt [⟨.Tuple [.Name a pa, .Name b pb] kk tp, iter, [c], 0⟩] scope pos) 0 (.ref I) (.ref s₂.heap.objs.size) (compEnvC scope cl H2.objs.size env))
        (RR (.ref s₂.heap.objs.size) H2.objs.size) s₃ := by
    rintro s₃ rfl
    refine kct_loop
      (fun k s' => k = 1 ∧ ∃ h' tk m', s' = { s₂ with heap := h', toks := tk } ∧ (∃ ok ov, IsItemIter h' I d 0 0 n ok ov) ∧ Fr h₀ L h' m ∧ h'.Ns H2.objs.size m' ∧ News h₀ L h' ((s₂.heap.objs.size, lst []) :: news)) ?_ 1
      ⟨rfl, h₁, _, _, rfl, ⟨_, _, old _ _ hit⟩, F.keeps old, hns₁, fun p hp => ?_⟩
    · rintro k s' ⟨rfl, h', tk, m', rfl, ⟨ok', ov', hit'⟩, F', hn', N'⟩
      have hdh : h'.get? d = some (dictOf [] n) := (N' _ (List.mem_cons_of_mem _ hdm)).1
      have off3 := off₀.mem
      refine items0_end hh hdh hit' fun h₂ hk₂ => ?_
      have hk₃ : ∀ q o, q ∉ [I] → h'.get? q = some o → h₂.get? q = some o := fun q o hq z => hk₂ q o (by simpa using hq) z
      exact hRR _ _ h₂ tk _ [] news (fr_but F' hk₃ hIL hI₀) (news_but N' hk₃ fun p hp => by
        rcases List.mem_cons.mp hp with rfl | hp
        · exact Ne.symm hDI
        · exact (off3 p hp).1) off₀.one (hn'.at' fun o z => hk₃ _ o (by simpa using Ne.symm hCI) z) hC₀ hD₀ hCL hDL (Ne.symm hDC) (fun p hp => (off3 p hp).2.1) R
    · rcases List.mem_cons.mp hp with rfl | hp
      · exact ⟨hacc, hDL, hD₀⟩
      · exact ⟨old _ _ (N p hp).1, (N p hp).2⟩
  exact codeAny_compStart_list (loop _ rfl) (kcp_self (old _ _ hit) (loop _ rfl))
/-- the source of a comprehension over the items of an empty dict -/
def Items0Src (_prog : Program) (_w : World) (A : Around) (h₀ : Heap) (L : Addr) (m : Str → Option Value) (y : Str) (Q : Flow → Shared → Prop) (xv : Value) (s₁ : Shared) : Prop :=
  ∃ vw d n news, xv = .ref vw ∧ A.handled = none ∧ Fr h₀ L s₁.heap m ∧ News h₀ L s₁.heap news ∧ s₁.heap.IsItemsView vw d ∧ (d, dictOf [] n) ∈ news ∧ ∀ g : Heap, FinA h₀ L m { s₁ with heap := g } y Q [] news
theorem Items0Src.intro {y : Str} {Q : Flow → Shared → Prop} {vw d : Addr} {n : Nat} {news : Led} {s₁ : Shared} (hh : A.handled = none) (F : Fr h₀ L s₁.heap m) (N : News h₀ L s₁.heap news)
    (hv : (vw, ({ cls := .type "dict_items", data := .fields #[.ref d] } : Obj)) ∈ news) (hd : (d, dictOf [] n) ∈ news)
    (h : ∀ g : Heap, FinA h₀ L m { s₁ with heap := g } y Q [] news) : Items0Src prog w A h₀ L m y Q (.ref vw) s₁ :=
  ⟨vw, d, n, news, rfl, hh, F, N, ⟨_, (N _ hv).1, rfl, rfl⟩, hd, h⟩
theorem Assign_items0W {elt iter c : PySem.Expr} {a b y : Str} {pa pb tp py : Pos} {kk : Nat} {scope : Scope} {cl : List (Str × Addr)} {pos spos : Pos} {Q : Flow → Shared → Prop} (F₀ : Fr h₀ L s.heap m) (hLe : env.locals = L)
    (hsw : swapsWith (.ListComp elt [⟨.Tuple [.Name a pa, .Name b pb] kk tp, iter, [c], 0⟩] scope pos) (some (.Name y py)) spos.line env = pure true)
    (hclos : closureFor scope env = pure cl) (hcell : ∀ z ∈ scope.names, z.2 ≠ .cell) (hkind : scope.kind = .function)
    (hnames : ∀ z ∈ scope.names, z.2 = .local → scope.names.lookup z.1 = some .local)
    (hy : env.kindOf y = some .local) (hp : (env.scope.kind == .class || (env.scope.kind == .module && env.locals != env.globals)) = false)
    (h : wpAny (model prog w) A (eval iter env) (Items0Src prog w A h₀ L m y Q) E s)
    (hs : ∀ x, foldedSetIterable iter env x = pure x := by intro _; rfl) :
    wpAny (model prog w) A (exec (.Assign [.Name y py] (.ListComp elt [⟨.Tuple [.Name a pa, .Name b pb] kk tp, iter, [c], 0⟩] scope pos) spos) env) Q E s := by
  subst hLe
  rw [exec_Assign_Name_used _ _ _ _ hsw]
  refine wpAny_bind (wpAny_standAt (wpAny_bind ?_))
  show wpAny _ A (do let _ ← comprehension (.ListComp elt [⟨.Tuple [.Name a pa, .Name b pb] kk tp, iter, [c], 0⟩] scope pos) scope env _ (newList []) false (eval iter env) (some (assign (.Name y py) env))) _ _ s
  refine wpAny_bind (wpAny_mono (wpAny_comprehension_free (use := some (assign (.Name y py) env)) (Q := fun _ s' => Q .next s') rfl hs hclos hkind hnames
    (wpAny_mono h (fun xv s₁ h₁ => ?_) fun _ _ e => e)) (fun _ s' hq => wpAny_pure (wpAny_pure hq)) fun _ _ e => e)
  obtain ⟨vw, d, n, news, rfl, hh, F, N, hv, hdm, R⟩ := h₁
  refine items0_iter hv (N _ hdm).1 ?_
  refine items0_block hh (Nat.ne_of_lt (Heap.lt_size (N _ hdm).1)) (Heap.get?_push_size _ rfl) hdm hcell hkind (F.push _)
    (fun p hp => ⟨Heap.get?_push_of_some _ (N p hp).1, (N p hp).2⟩) (Nat.ne_of_lt F.ns.lt) (next_is_new F) (fun p hp => Heap.lt_size (N p hp).1) (R s₁.heap) ?_
  intro D C h' tk m' ys news' F' N' o1 hn hC₀ hD₀ hCL hDL hCD offC fin
  show wpAny _ A (assign (.Name y py) env (.ref D)) _ _ _
  refine wpAny_assign_Name (wpAny_storeName_local hy F'.ns (fun h₂ hn₂ hs₂ => ?_) hp)
  have hL₀ : h₀.get? env.locals = none := Heap.get?_none_of_le F'.above
  have F₂ : Fr h₀ env.locals h₂ (fun z => if z = y then some (.ref D) else m z) := ⟨hn₂, fun b o e => hs₂.extBut b o (fun q => by rw [q, hL₀] at e; cases e) (F'.keep b o e), F'.above⟩
  refine ⟨m', hn.sameBut hs₂ hCL, fun h'' hs'' => fin D h'' _ (F₂.change hs'' hCL hC₀) (fun p hp => ?_) o1⟩
  have z : h₂.get? p.1 = some p.2 := hs₂.extBut _ _ (N' p hp).2.1 (N' p hp).1
  refine ⟨hs''.extBut _ _ ?_ z, (N' p hp).2⟩
  rcases List.mem_cons.mp hp with rfl | hp
  · exact Ne.symm hCD
  · exact offC p hp
end
local macro_rules | `(tactic| walk_at "compareOp Eq ref int") => `(tactic| ((with_reducible show wpAny _ _ (compareOp CmpOp.Eq (Value.ref _) (Value.int _ _)) _ _ _); k_dflt ((refine CtX.use (Mine.x_eqV _ _ _ _ _ _) (by k_asm) (by k_asm) (by k_asm) (by k_asm) (by k_asm) (by first | exact rfl | assumption) (by walk_at "my rel") (by k_room) (by k_units) ?_); intro r9 tl9 h9 tk9 F9 N9 hR9; obtain ⟨e8, e9⟩ := hR9; subst e8; subst e9; (simp only [List.nil_append, List.cons_append] at N9); (try dsimp only); k_sweep)))
local macro_rules | `(tactic| walk_at "compareOp Eq ref int") => `(tactic| ((with_reducible show wpAny _ _ (compareOp CmpOp.Eq (Value.ref _) (Value.int _ _)) _ _ _); k_dflt ((refine CtX.use (Mine.x_eqM _ _ _ _ _ _ _ _) (by k_asm) (by k_asm) (by k_asm) (by k_asm) (by k_asm) (by first | exact rfl | assumption) (by walk_at "my rel") (by k_room) (by k_units) ?_); intro r9 tl9 h9 tk9 F9 N9 hR9; obtain ⟨e8, e9⟩ := hR9; subst e8; subst e9; (simp only [List.nil_append, List.cons_append] at N9); (try dsimp only); k_sweep)))
local macro_rules | `(tactic| walk_at "compareOp Is ref ref") => `(tactic| (k_here; (with_reducible show wpAny _ _ (compareOp CmpOp.Is (Value.ref _) (Value.ref _)) _ _ _); k_dflt (refine' kto_is ?a ?b ?n ?c ?_; (case n => (refine neN ?_; decide)); (case a => (refine' kto_K ?X ?l; (case X => k_in); (case l => k_is))); (case b => (refine' kto_K ?X ?l; (case X => k_in); (case l => k_is))); (case c => kto_not); k_whole)))
local macro_rules | `(tactic| walk_at "compareOp Is ref ref") => `(tactic| (k_here; (with_reducible refine wpAny_is_ref_self ?_)))
local macro_rules | `(tactic| walk_at "subscriptTail Name Constant ref int") => `(tactic| (k_here; k_dflt (refine' Mine.item_lst ?a ?b ?c ?d ?e ?_ ?f; (case a => k_asm); (case b => first | k_mem | (refine Mine.lst1 ?_; k_mem)); (case c => decide); (case d => decide); (case e => rfl); (case f => with_unfolding_all rfl); k_whole)))
local macro_rules | `(tactic| walk_at "truthy ref") => `(tactic| (k_here; (with_reducible show wpAny _ _ (truthy (Value.ref _)) _ _ _); k_dflt (refine' Mine.truthy_lst ?a ?b ?c ?_; (case a => k_asm); (case b => k_mem); (case c => first | size_fits | exact Nat.le_of_ble_eq_true rfl); k_whole); (try simp only [List.isEmpty_cons, List.isEmpty_nil, Bool.not_false, Bool.not_true])))
local macro_rules | `(tactic| walk_at "my rel") => `(tactic| first
  | with_reducible assumption
  | exact Mine.MMAt.mono (by assumption) (by walk_at "my sub")
  | (refine' Mine.MMAt.mk ?c ?a ?b ?e ?f; (case a => k_mem); (case b => k_mem); (case c => simp [Mine.NodeCls]); (case e => rfl); (case f => rfl))
  | (refine' Mine.NumAt.mk ?a ?b; (case a => k_mem); (case b => k_mem))
  | (refine' Mine.OpAt.mk ?a ?b; (case a => k_mem); (case b => k_mem))
  | (refine' Mine.SumAt.mk ?a ?b; (case a => k_mem); (case b => k_mem))
  | exact Mine.NumAt.mono (by assumption) (by walk_at "my sub")
  | exact Mine.VarAt.mono (by assumption) (by walk_at "my sub")
  | exact Mine.OpAt.mono (by assumption) (by walk_at "my sub")
  | exact Mine.MMAt.mono (Mine.NumAt.mm (by assumption)) (by walk_at "my sub")
  | exact Mine.MMAt.mono (Mine.VarAt.mm (by assumption)) (by walk_at "my sub")
  | exact Mine.MMAt.mono (Mine.OpAt.mm (by assumption) (by simp)) (by walk_at "my sub")
  | exact Mine.MMAt.mono (by assumption) (by walk_at "my sub"))
local macro_rules | `(tactic| k_ne) => `(tactic| (refine neN ?_; (try dsimp only); refine' Mine.off1_ne2 ?a ?b; (case a => assumption); (case b => k_mem)))
local macro_rules | `(tactic| k_all) => `(tactic| (tbn_letter; exact Mine.apOff (by assumption) (by walk_at "my sub")))
local macro_rules | `(tactic| k_ne) => `(tactic| (refine neN ?_; (try dsimp only); omega))
local macro_rules | `(tactic| walk_at "call ref") => `(tactic| ((with_reducible show wpAny _ _ (call (Value.ref 359) [Value.int _ _]) _ _ _); k_dflt ((refine CtX.use (Mine.x_num _ _ _) (by k_asm) (by k_asm) (by k_asm) (by k_asm) (by k_asm) (by first | exact rfl | assumption) (by trivial) (by k_room) (by k_units) ?_); intro r9 tl9 h9 tk9 F9 N9 hR9; obtain ⟨x9, dx9, t1, t2, t3, t4, t5, t6, e9, e8, l9, m9⟩ := hR9; subst e8; subst e9; (simp only [List.nil_append, List.cons_append] at N9); (try simp only [AllLt, and_true] at l9); (try dsimp only); k_sweep)))
local macro_rules | `(tactic| walk_at "call ref") => `(tactic| ((with_reducible show wpAny _ _ (call (Value.ref 648) [Value.ref _]) _ _ _); k_dflt ((refine CtX.use (Mine.x_Sum2 _ _ _ _ _ _ _ _) (by k_asm) (by k_asm) (by k_asm) (by k_asm) (by k_asm) (by first | exact rfl | assumption) (by exact ⟨by first | k_mem | exact Mine.lst2 (by k_mem), by walk_at "my rel", by walk_at "my rel"⟩) (by k_room) (by k_units) ?_); intro r9 tl9 h9 tk9 F9 N9 hR9; obtain ⟨x9, dx9, t1, t2, t3, t4, t5, e9, e8, l9, m9⟩ := hR9; subst e8; subst e9; (simp only [List.nil_append, List.cons_append] at N9); (try simp only [AllLt, and_true] at l9); (try dsimp only); k_sweep)))
local macro_rules | `(tactic| walk_at "getAttr ref") => `(tactic| ((with_reducible show wpAny _ _ (getAttr (Value.ref _) (PySem.Str.ofString "flat_components") true) _ _ _); k_dflt ((refine CtX.use (Mine.x_flatV _ _ _ _ _ _ _ _ _ _) (by k_asm) (by k_asm) (by k_asm) (by k_asm) (by k_asm) (by first | exact rfl | assumption) (by exact ⟨by walk_at "my rel", by k_mem, by walk_at "my rel", by walk_at "my rel"⟩) (by k_room) (by k_units) ?_); intro r9 tl9 h9 tk9 F9 N9 hR9; obtain ⟨x9, e9, e8, l9⟩ := hR9; subst e8; subst e9; (simp only [List.nil_append, List.cons_append] at N9); (try simp only [List.forall_mem_cons] at l9); (try dsimp only); k_sweep)))
local macro_rules | `(tactic| walk_at "getAttr ref") => `(tactic| ((with_reducible show wpAny _ _ (getAttr (Value.ref _) (PySem.Str.ofString "flat_components") true) _ _ _); k_dflt ((refine CtX.use (Mine.x_flatM _ _ _ _ _ _ _ _ _ _ _ _) (by k_asm) (by k_asm) (by k_asm) (by k_asm) (by k_asm) (by first | exact rfl | assumption) (by exact ⟨by walk_at "my rel", by k_mem, by walk_at "my rel", by walk_at "my rel"⟩) (by k_room) (by k_units) ?_); intro r9 tl9 h9 tk9 F9 N9 hR9; obtain ⟨x9, e9, e8, l9⟩ := hR9; subst e8; subst e9; (simp only [List.nil_append, List.cons_append] at N9); (try simp only [List.forall_mem_cons] at l9); (try dsimp only); k_sweep)))
local macro_rules | `(tactic| walk_at "getAttr ref") => `(tactic| ((with_reducible show wpAny _ _ (getAttr (Value.ref _) (PySem.Str.ofString "flat_components") true) _ _ _); k_dflt ((refine CtX.use (Mine.x_flatN _ _ _ _ _ _ _ _ _ _) (by k_asm) (by k_asm) (by k_asm) (by k_asm) (by k_asm) (by first | exact rfl | assumption) (by exact ⟨by walk_at "my rel", by k_mem, by walk_at "my rel", by walk_at "my rel"⟩) (by k_room) (by k_units) ?_); intro r9 tl9 h9 tk9 F9 N9 hR9; obtain ⟨x9, e9, e8, l9⟩ := hR9; subst e8; subst e9; (simp only [List.nil_append, List.cons_append] at N9); (try simp only [List.forall_mem_cons] at l9); (try dsimp only); k_sweep)))
local macro_rules | `(tactic| walk_at "call builtin:dict.get") => `(tactic| ((with_reducible show wpAny _ _ (call (Value.builtin "dict.get") [Value.ref _, _, _]) _ _ _); k_dflt ((refine CtX.use (Mine.x_dget _ _ _ _ _ _ _ (by assumption) (by assumption) (by assumption) (by assumption)) (by k_asm) (by k_asm) (by k_asm) (by k_asm) (by k_asm) (by first | exact rfl | assumption) (by exact ⟨by walk_at "my rel", by k_mem⟩) (by k_room) (by k_units) ?_); intro r9 tl9 h9 tk9 F9 N9 hR9; obtain ⟨e8, e9⟩ := hR9; subst e8; subst e9; (simp only [List.nil_append, List.cons_append] at N9); (try dsimp only); k_sweep)))
local macro_rules | `(tactic| walk_at "call ref") => `(tactic| ((with_reducible show wpAny _ _ (call (Value.ref 492) [_, Value.int _ _]) _ _ _); k_dflt ((refine CtX.use (Mine.x_MulP _ _ _ _ _ _ (by omega) (by omega) (by omega)) (by k_asm) (by k_asm) (by k_asm) (by k_asm) (by k_asm) (by first | exact rfl | assumption) (by walk_at "my rel") (by k_room) (by k_units) ?_); intro r9 tl9 h9 tk9 F9 N9 hR9; obtain ⟨x9, dx9, t1, t2, t3, t4, t5, t6, t7, e9, e8, l9, m9⟩ := hR9; subst e8; subst e9; (simp only [List.nil_append, List.cons_append] at N9); (try simp only [AllLt, and_true] at l9); (try dsimp only); k_sweep)))
local macro_rules | `(tactic| walk_at "call ref") => `(tactic| ((with_reducible show wpAny _ _ (call (Value.ref 492) [_, Value.int _ _]) _ _ _); k_dflt ((refine CtX.use (Mine.x_MulN _ _ _ _ _ _ (by omega) (by omega) (by omega)) (by k_asm) (by k_asm) (by k_asm) (by k_asm) (by k_asm) (by first | exact rfl | assumption) (by walk_at "my rel") (by k_room) (by k_units) ?_); intro r9 tl9 h9 tk9 F9 N9 hR9; obtain ⟨x9, dx9, t1, t2, t3, t4, t5, t6, t7, e9, e8, l9, m9⟩ := hR9; subst e8; subst e9; (simp only [List.nil_append, List.cons_append] at N9); (try simp only [AllLt, and_true] at l9); (try dsimp only); k_sweep)))
local macro_rules | `(tactic| walk_at "setItem ref") => `(tactic| ((with_reducible show wpAny _ _ (setItem (Value.ref _) (Value.ref _) _) _ _ _); (k_dflt (refine Mine.x_dset _ _ _ _ _ _ _ (by assumption) (by assumption) (by assumption) (by k_asm) (by k_asm) (by k_asm) (by k_asm) (by k_asm) (by first | exact rfl | assumption) (by walk_at "my rel") (by intro j8; k_upd) (by k_room) (by k_units) ?_)); intro j9 h9 tk9 F9 N9; (try dsimp only); k_sweep))
local macro_rules | `(tactic| walk_at "pyIter ref") => `(tactic| ((with_reducible show wpAny _ _ (pyIter (Value.ref _)) (fun it s₂ => LoopAtV _ _ _ _ _ _ _ _ _ it s₂) _ _); k_dflt ((rename Fr _ _ _ _ => lF'); (rename News _ _ _ _ => lN'); (with_unfolding_all refine iter_listUnr (lo := LCg.lst [_, _]) (vs := [_, _]) (by rfl) lF' lN' (by k_mem) (by rfl) (by rfl) ?_); clear lF' lN'; intro i' l1; replace l1 := allLt_of l1; (try simp only [AllLt, and_true] at l1))))
local macro_rules | `(tactic| walk_at "my off") => `(tactic| first
  | exact List.forall_mem_nil _
  | (refine' List.forall_mem_cons.mpr ⟨?a, ?b⟩; (case a => first | (refine neN ?_; (try dsimp only); omega)); (case b => walk_at "my off"))
  | exact Mine.apLt (by tbn_find))
local macro_rules | `(tactic| walk_at "UnrEnd") => `(tactic| (k_dflt (first
  | refine Mine.unrEndA (by assumption) (by assumption) (by walk_at "my off") ⟨by k_mem, ?_⟩
  | refine Mine.unrEndB (by assumption) (by assumption) (by walk_at "my off") ⟨by k_mem, ?_⟩
  | refine Mine.unrEndC (by assumption) (by assumption) (by walk_at "my off") ⟨by k_mem, ?_⟩)))
local macro_rules | `(tactic| walk_at "CompEnd") => `(tactic| (k_dflt (first
  | refine LCg.CompEnd.intro (by assumption) (by assumption) _ (fun p hp => hp) (by assumption) (by first | lcg_src | assumption | ((show _ ∈ _); k_mem)) ?_
  | refine Mine.compEndB (by assumption) (by assumption) (by refine ⟨?_, ?_, ?_⟩ <;> ((try dsimp only); omega)) (by assumption) (by assumption) (by first | lcg_src | assumption | ((show _ ∈ _); k_mem)) ?_)))
local macro_rules | `(tactic| walk_at "exec Assign cons ListComp") => `(tactic| (k_here; (with_reducible show wpAny _ _ (exec (PySem.Stmt.Assign [_] (PySem.Expr.ListComp _ [PySem.Comprehension.mk (PySem.Expr.Tuple _ _ _) _ _ _] _ _) _) _) _ _ _); k_dflt (refine Mine.Assign_items0W (F₀ := by k_asm) (by rfl) (by with_unfolding_all rfl) (by with_unfolding_all rfl) (by decide) (by rfl) (by decide) (by rfl) (by rfl) ?_)))
local macro_rules | `(tactic| walk_at "Items0Src") => `(tactic| (k_here; k_dflt (refine Mine.Items0Src.intro (by rfl) (by k_asm) (by k_asm) (by k_mem) (by k_mem) ?_; intro g')))
theorem c_sumNN1 (w : World) (ll : Addr) (v1 v2 : Value) (n1 n2 : Int) (h1 : n1 = 0) (h2 : n2 = 0) : Ctc w (call (.ref 232) [.ref ll]) 24 200 (fun l => (ll, W.listOf #[v1, v2] 0) ∈ l ∧ NumAt w l v1 n1 ∧ NumAt w l v2 n2) (fun l r => NumAt w l r (n1 + n2)) := by
  unfold Ctc
  k_fill
  intro p loose mean mg mb dp u gd cn cs a ccd cl outer A₀ base h₀ L m news s Q E B F X N T hk hP hd hu hret
  obtain ⟨hl, hm1, hm2⟩ := hP
  have hk1 := hm1
  have hk2 := hm2
  cases hm1
  cases hm2
  refine wpAny_call ?_
  k_dflt k_enter
  k_steps
  refine endN hret (by k_asm) (by k_asm) (by k_mem) (by k_mem) (by omega) (by walk_at "my sub") (by walk_at "my lt") (by walk_at "my lt")
theorem c_sumNN2 (w : World) (ll : Addr) (v1 v2 : Value) (n1 n2 : Int) (h1 : n1 = 0) (h2 : n2 ≠ 0) : Ctc w (call (.ref 232) [.ref ll]) 24 200 (fun l => (ll, W.listOf #[v1, v2] 0) ∈ l ∧ NumAt w l v1 n1 ∧ NumAt w l v2 n2) (fun l r => NumAt w l r (n1 + n2)) := by
  unfold Ctc
  k_fill
  intro p loose mean mg mb dp u gd cn cs a ccd cl outer A₀ base h₀ L m news s Q E B F X N T hk hP hd hu hret
  obtain ⟨hl, hm1, hm2⟩ := hP
  have hk1 := hm1
  have hk2 := hm2
  cases hm1
  cases hm2
  refine wpAny_call ?_
  k_dflt k_enter
  k_steps
  (have e9 : n1 + n2 = n2 := by omega); rw [e9] at hret; refine endKN hret (by k_asm) (by k_asm) (by walk_at "my sub") (by walk_at "my rel")
theorem c_sumNN3 (w : World) (ll : Addr) (v1 v2 : Value) (n1 n2 : Int) (h1 : n1 ≠ 0) (h2 : n2 = 0) : Ctc w (call (.ref 232) [.ref ll]) 24 200 (fun l => (ll, W.listOf #[v1, v2] 0) ∈ l ∧ NumAt w l v1 n1 ∧ NumAt w l v2 n2) (fun l r => NumAt w l r (n1 + n2)) := by
  unfold Ctc
  k_fill
  intro p loose mean mg mb dp u gd cn cs a ccd cl outer A₀ base h₀ L m news s Q E B F X N T hk hP hd hu hret
  obtain ⟨hl, hm1, hm2⟩ := hP
  have hk1 := hm1
  have hk2 := hm2
  cases hm1
  cases hm2
  refine wpAny_call ?_
  k_dflt k_enter
  k_steps
  (have e9 : n1 + n2 = n1 := by omega); rw [e9] at hret; refine endKN hret (by k_asm) (by k_asm) (by walk_at "my sub") (by walk_at "my rel")
theorem c_sumNN4 (w : World) (ll : Addr) (v1 v2 : Value) (n1 n2 : Int) (h1 : n1 ≠ 0) (h2 : n2 ≠ 0) (h3 : n1 + n2 = 0) : Ctc w (call (.ref 232) [.ref ll]) 24 200 (fun l => (ll, W.listOf #[v1, v2] 0) ∈ l ∧ NumAt w l v1 n1 ∧ NumAt w l v2 n2) (fun l r => NumAt w l r (n1 + n2)) := by
  unfold Ctc
  k_fill
  intro p loose mean mg mb dp u gd cn cs a ccd cl outer A₀ base h₀ L m news s Q E B F X N T hk hP hd hu hret
  obtain ⟨hl, hm1, hm2⟩ := hP
  have hk1 := hm1
  have hk2 := hm2
  cases hm1
  cases hm2
  refine wpAny_call ?_
  k_dflt k_enter
  k_steps
  refine endN hret (by k_asm) (by k_asm) (by k_mem) (by k_mem) (by omega) (by walk_at "my sub") (by walk_at "my lt") (by walk_at "my lt")
theorem c_sumNN5 (w : World) (ll : Addr) (v1 v2 : Value) (n1 n2 : Int) (h1 : n1 ≠ 0) (h2 : n2 ≠ 0) (h3 : n1 + n2 ≠ 0) : Ctc w (call (.ref 232) [.ref ll]) 24 200 (fun l => (ll, W.listOf #[v1, v2] 0) ∈ l ∧ NumAt w l v1 n1 ∧ NumAt w l v2 n2) (fun l r => NumAt w l r (n1 + n2)) := by
  unfold Ctc
  k_fill
  intro p loose mean mg mb dp u gd cn cs a ccd cl outer A₀ base h₀ L m news s Q E B F X N T hk hP hd hu hret
  obtain ⟨hl, hm1, hm2⟩ := hP
  have hk1 := hm1
  have hk2 := hm2
  cases hm1
  cases hm2
  refine wpAny_call ?_
  k_dflt k_enter
  k_steps
  refine endN hret (by k_asm) (by k_asm) (by k_mem) (by k_mem) (by omega) (by walk_at "my sub") (by walk_at "my lt") (by walk_at "my lt")
theorem c_sumNN (w : World) (ll : Addr) (v1 v2 : Value) (n1 n2 : Int) : Ctc w (call (.ref 232) [.ref ll]) 24 200 (fun l => (ll, W.listOf #[v1, v2] 0) ∈ l ∧ NumAt w l v1 n1 ∧ NumAt w l v2 n2) (fun l r => NumAt w l r (n1 + n2)) := by
  by_cases h1 : n1 = 0
  · by_cases h2 : n2 = 0
    · exact c_sumNN1 w ll v1 v2 n1 n2 h1 h2
    · exact c_sumNN2 w ll v1 v2 n1 n2 h1 h2
  · by_cases h2 : n2 = 0
    · exact c_sumNN3 w ll v1 v2 n1 n2 h1 h2
    · by_cases h3 : n1 + n2 = 0
      · exact c_sumNN4 w ll v1 v2 n1 n2 h1 h2 h3
      · exact c_sumNN5 w ll v1 v2 n1 n2 h1 h2 h3
local macro_rules | `(tactic| walk_at "exec Assign cons ListComp") => `(tactic| (k_here; (with_reducible show wpAny _ _ (exec (PySem.Stmt.Assign [_] (PySem.Expr.ListComp _ [PySem.Comprehension.mk (PySem.Expr.Tuple _ _ _) _ _ _] _ _) _) _) _ _ _); k_dflt (refine Mine.Assign_items1W (F₀ := by k_asm) (by rfl) (by with_unfolding_all rfl) (by with_unfolding_all rfl) (by decide) (by rfl) (by decide) (by rfl) (by rfl) (by decide) (by rfl) (by rfl) ?_)))
theorem c_sumV0 (w : World) (ll : Addr) (v1 v2 : Value) (lo hi n : Int) (b0 : 0 ≤ lo) (b1 : lo < hi) (hn : n = 0) : Ctc w (call (.ref 232) [.ref ll]) 24 200 (fun l => (ll, W.listOf #[v1, v2] 0) ∈ l ∧ VarAt w l v1 lo hi ∧ NumAt w l v2 n) (fun l r => MMAt w l r lo hi) := by
  unfold Ctc
  k_fill
  intro p loose mean mg mb dp u gd cn cs a ccd cl outer A₀ base h₀ L m news s Q E B F X N T hk hP hd hu hret
  obtain ⟨hl, hm1, hm2⟩ := hP
  have hk1 := hm1
  have hk2 := hm2
  cases hm1
  cases hm2
  refine wpAny_call ?_
  k_dflt k_enter
  k_steps
  all_goals (refine endKM hret (by k_asm) (by k_asm) (by walk_at "my sub") (by walk_at "my rel"))
theorem c_sumM0 (w : World) (ll : Addr) (v1 v2 va : Value) (k lo hi n : Int) (b1 : lo < hi) (b0 : hi ≤ 0) (hn : n = 0) : Ctc w (call (.ref 232) [.ref ll]) 24 200 (fun l => (ll, W.listOf #[v1, v2] 0) ∈ l ∧ OpAt w l 492 v1 va k lo hi ∧ NumAt w l v2 n) (fun l r => MMAt w l r lo hi) := by
  unfold Ctc
  k_fill
  intro p loose mean mg mb dp u gd cn cs a ccd cl outer A₀ base h₀ L m news s Q E B F X N T hk hP hd hu hret
  obtain ⟨hl, hm1, hm2⟩ := hP
  have hk1 := hm1
  have hk2 := hm2
  cases hm1
  cases hm2
  refine wpAny_call ?_
  k_dflt k_enter
  k_steps
  all_goals (refine endKM hret (by k_asm) (by k_asm) (by walk_at "my sub") (by walk_at "my rel"))
theorem c_sumV (w : World) (ll : Addr) (v1 v2 : Value) (lo hi n : Int) (b0 : 0 ≤ lo) (b1 : lo < hi) (b2 : hi < 10^19) (hn : n ≠ 0) : Ctc w (call (.ref 232) [.ref ll]) 24 200 (fun l => (ll, W.listOf #[v1, v2] 0) ∈ l ∧ VarAt w l v1 lo hi ∧ NumAt w l v2 n) (fun l r => MMAt w l r (lo + n) (hi + n)) := by
  unfold Ctc
  k_fill
  intro p loose mean mg mb dp u gd cn cs a ccd cl outer A₀ base h₀ L m news s Q E B F X N T hk hP hd hu hret
  obtain ⟨hl, hm1, hm2⟩ := hP
  have hk1 := hm1
  have hk2 := hm2
  cases hm1
  cases hm2
  refine wpAny_call ?_
  k_dflt k_enter
  k_steps
  refine endM hret (by k_asm) (by k_asm) (by k_mem) (by k_mem) (by simp [NodeCls]) rfl rfl (by omega) (by omega) (by walk_at "my sub") (by walk_at "my lt") (by walk_at "my lt")
theorem c_sumM (w : World) (ll : Addr) (v1 v2 va : Value) (lo hi lo2 hi2 n : Int) (b0 : 0 ≤ lo) (b1 : lo < hi) (b2 : hi < 10^19) (e1 : lo2 = hi * -1) (e2 : hi2 = lo * -1) (hn : n ≠ 0) : Ctc w (call (.ref 232) [.ref ll]) 24 200 (fun l => (ll, W.listOf #[v1, v2] 0) ∈ l ∧ OpAt w l 492 v1 va (-1) lo2 hi2 ∧ VarAt w l va lo hi ∧ NumAt w l v2 n) (fun l r => MMAt w l r (lo2 + n) (hi2 + n)) := by
  unfold Ctc
  k_fill
  intro p loose mean mg mb dp u gd cn cs a ccd cl outer A₀ base h₀ L m news s Q E B F X N T hk hP hd hu hret
  obtain ⟨hl, hm1, hm3, hm2⟩ := hP
  have hk1 := hm1
  have hk2 := hm2
  have hk3 := hm3
  cases hm1
  cases hm2
  cases hm3
  refine wpAny_call ?_
  k_dflt k_enter
  k_steps
  all_goals (refine endM hret (by k_asm) (by k_asm) (by k_mem) (by k_mem) (by simp [NodeCls]) rfl rfl (by omega) (by omega) (by walk_at "my sub") (by walk_at "my lt") (by walk_at "my lt"))
theorem endOp {h₀ h' : Heap} {L : Addr} {m : Str → Option Value} {w : World} {news l : Led} {s : Shared} {Q : Value → Shared → Prop} {C : Addr} {va : Value} {b lo hi lo' hi' : Int} {tk' : Nat} {x dx : Addr} {t1 t2 t3 t4 t5 t6 t7 : Tok}
    (hret : ∀ r tl h' tk', Fr h₀ L h' m → News h₀ L h' (news ++ tl) → (∀ q ∈ news, ∀ p ∈ tl, q.1 ≠ p.1) → OpAt w (news ++ tl) C r va b lo hi → Q r { s with heap := h', toks := tk' })
    (F : Fr h₀ L h' m) (N : News h₀ L h' l) (a : (x, instObj C dx) ∈ l)
    (b' : (dx, dictOf [⟨PyData.keyHash w.params (Str.ofString "a"), .str (Str.ofString "a") t1, va⟩, ⟨PyData.keyHash w.params (Str.ofString "b"), .str (Str.ofString "b") t2, .int b t3⟩, ⟨PyData.keyHash w.params (Str.ofString "min"), .str (Str.ofString "min") t4, .int lo' t5⟩, ⟨PyData.keyHash w.params (Str.ofString "max"), .str (Str.ofString "max") t6, .int hi' t7⟩] 4) ∈ l)
    (e1 : lo' = lo) (e2 : hi' = hi) (sub : ∀ p ∈ news, p ∈ l) (o2 : ∀ q ∈ news, q.1 ≠ dx) (o1 : ∀ q ∈ news, q.1 ≠ x) : Q (.ref x) { s with heap := h', toks := tk' } := by
  subst e1; subst e2
  have hM : OpAt w (news ++ [(x, instObj C dx), (dx, dictOf [⟨PyData.keyHash w.params (Str.ofString "a"), .str (Str.ofString "a") t1, va⟩, ⟨PyData.keyHash w.params (Str.ofString "b"), .str (Str.ofString "b") t2, .int b t3⟩, ⟨PyData.keyHash w.params (Str.ofString "min"), .str (Str.ofString "min") t4, .int lo' t5⟩, ⟨PyData.keyHash w.params (Str.ofString "max"), .str (Str.ofString "max") t6, .int hi' t7⟩] 4)]) C (.ref x) va b lo' hi' :=
    .mk (List.mem_append.mpr (.inr (.head _))) (List.mem_append.mpr (.inr (.tail _ (.head _))))
  refine hret _ [(x, instObj C dx), (dx, _)] h' tk' F (fun p hp => N p ?_) ?_ hM
  · rcases List.mem_append.mp hp with hp | hp
    · exact sub p hp
    rcases List.mem_cons.mp hp with rfl | hp
    · exact a
    rcases List.mem_cons.mp hp with rfl | hp
    · exact b'
    · cases hp
  · exact ordC o1 (ordC o2 ord0)
theorem MMAt.isRef {w : World} {l : Led} {v : Value} {a b : Int} (h : MMAt w l v a b) : ∃ x, v = .ref x := by cases h; exact ⟨_, rfl⟩
theorem NumAt.isRef {w : World} {l : Led} {v : Value} {a : Int} (h : NumAt w l v a) : ∃ x, v = .ref x := by cases h; exact ⟨_, rfl⟩
theorem OpAt.isRef {w : World} {l : Led} {C : Addr} {v va : Value} {b lo hi : Int} (h : OpAt w l C v va b lo hi) : ∃ x, v = .ref x := by cases h; exact ⟨_, rfl⟩
theorem c_sumVar (w : World) (ll : Addr) (v1 v2 : Value) (lo hi n : Int) (b0 : 0 ≤ lo) (b1 : lo < hi) (b2 : hi < 10^19) : Ctc w (call (.ref 232) [.ref ll]) 24 200 (fun l => (ll, W.listOf #[v1, v2] 0) ∈ l ∧ VarAt w l v1 lo hi ∧ NumAt w l v2 n) (fun l r => MMAt w l r (lo + n) (hi + n)) := by
  by_cases hn : n = 0
  · have h := c_sumV0 w ll v1 v2 lo hi n b0 b1 hn
    subst hn
    simpa only [Int.add_zero] using h
  · exact c_sumV w ll v1 v2 lo hi n b0 b1 b2 hn
theorem c_sumMul (w : World) (ll : Addr) (v1 v2 va : Value) (lo hi lo2 hi2 n : Int) (b0 : 0 ≤ lo) (b1 : lo < hi) (b2 : hi < 10^19) (e1 : lo2 = hi * -1) (e2 : hi2 = lo * -1) : Ctc w (call (.ref 232) [.ref ll]) 24 200 (fun l => (ll, W.listOf #[v1, v2] 0) ∈ l ∧ OpAt w l 492 v1 va (-1) lo2 hi2 ∧ VarAt w l va lo hi ∧ NumAt w l v2 n) (fun l r => MMAt w l r (lo2 + n) (hi2 + n)) := by
  by_cases hn : n = 0
  · have h := c_sumM0 w ll v1 v2 va (-1) lo2 hi2 n (by omega) (by omega) hn
    subst hn
    have h2 : Ctc w (call (.ref 232) [.ref ll]) 24 200 (fun l => (ll, W.listOf #[v1, v2] 0) ∈ l ∧ OpAt w l 492 v1 va (-1) lo2 hi2 ∧ NumAt w l v2 0) (fun l r => MMAt w l r (lo2 + 0) (hi2 + 0)) := by
      simpa only [Int.add_zero] using h
    intro p loose mean mg mb dp u gd cn cs a ccd cl outer A₀ base h₀ L m news s Q E B F X N T hk hP hd hu hret
    exact h2.use B F X N T hk ⟨hP.1, hP.2.1, hP.2.2.2⟩ hd hu hret
  · exact c_sumM w ll v1 v2 va lo hi lo2 hi2 n b0 b1 b2 e1 e2 hn
local macro_rules | `(tactic| walk_at "call ref") => `(tactic| ((with_reducible show wpAny _ _ (call (Value.ref 232) [Value.ref _]) _ _ _); k_dflt ((refine Ctc.use (Mine.c_sumVar _ _ _ _ _ _ _ (by assumption) (by assumption) (by assumption)) (by k_asm) (by k_asm) (by k_asm) (by k_asm) (by k_asm) (by first | exact rfl | assumption) (by exact ⟨by k_mem, by walk_at "my rel", by walk_at "my rel"⟩) (by k_room) (by k_units) ?_); intro r9 tl9 h9 tk9 F9 N9 o9 hR9; (try simp only [List.nil_append, List.cons_append, List.append_nil, List.append_assoc] at N9 o9 hR9); obtain ⟨x9, e9⟩ := Mine.MMAt.isRef hR9; subst e9; (try dsimp only); k_sweep)))
local macro_rules | `(tactic| walk_at "call ref") => `(tactic| ((with_reducible show wpAny _ _ (call (Value.ref 232) [Value.ref _]) _ _ _); k_dflt ((refine Ctc.use (Mine.c_sumMul _ _ _ _ _ _ _ _ _ _ (by assumption) (by assumption) (by assumption) (by assumption) (by assumption)) (by k_asm) (by k_asm) (by k_asm) (by k_asm) (by k_asm) (by first | exact rfl | assumption) (by exact ⟨by k_mem, by walk_at "my rel", by walk_at "my rel", by walk_at "my rel"⟩) (by k_room) (by k_units) ?_); intro r9 tl9 h9 tk9 F9 N9 o9 hR9; (try simp only [List.nil_append, List.cons_append, List.append_nil, List.append_assoc] at N9 o9 hR9); obtain ⟨x9, e9⟩ := Mine.MMAt.isRef hR9; subst e9; (try dsimp only); k_sweep)))
local macro_rules | `(tactic| walk_at "call ref") => `(tactic| ((with_reducible show wpAny _ _ (call (Value.ref 232) [Value.ref _]) _ _ _); k_dflt ((refine Ctc.use (Mine.c_sumNN _ _ _ _ _ _) (by k_asm) (by k_asm) (by k_asm) (by k_asm) (by k_asm) (by first | exact rfl | assumption) (by exact ⟨by k_mem, by walk_at "my rel", by walk_at "my rel"⟩) (by k_room) (by k_units) ?_); intro r9 tl9 h9 tk9 F9 N9 o9 hR9; (try simp only [List.nil_append, List.cons_append, List.append_nil, List.append_assoc] at N9 o9 hR9); obtain ⟨x9, e9⟩ := Mine.NumAt.isRef hR9; subst e9; (try dsimp only); k_sweep)))
theorem c_addV (w : World) (v : Value) (lo hi n : Int) (t : Tok) (b0 : 0 ≤ lo) (b1 : lo < hi) (b2 : hi < 10^19) : Ctc w (binaryOp Operator.Add v (.int n t)) 32 300 (fun l => VarAt w l v lo hi) (fun l r => MMAt w l r (lo + n) (hi + n)) := by
  unfold Ctc
  k_fill
  intro p loose mean mg mb dp u gd cn cs a ccd cl outer A₀ base h₀ L m news s Q E B F X N T hk hP hd hu hret
  have hk1 := hP
  cases hP
  k_steps
  refine hret _ _ _ _ (by k_asm) (end1 [_, _, _] (by k_asm)) (by walk_at "my ord") ?_
  walk_at "my rel"
theorem c_addM (w : World) (v va : Value) (lo hi lo2 hi2 n : Int) (t : Tok) (b0 : 0 ≤ lo) (b1 : lo < hi) (b2 : hi < 10^19) (e1 : lo2 = hi * -1) (e2 : hi2 = lo * -1) : Ctc w (binaryOp Operator.Add v (.int n t)) 32 300 (fun l => OpAt w l 492 v va (-1) lo2 hi2 ∧ VarAt w l va lo hi) (fun l r => MMAt w l r (lo2 + n) (hi2 + n)) := by
  unfold Ctc
  k_fill
  intro p loose mean mg mb dp u gd cn cs a ccd cl outer A₀ base h₀ L m news s Q E B F X N T hk hP hd hu hret
  obtain ⟨hP, hP2⟩ := hP
  have hk1 := hP
  cases hP
  k_steps
  refine hret _ _ _ _ (by k_asm) (end1 [_, _, _] (by k_asm)) (by walk_at "my ord") ?_
  walk_at "my rel"
theorem c_addN (w : World) (v : Value) (k n : Int) (t : Tok) : Ctc w (binaryOp Operator.Add v (.int n t)) 32 300 (fun l => NumAt w l v k) (fun l r => NumAt w l r (k + n)) := by
  unfold Ctc
  k_fill
  intro p loose mean mg mb dp u gd cn cs a ccd cl outer A₀ base h₀ L m news s Q E B F X N T hk hP hd hu hret
  have hk1 := hP
  cases hP
  k_steps
  refine hret _ _ _ _ (by k_asm) (end1 [_, _, _] (by k_asm)) (by walk_at "my ord") ?_
  walk_at "my rel"
theorem c_mulVneg (w : World) (v : Value) (lo hi b : Int) (t : Tok) (b0 : 0 ≤ lo) (b1 : lo < hi) (hb : b < 0) (hb2 : -18446744073709551616 < b) : Ctc w (binaryOp Operator.Mult v (.int b t)) 28 264 (fun l => VarAt w l v lo hi) (fun l r => OpAt w l 492 r v b (hi * b) (lo * b)) := by
  have hm : hi * b < lo * b := Int.mul_lt_mul_of_neg_right b1 hb
  unfold Ctc
  k_fill
  intro p loose mean mg mb dp u gd cn cs a ccd cl outer A₀ base h₀ L m news s Q E B F X N T hk hP hd hu hret
  have hk1 := hP
  cases hP
  k_steps
  refine endOp hret (by k_asm) (by k_asm) (by k_mem) (by k_mem) (by omega) (by omega) (by walk_at "my sub") (by walk_at "my lt") (by walk_at "my lt")
theorem c_mulVpos (w : World) (v : Value) (lo hi b : Int) (t : Tok) (b0 : 0 ≤ lo) (b1 : lo < hi) (hb : 1 < b) (hb2 : b < 18446744073709551616) : Ctc w (binaryOp Operator.Mult v (.int b t)) 28 264 (fun l => VarAt w l v lo hi) (fun l r => OpAt w l 492 r v b (lo * b) (hi * b)) := by
  have hm : lo * b < hi * b := Int.mul_lt_mul_of_pos_right b1 (by omega)
  unfold Ctc
  k_fill
  intro p loose mean mg mb dp u gd cn cs a ccd cl outer A₀ base h₀ L m news s Q E B F X N T hk hP hd hu hret
  have hk1 := hP
  cases hP
  k_steps
  refine endOp hret (by k_asm) (by k_asm) (by k_mem) (by k_mem) (by omega) (by omega) (by walk_at "my sub") (by walk_at "my lt") (by walk_at "my lt")
theorem c_mulV1 (w : World) (v : Value) (lo hi b : Int) (t : Tok) (b0 : 0 ≤ lo) (b1 : lo < hi) (hb : b = 1) : Ctc w (binaryOp Operator.Mult v (.int b t)) 28 264 (fun l => VarAt w l v lo hi) (fun l r => MMAt w l r lo hi) := by
  unfold Ctc
  k_fill
  intro p loose mean mg mb dp u gd cn cs a ccd cl outer A₀ base h₀ L m news s Q E B F X N T hk hP hd hu hret
  have hk1 := hP
  cases hP
  k_steps
  refine endKM hret (by k_asm) (by k_asm) (by walk_at "my sub") (by walk_at "my rel")
theorem c_mulV0 (w : World) (v : Value) (lo hi b : Int) (t : Tok) (b0 : 0 ≤ lo) (b1 : lo < hi) (hb : b = 0) : Ctc w (binaryOp Operator.Mult v (.int b t)) 28 264 (fun l => VarAt w l v lo hi) (fun l r => NumAt w l r 0) := by
  unfold Ctc
  k_fill
  intro p loose mean mg mb dp u gd cn cs a ccd cl outer A₀ base h₀ L m news s Q E B F X N T hk hP hd hu hret
  have hk1 := hP
  cases hP
  k_steps
  refine endN hret (by k_asm) (by k_asm) (by k_mem) (by k_mem) (by omega) (by walk_at "my sub") (by walk_at "my lt") (by walk_at "my lt")
theorem c_mulN (w : World) (v : Value) (n b : Int) (t : Tok) (hb : b < 18446744073709551616) (hb2 : -18446744073709551616 < b) : Ctc w (binaryOp Operator.Mult v (.int b t)) 28 264 (fun l => NumAt w l v n) (fun l r => NumAt w l r (n * b)) := by
  unfold Ctc
  k_fill
  intro p loose mean mg mb dp u gd cn cs a ccd cl outer A₀ base h₀ L m news s Q E B F X N T hk hP hd hu hret
  have hk1 := hP
  cases hP
  k_steps
  refine endN hret (by k_asm) (by k_asm) (by k_mem) (by k_mem) (by omega) (by walk_at "my sub") (by walk_at "my lt") (by walk_at "my lt")
theorem c_negV (w : World) (v : Value) (lo hi : Int) (b0 : 0 ≤ lo) (b1 : lo < hi) : Ctc w (unaryOp UnaryOp.USub v) 32 300 (fun l => VarAt w l v lo hi) (fun l r => OpAt w l 492 r v (-1) (hi * -1) (lo * -1)) := by
  unfold Ctc
  k_fill
  intro p loose mean mg mb dp u gd cn cs a ccd cl outer A₀ base h₀ L m news s Q E B F X N T hk hP hd hu hret
  have hk1 := hP
  cases hP
  k_steps
  refine endOp hret (by k_asm) (by k_asm) (by k_mem) (by k_mem) (by omega) (by omega) (by walk_at "my sub") (by walk_at "my lt") (by walk_at "my lt")
theorem c_ltV1 (w : World) (v : Value) (lo hi b : Int) (t : Tok) (b1 : lo < hi) (h1 : hi < b) : Ctc w (call (.ref 380) [v, .int b t]) 28 264 (fun l => VarAt w l v lo hi) (fun l r => NumAt w l r 1) := by
  unfold Ctc
  k_fill
  intro p loose mean mg mb dp u gd cn cs a ccd cl outer A₀ base h₀ L m news s Q E B F X N T hk hP hd hu hret
  have hk1 := hP
  cases hP
  refine wpAny_call ?_
  k_dflt (first | k_enter | fail "enter")
  k_steps
  refine endN hret (by k_asm) (by k_asm) (by k_mem) (by k_mem) (by omega) (by walk_at "my sub") (by walk_at "my lt") (by walk_at "my lt")
theorem c_ltV0 (w : World) (v : Value) (lo hi b : Int) (t : Tok) (b1 : lo < hi) (h1 : b ≤ lo) : Ctc w (call (.ref 380) [v, .int b t]) 28 264 (fun l => VarAt w l v lo hi) (fun l r => NumAt w l r 0) := by
  unfold Ctc
  k_fill
  intro p loose mean mg mb dp u gd cn cs a ccd cl outer A₀ base h₀ L m news s Q E B F X N T hk hP hd hu hret
  have hk1 := hP
  cases hP
  refine wpAny_call ?_
  k_dflt (first | k_enter | fail "enter")
  k_steps
  refine endN hret (by k_asm) (by k_asm) (by k_mem) (by k_mem) (by omega) (by walk_at "my sub") (by walk_at "my lt") (by walk_at "my lt")
theorem c_ltVx (w : World) (v : Value) (lo hi b : Int) (t : Tok) (b1 : lo < hi) (h1 : lo < b) (h2 : b ≤ hi) : Ctc w (call (.ref 380) [v, .int b t]) 28 264 (fun l => VarAt w l v lo hi) (fun l r => MMAt w l r 0 1) := by
  unfold Ctc
  k_fill
  intro p loose mean mg mb dp u gd cn cs a ccd cl outer A₀ base h₀ L m news s Q E B F X N T hk hP hd hu hret
  have hk1 := hP
  cases hP
  refine wpAny_call ?_
  k_dflt (first | k_enter | fail "enter")
  k_steps
  refine endM hret (by k_asm) (by k_asm) (by k_mem) (by k_mem) (by simp [NodeCls]) rfl rfl (by omega) (by omega) (by walk_at "my sub") (by walk_at "my lt") (by walk_at "my lt")
theorem c_ltM1 (w : World) (v : Value) (va : Value) (k lo hi b : Int) (t : Tok) (b1 : lo < hi) (hk9 : k = -1) (h1 : hi < b) : Ctc w (call (.ref 380) [v, .int b t]) 28 264 (fun l => OpAt w l 492 v va k lo hi) (fun l r => NumAt w l r 1) := by
  unfold Ctc
  k_fill
  intro p loose mean mg mb dp u gd cn cs a ccd cl outer A₀ base h₀ L m news s Q E B F X N T hk hP hd hu hret
  subst hk9
  have hk1 := hP
  cases hP
  refine wpAny_call ?_
  k_dflt (first | k_enter | fail "enter")
  k_steps
  refine endN hret (by k_asm) (by k_asm) (by k_mem) (by k_mem) (by omega) (by walk_at "my sub") (by walk_at "my lt") (by walk_at "my lt")
theorem c_ltM0 (w : World) (v : Value) (va : Value) (k lo hi b : Int) (t : Tok) (b1 : lo < hi) (hk9 : k = -1) (h1 : b ≤ lo) : Ctc w (call (.ref 380) [v, .int b t]) 28 264 (fun l => OpAt w l 492 v va k lo hi) (fun l r => NumAt w l r 0) := by
  unfold Ctc
  k_fill
  intro p loose mean mg mb dp u gd cn cs a ccd cl outer A₀ base h₀ L m news s Q E B F X N T hk hP hd hu hret
  subst hk9
  have hk1 := hP
  cases hP
  refine wpAny_call ?_
  k_dflt (first | k_enter | fail "enter")
  k_steps
  refine endN hret (by k_asm) (by k_asm) (by k_mem) (by k_mem) (by omega) (by walk_at "my sub") (by walk_at "my lt") (by walk_at "my lt")
theorem c_ltMx (w : World) (v : Value) (va : Value) (k lo hi b : Int) (t : Tok) (b1 : lo < hi) (hk9 : k = -1) (h1 : lo < b) (h2 : b ≤ hi) : Ctc w (call (.ref 380) [v, .int b t]) 28 264 (fun l => OpAt w l 492 v va k lo hi) (fun l r => MMAt w l r 0 1) := by
  unfold Ctc
  k_fill
  intro p loose mean mg mb dp u gd cn cs a ccd cl outer A₀ base h₀ L m news s Q E B F X N T hk hP hd hu hret
  subst hk9
  have hk1 := hP
  cases hP
  refine wpAny_call ?_
  k_dflt (first | k_enter | fail "enter")
  k_steps
  refine endM hret (by k_asm) (by k_asm) (by k_mem) (by k_mem) (by simp [NodeCls]) rfl rfl (by omega) (by omega) (by walk_at "my sub") (by walk_at "my lt") (by walk_at "my lt")
theorem c_ltN1 (w : World) (v : Value) (n b : Int) (t : Tok) (h1 : n < b) : Ctc w (call (.ref 380) [v, .int b t]) 28 264 (fun l => NumAt w l v n) (fun l r => NumAt w l r 1) := by
  unfold Ctc
  k_fill
  intro p loose mean mg mb dp u gd cn cs a ccd cl outer A₀ base h₀ L m news s Q E B F X N T hk hP hd hu hret
  have hk1 := hP
  cases hP
  refine wpAny_call ?_
  k_dflt (first | k_enter | fail "enter")
  k_steps
  refine endN hret (by k_asm) (by k_asm) (by k_mem) (by k_mem) (by omega) (by walk_at "my sub") (by walk_at "my lt") (by walk_at "my lt")
theorem c_ltN0 (w : World) (v : Value) (n b : Int) (t : Tok) (h1 : b ≤ n) : Ctc w (call (.ref 380) [v, .int b t]) 28 264 (fun l => NumAt w l v n) (fun l r => NumAt w l r 0) := by
  unfold Ctc
  k_fill
  intro p loose mean mg mb dp u gd cn cs a ccd cl outer A₀ base h₀ L m news s Q E B F X N T hk hP hd hu hret
  have hk1 := hP
  cases hP
  refine wpAny_call ?_
  k_dflt (first | k_enter | fail "enter")
  k_steps
  all_goals (refine endN hret (by k_asm) (by k_asm) (by k_mem) (by k_mem) (by omega) (by walk_at "my sub") (by walk_at "my lt") (by walk_at "my lt"))
theorem c_negN (w : World) (v : Value) (n : Int) : Ctc w (unaryOp UnaryOp.USub v) 32 300 (fun l => NumAt w l v n) (fun l r => NumAt w l r (n * -1)) := by
  unfold Ctc
  k_fill
  intro p loose mean mg mb dp u gd cn cs a ccd cl outer A₀ base h₀ L m news s Q E B F X N T hk hP hd hu hret
  have hk1 := hP
  cases hP
  k_steps
  refine endN hret (by k_asm) (by k_asm) (by k_mem) (by k_mem) (by omega) (by walk_at "my sub") (by walk_at "my lt") (by walk_at "my lt")
theorem c_divV1 (w : World) (v : Value) (lo hi b : Int) (t : Tok) (b0 : 0 ≤ lo) (b1 : lo < hi) (hb : b = 1) : Ctc w (binaryOp Operator.FloorDiv v (.int b t)) 28 264 (fun l => VarAt w l v lo hi) (fun l r => MMAt w l r lo hi) := by
  unfold Ctc
  k_fill
  intro p loose mean mg mb dp u gd cn cs a ccd cl outer A₀ base h₀ L m news s Q E B F X N T hk hP hd hu hret
  have hk1 := hP
  cases hP
  k_steps
  refine endKM hret (by k_asm) (by k_asm) (by walk_at "my sub") (by walk_at "my rel")
theorem c_divVe (w : World) (v : Value) (lo hi b : Int) (t : Tok) (b0 : 0 ≤ lo) (b1 : lo < hi) (hb : 1 < b) (hb2 : b < 18446744073709551616) (he : lo / b = hi / b) : Ctc w (binaryOp Operator.FloorDiv v (.int b t)) 28 264 (fun l => VarAt w l v lo hi) (fun l r => NumAt w l r (lo / b)) := by
  unfold Ctc
  k_fill
  intro p loose mean mg mb dp u gd cn cs a ccd cl outer A₀ base h₀ L m news s Q E B F X N T hk hP hd hu hret
  have hk1 := hP
  cases hP
  k_steps
  refine endN hret (by k_asm) (by k_asm) (by k_mem) (by k_mem) (by omega) (by walk_at "my sub") (by walk_at "my lt") (by walk_at "my lt")
theorem c_divVn (w : World) (v : Value) (lo hi b : Int) (t : Tok) (b0 : 0 ≤ lo) (b1 : lo < hi) (hb : 1 < b) (hb2 : b < 18446744073709551616) (he : lo / b < hi / b) : Ctc w (binaryOp Operator.FloorDiv v (.int b t)) 28 264 (fun l => VarAt w l v lo hi) (fun l r => MMAt w l r (lo / b) (hi / b)) := by
  unfold Ctc
  k_fill
  intro p loose mean mg mb dp u gd cn cs a ccd cl outer A₀ base h₀ L m news s Q E B F X N T hk hP hd hu hret
  have hk1 := hP
  cases hP
  k_steps
  refine endM hret (by k_asm) (by k_asm) (by k_mem) (by k_mem) (by simp [NodeCls]) rfl rfl (by omega) (by omega) (by walk_at "my sub") (by walk_at "my lt") (by walk_at "my lt")
theorem c_divN1 (w : World) (v : Value) (n b : Int) (t : Tok) (hb : b = 1) : Ctc w (binaryOp Operator.FloorDiv v (.int b t)) 28 264 (fun l => NumAt w l v n) (fun l r => NumAt w l r n) := by
  unfold Ctc
  k_fill
  intro p loose mean mg mb dp u gd cn cs a ccd cl outer A₀ base h₀ L m news s Q E B F X N T hk hP hd hu hret
  have hk1 := hP
  cases hP
  k_steps
  refine endKN hret (by k_asm) (by k_asm) (by walk_at "my sub") (by walk_at "my rel")
theorem c_divN (w : World) (v : Value) (n b : Int) (t : Tok) (b0 : 0 ≤ n) (hb : 1 < b) (hb2 : b < 18446744073709551616) : Ctc w (binaryOp Operator.FloorDiv v (.int b t)) 28 264 (fun l => NumAt w l v n) (fun l r => NumAt w l r (n / b)) := by
  unfold Ctc
  k_fill
  intro p loose mean mg mb dp u gd cn cs a ccd cl outer A₀ base h₀ L m news s Q E B F X N T hk hP hd hu hret
  have hk1 := hP
  cases hP
  k_steps
  refine endN hret (by k_asm) (by k_asm) (by k_mem) (by k_mem) (by omega) (by walk_at "my sub") (by walk_at "my lt") (by walk_at "my lt")
local macro_rules | `(tactic| walk_at "call ref") => `(tactic| ((with_reducible show wpAny _ _ (call (Value.ref 567) [_, Value.int _ _]) _ _ _); k_dflt ((refine Ctc.use (Mine.c_Mod _ _ _ _ _ _ (by omega) (by omega) (by omega) (by omega) (by assumption)) (by k_asm) (by k_asm) (by k_asm) (by k_asm) (by k_asm) (by first | exact rfl | assumption) (by walk_at "my rel") (by k_room) (by k_units) ?_); intro r9 tl9 h9 tk9 F9 N9 o9 hR9; (try simp only [List.nil_append, List.cons_append, List.append_nil, List.append_assoc] at N9 o9 hR9); obtain ⟨x9, e9⟩ := Mine.OpAt.isRef hR9; subst e9; (try dsimp only); k_sweep)))
theorem c_modV1 (w : World) (v : Value) (lo hi b : Int) (t : Tok) (b0 : 0 ≤ lo) (b1 : lo < hi) (hb : b = 1) : Ctc w (binaryOp Operator.Mod v (.int b t)) 40 400 (fun l => VarAt w l v lo hi) (fun l r => NumAt w l r 0) := by
  unfold Ctc
  k_fill
  intro p loose mean mg mb dp u gd cn cs a ccd cl outer A₀ base h₀ L m news s Q E B F X N T hk hP hd hu hret
  have hk1 := hP
  cases hP
  k_steps
  refine endN hret (by k_asm) (by k_asm) (by k_mem) (by k_mem) (by omega) (by walk_at "my sub") (by walk_at "my lt") (by walk_at "my lt")
theorem c_modVn (w : World) (v : Value) (lo hi b : Int) (t : Tok) (b0 : 0 ≤ lo) (b1 : lo < hi) (hb : 1 < b) (hb2 : b < 18446744073709551616) (he : lo / b ≠ hi / b) : Ctc w (binaryOp Operator.Mod v (.int b t)) 40 400 (fun l => VarAt w l v lo hi) (fun l r => MMAt w l r 0 (b - 1)) := by
  unfold Ctc
  k_fill
  intro p loose mean mg mb dp u gd cn cs a ccd cl outer A₀ base h₀ L m news s Q E B F X N T hk hP hd hu hret
  have hk1 := hP
  cases hP
  k_steps
  refine hret _ _ _ _ (by k_asm) (end1 [] (by k_asm)) (by walk_at "my ord") ?_
  walk_at "my rel"
theorem c_modVe (w : World) (v : Value) (lo hi b : Int) (t : Tok) (b0 : 0 ≤ lo) (b1 : lo < hi) (b2 : hi < 10^19) (hb : 1 < b) (hb2 : b < 18446744073709551616) (he : lo / b = hi / b) : Ctc w (binaryOp Operator.Mod v (.int b t)) 40 400 (fun l => VarAt w l v lo hi) (fun l r => MMAt w l r (lo + -(b * (lo / b))) (hi + -(b * (lo / b)))) := by
  unfold Ctc
  k_fill
  intro p loose mean mg mb dp u gd cn cs a ccd cl outer A₀ base h₀ L m news s Q E B F X N T hk hP hd hu hret
  have hk1 := hP
  cases hP
  k_steps
  refine hret _ _ _ _ (by k_asm) (end1 [_, _, _] (by k_asm)) (by walk_at "my ord") ?_
  walk_at "my rel"
theorem c_modN1 (w : World) (v : Value) (n b : Int) (t : Tok) (b0 : 0 ≤ n) (hb : b = 1) : Ctc w (binaryOp Operator.Mod v (.int b t)) 40 400 (fun l => NumAt w l v n) (fun l r => NumAt w l r 0) := by
  unfold Ctc
  k_fill
  intro p loose mean mg mb dp u gd cn cs a ccd cl outer A₀ base h₀ L m news s Q E B F X N T hk hP hd hu hret
  have hk1 := hP
  cases hP
  k_steps
  refine endN hret (by k_asm) (by k_asm) (by k_mem) (by k_mem) (by omega) (by walk_at "my sub") (by walk_at "my lt") (by walk_at "my lt")
theorem c_modNe (w : World) (v : Value) (n b : Int) (t : Tok) (b0 : 0 ≤ n) (hb : 1 < b) (hb2 : b < 18446744073709551616) : Ctc w (binaryOp Operator.Mod v (.int b t)) 40 400 (fun l => NumAt w l v n) (fun l r => NumAt w l r (n + -(b * (n / b)))) := by
  unfold Ctc
  k_fill
  intro p loose mean mg mb dp u gd cn cs a ccd cl outer A₀ base h₀ L m news s Q E B F X N T hk hP hd hu hret
  have hk1 := hP
  cases hP
  k_steps
  refine hret _ _ _ _ (by k_asm) (end1 [_, _, _] (by k_asm)) (by walk_at "my ord") ?_
  walk_at "my rel"
local macro_rules | `(tactic| walk_at "unaryOp USub") => `(tactic| ((with_reducible show wpAny _ _ (unaryOp UnaryOp.USub (Value.ref _)) _ _ _); k_dflt ((refine' Ctc.use (Mine.c_negN _ _ _) ?k1 ?k2 ?k3 ?k4 ?k5 ?k6 ?k7 ?k8 ?k9 ?_; (case k1 => k_asm); (case k2 => k_asm); (case k3 => k_asm); (case k4 => k_asm); (case k5 => k_asm); (case k6 => first | exact rfl | assumption); (case k7 => walk_at "my rel"); (case k8 => k_room); (case k9 => k_units)); intro r9 tl9 h9 tk9 F9 N9 o9 hR9; (try simp only [List.nil_append, List.cons_append, List.append_nil, List.append_assoc] at N9 o9 hR9); obtain ⟨x9, e9⟩ := Mine.NumAt.isRef hR9; subst e9; (try dsimp only); k_sweep)))
local macro_rules | `(tactic| walk_at "unaryOp USub") => `(tactic| ((with_reducible show wpAny _ _ (unaryOp UnaryOp.USub (Value.ref _)) _ _ _); k_dflt ((refine' Ctc.use (Mine.c_negV _ _ _ _ ?h1 ?h2) ?k1 ?k2 ?k3 ?k4 ?k5 ?k6 ?k7 ?k8 ?k9 ?_; (case k1 => k_asm); (case k2 => k_asm); (case k3 => k_asm); (case k4 => k_asm); (case k5 => k_asm); (case k6 => first | exact rfl | assumption); (case k7 => walk_at "my rel"); (case h1 => assumption); (case h2 => assumption); (case k8 => k_room); (case k9 => k_units)); intro r9 tl9 h9 tk9 F9 N9 o9 hR9; (try simp only [List.nil_append, List.cons_append, List.append_nil, List.append_assoc] at N9 o9 hR9); obtain ⟨x9, e9⟩ := Mine.OpAt.isRef hR9; subst e9; (try dsimp only); k_sweep)))
local macro_rules | `(tactic| walk_at "call ref") => `(tactic| ((with_reducible show wpAny _ _ (call (Value.ref 380) [_, Value.int _ _]) _ _ _); k_dflt ((refine' Ctc.use (Mine.c_ltM1 _ _ _ _ _ _ _ _ ?h1 rfl ?h2) ?k1 ?k2 ?k3 ?k4 ?k5 ?k6 ?k7 ?k8 ?k9 ?_; (case k1 => k_asm); (case k2 => k_asm); (case k3 => k_asm); (case k4 => k_asm); (case k5 => k_asm); (case k6 => first | exact rfl | assumption); (case k7 => walk_at "my rel"); (case h1 => omega); (case h2 => omega); (case k8 => k_room); (case k9 => k_units)); intro r9 tl9 h9 tk9 F9 N9 o9 hR9; (try simp only [List.nil_append, List.cons_append, List.append_nil, List.append_assoc] at N9 o9 hR9); obtain ⟨x9, e9⟩ := Mine.NumAt.isRef hR9; subst e9; (try dsimp only); k_sweep)))
local macro_rules | `(tactic| walk_at "call ref") => `(tactic| ((with_reducible show wpAny _ _ (call (Value.ref 380) [_, Value.int _ _]) _ _ _); k_dflt ((refine' Ctc.use (Mine.c_ltM0 _ _ _ _ _ _ _ _ ?h1 rfl ?h2) ?k1 ?k2 ?k3 ?k4 ?k5 ?k6 ?k7 ?k8 ?k9 ?_; (case k1 => k_asm); (case k2 => k_asm); (case k3 => k_asm); (case k4 => k_asm); (case k5 => k_asm); (case k6 => first | exact rfl | assumption); (case k7 => walk_at "my rel"); (case h1 => omega); (case h2 => omega); (case k8 => k_room); (case k9 => k_units)); intro r9 tl9 h9 tk9 F9 N9 o9 hR9; (try simp only [List.nil_append, List.cons_append, List.append_nil, List.append_assoc] at N9 o9 hR9); obtain ⟨x9, e9⟩ := Mine.NumAt.isRef hR9; subst e9; (try dsimp only); k_sweep)))
local macro_rules | `(tactic| walk_at "call ref") => `(tactic| ((with_reducible show wpAny _ _ (call (Value.ref 380) [_, Value.int _ _]) _ _ _); k_dflt ((refine' Ctc.use (Mine.c_ltMx _ _ _ _ _ _ _ _ ?h1 rfl ?h2 ?h3) ?k1 ?k2 ?k3 ?k4 ?k5 ?k6 ?k7 ?k8 ?k9 ?_; (case k1 => k_asm); (case k2 => k_asm); (case k3 => k_asm); (case k4 => k_asm); (case k5 => k_asm); (case k6 => first | exact rfl | assumption); (case k7 => walk_at "my rel"); (case h1 => omega); (case h2 => omega); (case h3 => omega); (case k8 => k_room); (case k9 => k_units)); intro r9 tl9 h9 tk9 F9 N9 o9 hR9; (try simp only [List.nil_append, List.cons_append, List.append_nil, List.append_assoc] at N9 o9 hR9); obtain ⟨x9, e9⟩ := Mine.MMAt.isRef hR9; subst e9; (try dsimp only); k_sweep)))
local macro_rules | `(tactic| walk_at "call ref") => `(tactic| ((with_reducible show wpAny _ _ (call (Value.ref 380) [_, Value.int _ _]) _ _ _); k_dflt ((refine' Ctc.use (Mine.c_ltN1 _ _ _ _ _ ?h1) ?k1 ?k2 ?k3 ?k4 ?k5 ?k6 ?k7 ?k8 ?k9 ?_; (case k1 => k_asm); (case k2 => k_asm); (case k3 => k_asm); (case k4 => k_asm); (case k5 => k_asm); (case k6 => first | exact rfl | assumption); (case k7 => walk_at "my rel"); (case h1 => omega); (case k8 => k_room); (case k9 => k_units)); intro r9 tl9 h9 tk9 F9 N9 o9 hR9; (try simp only [List.nil_append, List.cons_append, List.append_nil, List.append_assoc] at N9 o9 hR9); obtain ⟨x9, e9⟩ := Mine.NumAt.isRef hR9; subst e9; (try dsimp only); k_sweep)))
local macro_rules | `(tactic| walk_at "call ref") => `(tactic| ((with_reducible show wpAny _ _ (call (Value.ref 380) [_, Value.int _ _]) _ _ _); k_dflt ((refine' Ctc.use (Mine.c_ltN0 _ _ _ _ _ ?h1) ?k1 ?k2 ?k3 ?k4 ?k5 ?k6 ?k7 ?k8 ?k9 ?_; (case k1 => k_asm); (case k2 => k_asm); (case k3 => k_asm); (case k4 => k_asm); (case k5 => k_asm); (case k6 => first | exact rfl | assumption); (case k7 => walk_at "my rel"); (case h1 => omega); (case k8 => k_room); (case k9 => k_units)); intro r9 tl9 h9 tk9 F9 N9 o9 hR9; (try simp only [List.nil_append, List.cons_append, List.append_nil, List.append_assoc] at N9 o9 hR9); obtain ⟨x9, e9⟩ := Mine.NumAt.isRef hR9; subst e9; (try dsimp only); k_sweep)))
theorem c_geV1 (w : World) (v : Value) (lo hi b : Int) (t : Tok) (b0 : 0 ≤ lo) (b1 : lo < hi) (h1 : b ≤ lo) : Ctc w (call (.ref 387) [v, .int b t]) 48 600 (fun l => VarAt w l v lo hi) (fun l r => NumAt w l r 1) := by
  unfold Ctc
  k_fill
  intro p loose mean mg mb dp u gd cn cs a ccd cl outer A₀ base h₀ L m news s Q E B F X N T hk hP hd hu hret
  have hk1 := hP
  cases hP
  refine wpAny_call ?_
  k_dflt (first | k_enter | fail "enter")
  k_steps
  refine hret _ _ _ _ (by k_asm) (end1 [] (by k_asm)) (by walk_at "my ord") ?_
  walk_at "my rel"
theorem c_geV0 (w : World) (v : Value) (lo hi b : Int) (t : Tok) (b0 : 0 ≤ lo) (b1 : lo < hi) (h1 : hi < b) : Ctc w (call (.ref 387) [v, .int b t]) 48 600 (fun l => VarAt w l v lo hi) (fun l r => NumAt w l r 0) := by
  unfold Ctc
  k_fill
  intro p loose mean mg mb dp u gd cn cs a ccd cl outer A₀ base h₀ L m news s Q E B F X N T hk hP hd hu hret
  have hk1 := hP
  cases hP
  refine wpAny_call ?_
  k_dflt (first | k_enter | fail "enter")
  k_steps
  refine hret _ _ _ _ (by k_asm) (end1 [] (by k_asm)) (by walk_at "my ord") ?_
  walk_at "my rel"
theorem c_geVx (w : World) (v : Value) (lo hi b : Int) (t : Tok) (b0 : 0 ≤ lo) (b1 : lo < hi) (h1 : lo < b) (h2 : b ≤ hi) : Ctc w (call (.ref 387) [v, .int b t]) 48 600 (fun l => VarAt w l v lo hi) (fun l r => MMAt w l r 0 1) := by
  unfold Ctc
  k_fill
  intro p loose mean mg mb dp u gd cn cs a ccd cl outer A₀ base h₀ L m news s Q E B F X N T hk hP hd hu hret
  have hk1 := hP
  cases hP
  refine wpAny_call ?_
  k_dflt (first | k_enter | fail "enter")
  k_steps
  refine hret _ _ _ _ (by k_asm) (end1 [] (by k_asm)) (by walk_at "my ord") ?_
  walk_at "my rel"
theorem c_geN1 (w : World) (v : Value) (n b : Int) (t : Tok) (h1 : b ≤ n) : Ctc w (call (.ref 387) [v, .int b t]) 48 600 (fun l => NumAt w l v n) (fun l r => NumAt w l r 1) := by
  unfold Ctc
  k_fill
  intro p loose mean mg mb dp u gd cn cs a ccd cl outer A₀ base h₀ L m news s Q E B F X N T hk hP hd hu hret
  have hk1 := hP
  cases hP
  refine wpAny_call ?_
  k_dflt (first | k_enter | fail "enter")
  k_steps
  refine hret _ _ _ _ (by k_asm) (end1 [] (by k_asm)) (by walk_at "my ord") ?_
  walk_at "my rel"
theorem c_geN0 (w : World) (v : Value) (n b : Int) (t : Tok) (h1 : n < b) : Ctc w (call (.ref 387) [v, .int b t]) 48 600 (fun l => NumAt w l v n) (fun l r => NumAt w l r 0) := by
  unfold Ctc
  k_fill
  intro p loose mean mg mb dp u gd cn cs a ccd cl outer A₀ base h₀ L m news s Q E B F X N T hk hP hd hu hret
  have hk1 := hP
  cases hP
  refine wpAny_call ?_
  k_dflt (first | k_enter | fail "enter")
  k_steps
  refine hret _ _ _ _ (by k_asm) (end1 [] (by k_asm)) (by walk_at "my ord") ?_
  walk_at "my rel"
theorem Ctc.mono {w : World} {T : Sem Value} {dn un dn' un' : Nat} {Pre Pre' : Led → Prop} {R R' : Led → Value → Prop} (C : Ctc w T dn un Pre R) (h1 : dn ≤ dn') (h2 : un ≤ un') (hp : ∀ l, Pre' l → Pre l)
    (hr : ∀ l l' r, Pre' l → (∀ p ∈ l, p ∈ l') → R l' r → R' l' r) : Ctc w T dn' un' Pre' R' :=
  fun _ _ _ _ _ _ _ _ _ _ _ _ _ _ _ _ _ _ _ _ _ _ _ B F X N Tp hk hP hd hu ret => C.use B F X N Tp hk (hp _ hP) (by omega) (by omega) fun r tl h' tk' F' N' o hR =>
    ret r tl h' tk' F' N' o (hr _ _ _ hP (fun _ h => List.mem_append.mpr (.inl h)) hR)
/-- the node that the law makes: a Variable, or a number where both bounds are the same -/
def NodeAt (w : World) (l : Led) (v : Value) (lo hi : Int) : Prop := (lo < hi ∧ VarAt w l v lo hi) ∨ (lo = hi ∧ NumAt w l v lo)
/-- its negation -/
def NegAt (w : World) (l : Led) (r v : Value) (lo hi : Int) : Prop := (lo < hi ∧ OpAt w l 492 r v (-1) (hi * -1) (lo * -1) ∧ VarAt w l v lo hi) ∨ (lo = hi ∧ NumAt w l r (lo * -1))
/-- a result: its bounds, and a number where they are the same -/
def ResAt (w : World) (l : Led) (r : Value) (lo hi : Int) : Prop := MMAt w l r lo hi ∧ (lo = hi → NumAt w l r lo)
theorem ResAt.ofNum {w : World} {l : Led} {r : Value} {n lo hi : Int} (h : NumAt w l r n) (e1 : n = lo) (e2 : n = hi) : ResAt w l r lo hi := by
  subst e1; subst e2; exact ⟨h.mm, fun _ => h⟩
theorem ResAt.ofMM {w : World} {l : Led} {r : Value} {a b lo hi : Int} (h : MMAt w l r a b) (e1 : a = lo) (e2 : b = hi) (hne : lo ≠ hi) : ResAt w l r lo hi := by
  subst e1; subst e2; exact ⟨h, fun e => absurd e hne⟩
theorem ResAt.mono {w : World} {l l' : Led} {v : Value} {lo hi : Int} (h : ResAt w l v lo hi) (hs : ∀ p ∈ l, p ∈ l') : ResAt w l' v lo hi := ⟨h.1.mono hs, fun e => (h.2 e).mono hs⟩
theorem NodeAt.mono {w : World} {l l' : Led} {v : Value} {lo hi : Int} (h : NodeAt w l v lo hi) (hs : ∀ p ∈ l, p ∈ l') : NodeAt w l' v lo hi := by
  rcases h with ⟨e, h⟩ | ⟨e, h⟩
  · exact .inl ⟨e, h.mono hs⟩
  · exact .inr ⟨e, h.mono hs⟩
theorem NegAt.mono {w : World} {l l' : Led} {r v : Value} {lo hi : Int} (h : NegAt w l r v lo hi) (hs : ∀ p ∈ l, p ∈ l') : NegAt w l' r v lo hi := by
  rcases h with ⟨e, h, h2⟩ | ⟨e, h⟩
  · exact .inl ⟨e, h.mono hs, h2.mono hs⟩
  · exact .inr ⟨e, h.mono hs⟩
theorem NodeAt.isRef {w : World} {l : Led} {v : Value} {lo hi : Int} (h : NodeAt w l v lo hi) : ∃ x, v = .ref x := by
  rcases h with ⟨_, h⟩ | ⟨_, h⟩ <;> (cases h; exact ⟨_, rfl⟩)
theorem NegAt.isRef {w : World} {l : Led} {r v : Value} {lo hi : Int} (h : NegAt w l r v lo hi) : ∃ x, r = .ref x := by
  rcases h with ⟨_, h, _⟩ | ⟨_, h⟩ <;> (cases h; exact ⟨_, rfl⟩)
theorem ResAt.isRef {w : World} {l : Led} {v : Value} {lo hi : Int} (h : ResAt w l v lo hi) : ∃ x, v = .ref x := h.1.isRef
theorem NodeAt.var {w : World} {l : Led} {v : Value} {lo hi : Int} (e : lo < hi) (h : NodeAt w l v lo hi) : VarAt w l v lo hi := by
  rcases h with ⟨_, h⟩ | ⟨e2, _⟩
  · exact h
  · omega
theorem NodeAt.num {w : World} {l : Led} {v : Value} {lo hi : Int} (e : lo = hi) (h : NodeAt w l v lo hi) : NumAt w l v lo := by
  rcases h with ⟨e2, h⟩ | ⟨_, h⟩
  · omega
  · exact h
section
variable (w : World) (v : Value) (lo hi : Int)
theorem g_mod (b : Int) (t : Tok) (b0 : 0 ≤ lo) (b1 : lo ≤ hi) (b2 : hi < 10^19) (hb : 0 < b) (hb2 : b < 18446744073709551616) : Ctc w (binaryOp Operator.Mod v (.int b t)) 60 900 (fun l => NodeAt w l v lo hi)
    (fun l r => ResAt w l r (if lo / b = hi / b then lo % b else 0) (if lo / b = hi / b then hi % b else b - 1)) := by
  have d1 := Int.emod_def lo b
  have d2 := Int.emod_def hi b
  by_cases e : lo < hi
  · by_cases h1 : b = 1
    · refine (c_modV1 w v lo hi b t b0 e h1).mono (by omega) (by omega) (fun _ h => h.var e) fun l l' r _ _ h => ?_
      subst h1
      refine ResAt.ofNum h ?_ ?_ <;> simp
    · by_cases he : lo / b = hi / b
      · rw [if_pos he, if_pos he]
        refine (c_modVe w v lo hi b t b0 e b2 (by omega) hb2 he).mono (by omega) (by omega) (fun _ h => h.var e) fun l l' r _ _ h => ?_
        rw [← he] at d2
        refine ResAt.ofMM h ?_ ?_ ?_ <;> omega
      · rw [if_neg he, if_neg he]
        refine (c_modVn w v lo hi b t b0 e (by omega) hb2 he).mono (by omega) (by omega) (fun _ h => h.var e) fun l l' r _ _ h => ?_
        refine ResAt.ofMM h ?_ ?_ ?_ <;> omega
  · have e' : lo = hi := by omega
    subst e'
    simp only [if_true]
    by_cases h1 : b = 1
    · refine (c_modN1 w v lo b t b0 h1).mono (by omega) (by omega) (fun _ h => h.num rfl) fun l l' r _ _ h => ?_
      subst h1
      refine ResAt.ofNum h ?_ ?_ <;> simp
    · refine (c_modNe w v lo b t b0 (by omega) hb2).mono (by omega) (by omega) (fun _ h => h.num rfl) fun l l' r _ _ h => ?_
      refine ResAt.ofNum h ?_ ?_ <;> omega
theorem g_div (b : Int) (t : Tok) (b0 : 0 ≤ lo) (b1 : lo ≤ hi) (hb : 0 < b) (hb2 : b < 18446744073709551616) : Ctc w (binaryOp Operator.FloorDiv v (.int b t)) 60 900 (fun l => NodeAt w l v lo hi)
    (fun l r => ResAt w l r (lo / b) (hi / b)) := by
  by_cases e : lo < hi
  · by_cases h1 : b = 1
    · refine (c_divV1 w v lo hi b t b0 e h1).mono (by omega) (by omega) (fun _ h => h.var e) fun l l' r _ _ h => ?_
      subst h1
      refine ResAt.ofMM h ?_ ?_ ?_ <;> simp <;> omega
    · by_cases he : lo / b = hi / b
      · refine (c_divVe w v lo hi b t b0 e (by omega) hb2 he).mono (by omega) (by omega) (fun _ h => h.var e) fun l l' r _ _ h => ?_
        exact ResAt.ofNum h rfl he
      · have hle : lo / b ≤ hi / b := Int.ediv_le_ediv hb (by omega)
        refine (c_divVn w v lo hi b t b0 e (by omega) hb2 (by omega)).mono (by omega) (by omega) (fun _ h => h.var e) fun l l' r _ _ h => ?_
        exact ResAt.ofMM h rfl rfl he
  · have e' : lo = hi := by omega
    subst e'
    by_cases h1 : b = 1
    · refine (c_divN1 w v lo b t h1).mono (by omega) (by omega) (fun _ h => h.num rfl) fun l l' r _ _ h => ?_
      subst h1
      refine ResAt.ofNum h ?_ ?_ <;> simp
    · refine (c_divN w v lo b t b0 (by omega) hb2).mono (by omega) (by omega) (fun _ h => h.num rfl) fun l l' r _ _ h => ?_
      exact ResAt.ofNum h rfl rfl
theorem g_mul (b : Int) (t : Tok) (b0 : 0 ≤ lo) (b1 : lo ≤ hi) (hb : -18446744073709551616 < b) (hb2 : b < 18446744073709551616) : Ctc w (binaryOp Operator.Mult v (.int b t)) 60 900 (fun l => NodeAt w l v lo hi)
    (fun l r => ResAt w l r (min (lo * b) (hi * b)) (max (lo * b) (hi * b))) := by
  by_cases e : lo < hi
  · rcases Int.lt_trichotomy b 0 with h1 | h1 | h1
    · have hm : hi * b < lo * b := Int.mul_lt_mul_of_neg_right e h1
      refine (c_mulVneg w v lo hi b t b0 e h1 hb).mono (by omega) (by omega) (fun _ h => h.var e) fun l l' r _ _ h => ?_
      refine ResAt.ofMM (h.mm (by simp)) ?_ ?_ ?_ <;> omega
    · refine (c_mulV0 w v lo hi b t b0 e h1).mono (by omega) (by omega) (fun _ h => h.var e) fun l l' r _ _ h => ?_
      subst h1
      refine ResAt.ofNum h ?_ ?_ <;> simp
    · have hm : lo * b < hi * b := Int.mul_lt_mul_of_pos_right e h1
      by_cases h2 : b = 1
      · refine (c_mulV1 w v lo hi b t b0 e h2).mono (by omega) (by omega) (fun _ h => h.var e) fun l l' r _ _ h => ?_
        subst h2
        refine ResAt.ofMM h ?_ ?_ ?_ <;> omega
      · refine (c_mulVpos w v lo hi b t b0 e (by omega) hb2).mono (by omega) (by omega) (fun _ h => h.var e) fun l l' r _ _ h => ?_
        refine ResAt.ofMM (h.mm (by simp)) ?_ ?_ ?_ <;> omega
  · have e' : lo = hi := by omega
    subst e'
    refine (c_mulN w v lo b t hb2 hb).mono (by omega) (by omega) (fun _ h => h.num rfl) fun l l' r _ _ h => ?_
    refine ResAt.ofNum h ?_ ?_ <;> omega
theorem g_add (n : Int) (t : Tok) (b0 : 0 ≤ lo) (b1 : lo ≤ hi) (b2 : hi < 10^19) : Ctc w (binaryOp Operator.Add v (.int n t)) 60 900 (fun l => NodeAt w l v lo hi) (fun l r => ResAt w l r (lo + n) (hi + n)) := by
  by_cases e : lo < hi
  · refine (c_addV w v lo hi n t b0 e b2).mono (by omega) (by omega) (fun _ h => h.var e) fun l l' r _ _ h => ?_
    exact ResAt.ofMM h rfl rfl (by omega)
  · have e' : lo = hi := by omega
    subst e'
    refine (c_addN w v lo n t).mono (by omega) (by omega) (fun _ h => h.num rfl) fun l l' r _ _ h => ?_
    exact ResAt.ofNum h rfl rfl
theorem g_neg (b0 : 0 ≤ lo) (b1 : lo ≤ hi) : Ctc w (unaryOp UnaryOp.USub v) 60 900 (fun l => NodeAt w l v lo hi) (fun l r => NegAt w l r v lo hi) := by
  by_cases e : lo < hi
  · refine (c_negV w v lo hi b0 e).mono (by omega) (by omega) (fun _ h => h.var e) fun l l' r hp hs h => ?_
    exact .inl ⟨e, h, (hp.var e).mono hs⟩
  · have e' : lo = hi := by omega
    subst e'
    refine (c_negN w v lo).mono (by omega) (by omega) (fun _ h => h.num rfl) fun l l' r _ _ h => ?_
    exact .inr ⟨rfl, h⟩
theorem g_addNeg (r₀ : Value) (n : Int) (t : Tok) (b0 : 0 ≤ lo) (b1 : lo ≤ hi) (b2 : hi < 10^19) : Ctc w (binaryOp Operator.Add r₀ (.int n t)) 60 900 (fun l => NegAt w l r₀ v lo hi) (fun l r => ResAt w l r (n - hi) (n - lo)) := by
  by_cases e : lo < hi
  · refine (c_addM w r₀ v lo hi _ _ n t b0 e b2 rfl rfl).mono (by omega) (by omega) (fun _ h => ?_) fun l l' r _ _ h => ?_
    · rcases h with ⟨_, h, h2⟩ | ⟨e2, _⟩
      · exact ⟨h, h2⟩
      · omega
    · refine ResAt.ofMM h ?_ ?_ ?_ <;> omega
  · have e' : lo = hi := by omega
    subst e'
    refine (c_addN w r₀ (lo * -1) n t).mono (by omega) (by omega) (fun _ h => ?_) fun l l' r _ _ h => ?_
    · rcases h with ⟨e2, _⟩ | ⟨_, h⟩
      · omega
      · exact h
    · refine ResAt.ofNum h ?_ ?_ <;> omega
theorem g_lt (b : Int) (t : Tok) (b1 : lo ≤ hi) : Ctc w (call (.ref 380) [v, .int b t]) 60 900 (fun l => NodeAt w l v lo hi) (fun l r => ResAt w l r (if hi < b then 1 else 0) (if lo < b then 1 else 0)) := by
  by_cases e : lo < hi
  · by_cases h1 : hi < b
    · rw [if_pos h1, if_pos (by omega)]
      exact (c_ltV1 w v lo hi b t e h1).mono (by omega) (by omega) (fun _ h => h.var e) fun l l' r _ _ h => ResAt.ofNum h rfl rfl
    · rw [if_neg h1]
      by_cases h2 : lo < b
      · rw [if_pos h2]
        exact (c_ltVx w v lo hi b t e h2 (by omega)).mono (by omega) (by omega) (fun _ h => h.var e) fun l l' r _ _ h => ResAt.ofMM h rfl rfl (by decide)
      · rw [if_neg h2]
        exact (c_ltV0 w v lo hi b t e (by omega)).mono (by omega) (by omega) (fun _ h => h.var e) fun l l' r _ _ h => ResAt.ofNum h rfl rfl
  · have e' : lo = hi := by omega
    subst e'
    by_cases h1 : lo < b
    · rw [if_pos h1]
      exact (c_ltN1 w v lo b t h1).mono (by omega) (by omega) (fun _ h => h.num rfl) fun l l' r _ _ h => ResAt.ofNum h rfl rfl
    · rw [if_neg h1]
      exact (c_ltN0 w v lo b t (by omega)).mono (by omega) (by omega) (fun _ h => h.num rfl) fun l l' r _ _ h => ResAt.ofNum h rfl rfl
theorem g_ge (b : Int) (t : Tok) (b0 : 0 ≤ lo) (b1 : lo ≤ hi) : Ctc w (call (.ref 387) [v, .int b t]) 60 900 (fun l => NodeAt w l v lo hi) (fun l r => ResAt w l r (if lo ≥ b then 1 else 0) (if hi ≥ b then 1 else 0)) := by
  by_cases e : lo < hi
  · by_cases h1 : b ≤ lo
    · rw [if_pos h1, if_pos (show hi ≥ b by omega)]
      exact (c_geV1 w v lo hi b t b0 e h1).mono (by omega) (by omega) (fun _ h => h.var e) fun l l' r _ _ h => ResAt.ofNum h rfl rfl
    · rw [if_neg h1]
      by_cases h2 : b ≤ hi
      · rw [if_pos h2]
        exact (c_geVx w v lo hi b t b0 e (by omega) h2).mono (by omega) (by omega) (fun _ h => h.var e) fun l l' r _ _ h => ResAt.ofMM h rfl rfl (by decide)
      · rw [if_neg h2]
        exact (c_geV0 w v lo hi b t b0 e (by omega)).mono (by omega) (by omega) (fun _ h => h.var e) fun l l' r _ _ h => ResAt.ofNum h rfl rfl
  · have e' : lo = hi := by omega
    subst e'
    by_cases h1 : b ≤ lo
    · rw [if_pos h1]
      exact (c_geN1 w v lo b t h1).mono (by omega) (by omega) (fun _ h => h.num rfl) fun l l' r _ _ h => ResAt.ofNum h rfl rfl
    · rw [if_neg h1]
      exact (c_geN0 w v lo b t (by omega)).mono (by omega) (by omega) (fun _ h => h.num rfl) fun l l' r _ _ h => ResAt.ofNum h rfl rfl
end
theorem c_at (w : World) (ws : List Value) (ns : List Int) (D : Addr) (k : Int) (t : Tok) (hI : IntsAre ws ns) (hlen : ns.length ≤ 6) (k0 : 0 ≤ k) (k1 : k ≤ 5) : Ctc w (call (.ref 718) [.ref D, .int k t]) 20 164 (fun l => (D, W.listOf ws.toArray 0) ∈ l)
    (fun _ r => ∃ x t, r = .int x t ∧ -1000000000000000000 < x ∧ x < 1000000000000000003) := by
  unfold Ctc
  k_fill
  intro p loose mean mg mb dp u gd cn cs a ccd cl outer A₀ base h₀ L m news s Q E B F X N T hk hP hd hu hret
  have N1 : News h₀ L s.heap ((D, W.listOf ws.toArray 0) :: news) := newsSub N (by intro p hp; rcases List.mem_cons.mp hp with rfl | hp; exact hP; exact hp)
  clear N
  refine wpAny_call ?_
  k_dflt (first | k_enter | fail "enter")
  k_steps
  all_goals (refine hret _ [] _ _ (by k_asm) (newsSub (by k_asm) (by intro p9 h9; simp only [List.append_nil] at h9; exact List.mem_cons_of_mem _ h9)) ord0 ⟨_, _, rfl, ?_, ?_⟩)
  all_goals (try rw [Int.fmod_eq_emod_of_nonneg _ (by decide)])
  all_goals (clear hret; first | omega | (rename_i h9; split at h9 <;> omega))
theorem x_at (w : World) (ws : List Value) (ns : List Int) (D : Addr) (k : Int) (t : Tok) (hI : IntsAre ws ns) (hlen : ns.length ≤ 6) (k0 : 0 ≤ k) (k1 : k ≤ 5) : CtX w (call (.ref 718) [.ref D, .int k t]) 20 164 (fun l => (D, W.listOf ws.toArray 0) ∈ l)
    (fun _ tl r => tl = [] ∧ ∃ x t, r = .int x t ∧ -1000000000000000000 < x ∧ x < 1000000000000000003) :=
  Ctc.drop (c_at w ws ns D k t hI hlen k0 k1) (fun r => ∃ x t, r = .int x t ∧ -1000000000000000000 < x ∧ x < 1000000000000000003) fun _ _ h => h
theorem endV {h₀ h' : Heap} {L : Addr} {m : Str → Option Value} {w : World} {news l : Led} {s : Shared} {Q : Value → Shared → Prop} {lo hi : Int} {tk' : Nat} {x dx : Addr} {t1 t2 t3 t4 t5 t6 t7 : Tok}
    (hret : ∀ r tl h' tk', Fr h₀ L h' m → News h₀ L h' (news ++ tl) → (∀ q ∈ news, ∀ p ∈ tl, q.1 ≠ p.1) → VarAt w (news ++ tl) r lo hi → Q r { s with heap := h', toks := tk' })
    (F : Fr h₀ L h' m) (N : News h₀ L h' l) (a : (x, instObj 305 dx) ∈ l)
    (b : (dx, dictOf [⟨PyData.keyHash w.params (Str.ofString "expr"), .str (Str.ofString "expr") t1, .str (Str.ofString "v") t2⟩, ⟨PyData.keyHash w.params (Str.ofString "min"), .str (Str.ofString "min") t3, .int lo t4⟩, ⟨PyData.keyHash w.params (Str.ofString "max"), .str (Str.ofString "max") t5, .int hi t6⟩, ⟨PyData.keyHash w.params (Str.ofString "_val"), .str (Str.ofString "_val") t7, .none⟩] 4) ∈ l)
    (sub : ∀ p ∈ news, p ∈ l) (o2 : ∀ q ∈ news, q.1 ≠ dx) (o1 : ∀ q ∈ news, q.1 ≠ x) : Q (.ref x) { s with heap := h', toks := tk' } := by
  have hM : VarAt w (news ++ [(x, instObj 305 dx), (dx, dictOf [⟨PyData.keyHash w.params (Str.ofString "expr"), .str (Str.ofString "expr") t1, .str (Str.ofString "v") t2⟩, ⟨PyData.keyHash w.params (Str.ofString "min"), .str (Str.ofString "min") t3, .int lo t4⟩, ⟨PyData.keyHash w.params (Str.ofString "max"), .str (Str.ofString "max") t5, .int hi t6⟩, ⟨PyData.keyHash w.params (Str.ofString "_val"), .str (Str.ofString "_val") t7, .none⟩] 4)]) (.ref x) lo hi :=
    .mk (List.mem_append.mpr (.inr (.head _))) (List.mem_append.mpr (.inr (.tail _ (.head _))))
  refine hret _ [(x, instObj 305 dx), (dx, _)] h' tk' F (fun p hp => N p ?_) ?_ hM
  · rcases List.mem_append.mp hp with hp | hp
    · exact sub p hp
    rcases List.mem_cons.mp hp with rfl | hp
    · exact a
    rcases List.mem_cons.mp hp with rfl | hp
    · exact b
    · cases hp
  · exact ordC o1 (ordC o2 ord0)
theorem c_varV (w : World) (lo hi : Int) (t0 t1 t2 : Tok) (b0 : 0 ≤ lo) (b1 : lo < hi) : Ctc w (call (.ref 368) [.str (Str.ofString "v") t0, .int lo t1, .int hi t2]) 20 164 (fun _ => True) (fun l r => VarAt w l r lo hi) := by
  unfold Ctc
  k_fill
  intro p loose mean mg mb dp u gd cn cs a ccd cl outer A₀ base h₀ L m news s Q E B F X N T hk hP hd hu hret
  refine wpAny_call ?_
  k_dflt (first | k_enter | fail "enter")
  k_steps
  refine endV hret (by k_asm) (by k_asm) (by k_mem) (by k_mem) (by walk_at "my sub") (by walk_at "my lt") (by walk_at "my lt")
theorem c_varN (w : World) (lo hi : Int) (t0 t1 t2 : Tok) (b0 : 0 ≤ lo) (b1 : lo = hi) : Ctc w (call (.ref 368) [.str (Str.ofString "v") t0, .int lo t1, .int hi t2]) 20 164 (fun _ => True) (fun l r => NumAt w l r lo) := by
  unfold Ctc
  k_fill
  intro p loose mean mg mb dp u gd cn cs a ccd cl outer A₀ base h₀ L m news s Q E B F X N T hk hP hd hu hret
  refine wpAny_call ?_
  k_dflt (first | k_enter | fail "enter")
  k_steps
  refine endN hret (by k_asm) (by k_asm) (by k_mem) (by k_mem) (by omega) (by walk_at "my sub") (by walk_at "my lt") (by walk_at "my lt")
theorem g_var (w : World) (lo hi : Int) (t0 t1 t2 : Tok) (b0 : 0 ≤ lo) (b1 : lo ≤ hi) : Ctc w (call (.ref 368) [.str (Str.ofString "v") t0, .int lo t1, .int hi t2]) 20 164 (fun _ => True) (fun l r => NodeAt w l r lo hi) := by
  by_cases e : lo < hi
  · exact (c_varV w lo hi t0 t1 t2 b0 e).mono (by omega) (by omega) (fun _ h => h) fun l l' r _ _ h => .inl ⟨e, h⟩
  · exact (c_varN w lo hi t0 t1 t2 b0 (by omega)).mono (by omega) (by omega) (fun _ h => h) fun l l' r _ _ h => .inr ⟨by omega, h⟩
theorem c_eqN (w : World) (v : Value) (n : Int) (t : Tok) : Ctc w (compareOp .Eq v (.int n t)) 20 164 (fun l => NumAt w l v n) (fun _ r => r = .bool true) := by
  unfold Ctc
  k_fill
  intro p loose mean mg mb dp u gd cn cs a ccd cl outer A₀ base h₀ L m news s Q E B F X N T hk hP hd hu hret
  have hk1 := hP
  cases hP
  k_steps
  all_goals (refine hret _ [] _ _ (by k_asm) (newsSub (by k_asm) (by walk_at "my sub")) ord0 ?_; simp)
theorem abs_any {prog : Program} {w : World} {A : Around} {E : Value → Shared → Prop} {s : Shared} {x : Int} {t : Tok} {Q : Value → Shared → Prop} (h : ∀ y u tk, 0 ≤ y → (y = x ∨ y = -x) → Q (.int y u) { s with toks := tk }) :
    wpAny (model prog w) A (call (.builtin "abs") [.int x t]) Q E s :=
  PyProof.Rows.call_abs_int fun u tk => h _ u tk (by omega) (by omega)
/-- a test's end: it is false, whatever way -/
def JoinF (h₀ : Heap) (L : Addr) (m : Str → Option Value) (news : Led) (s₁ : Shared) (v : Bool) (s₂ : Shared) : Prop := v = false ∧ ∃ h' tk, s₂ = { s₁ with heap := h', toks := tk } ∧ Fr h₀ L h' m ∧ News h₀ L h' news
theorem JoinF.intro {h₀ : Heap} {L : Addr} {m : Str → Option Value} {news : Led} {s₁ : Shared} {h' : Heap} {tk : Nat} {v : Bool} (e : v = false) (F : Fr h₀ L h' m) (N : News h₀ L h' news) : JoinF h₀ L m news s₁ v { s₁ with heap := h', toks := tk } := ⟨e, h', tk, rfl, F, N⟩
theorem join_false {M : Model} {A : Around} {T : Sem Bool} {h₀ : Heap} {L : Addr} {m : Str → Option Value} {news : Led} {s : Shared} {Q : Bool → Shared → Prop} {E : Value → Shared → Prop} (_F : Fr h₀ L s.heap m) (_N : News h₀ L s.heap news)
    (h : wpAny M A T (JoinF h₀ L m news s) E s) (k : ∀ h' tk, Fr h₀ L h' m → News h₀ L h' news → Q false { s with heap := h', toks := tk }) : wpAny M A T Q E s :=
  wpAny_mono h (fun v s' hv => by obtain ⟨rfl, h', tk, rfl, F', N'⟩ := hv; exact k h' tk F' N') fun _ _ z => z
theorem ResAt.num {w : World} {l : Led} {v : Value} {lo hi a : Int} (h : ResAt w l v lo hi) (e : lo = hi) (e2 : lo = a) : NumAt w l v a := by subst e2; exact h.2 e
theorem x_eqN (w : World) (v : Value) (n : Int) (t : Tok) : CtX w (compareOp .Eq v (.int n t)) 20 164 (fun l => NumAt w l v n) (fun _ tl r => tl = [] ∧ r = .bool true) :=
  Ctc.drop (c_eqN w v n t) (fun r => r = .bool true) fun _ _ h => h
theorem item_lstA {prog : Program} {w : World} {A : Around} {E : Value → Shared → Prop} {s : Shared} {Q : Value → Shared → Prop} {h₀ : Heap} {L l : Addr} {news : Led} {vs : List Value} {e : Nat} {value slice : PySem.Expr} {k : Int} {u : Tok} {v : Value} (N : News h₀ L s.heap news) (hm : (l, W.listOf vs.toArray e) ∈ news)
    (h0 : 0 ≤ k) (hhi : k < 2 ^ 63) (hx : vs[k.toNat]? = some v) (h : Q v s)
    (hs : subscripted slice false (.ref l) (.int k u) = operate [.ref l, .int k u] (getItem (.ref l) (.int k u))) :
    wpAny (model prog w) A (subscriptTail value slice (.ref l) (.int k u)) Q E s :=
  have hl : s.heap.IsList l vs.toArray := ⟨_, (N _ hm).1, rfl, _, rfl⟩
  tail_any hl.typeIs slot_list_getitem.lookup (wpAny_getItem_list hl h0 hhi (by simpa using hx) h) hs
theorem law_end {cl : Str → Option Addr} {mean : ExcName → Option Value} {args : List WData} {s₁ s' : Shared} {L : Addr} {m : Str → Option Value} (F : Fr s₁.heap L s'.heap m) (hg : s'.gens = #[]) (ho : s'.os = s₁.os) :
    GoodW PySem.Challenge.rw_fk5025_03.row.claim cl mean args s₁ (.ok (.ret (.bool true))) s' := goodW_bool F hg (fun _ => rfl) (postW_of rfl (w_eq_bool (w_res rfl) w_lit) rfl) ho
local macro_rules | `(tactic| walk_at "my rel") => `(tactic| first
  | with_reducible assumption
  | exact Mine.ResAt.mono (by assumption) (by walk_at "my sub")
  | exact Mine.NodeAt.mono (by assumption) (by walk_at "my sub")
  | exact Mine.NegAt.mono (by assumption) (by walk_at "my sub"))
local macro_rules | `(tactic| walk_at "call ref") => `(tactic| ((with_reducible show wpAny _ _ (call (Value.ref 718) [Value.ref _, Value.int _ _]) _ _ _); k_dflt ((refine' CtX.use (Mine.x_at _ _ _ _ _ _ ?h1 ?h2 ?h3 ?h4) ?k1 ?k2 ?k3 ?k4 ?k5 ?k6 ?k7 ?k8 ?k9 ?_; (case k1 => k_asm); (case k2 => k_asm); (case k3 => k_asm); (case k4 => k_asm); (case k5 => k_asm); (case k6 => first | exact rfl | assumption); (case k7 => k_mem); (case h1 => assumption); (case h2 => omega); (case h3 => decide); (case h4 => decide); (case k8 => k_room); (case k9 => k_units)); intro r9 tl9 h9 tk9 F9 N9 hR9; obtain ⟨e8, x9, t9, e9, l9, m9⟩ := hR9; subst e8; subst e9; (simp only [List.nil_append, List.cons_append] at N9); (try dsimp only); k_sweep)))
local macro_rules | `(tactic| walk_at "call ref") => `(tactic| ((with_reducible show wpAny _ _ (call (Value.ref 368) [Value.str _ _, Value.int _ _, Value.int _ _]) _ _ _); k_dflt ((refine' Ctc.use (Mine.g_var _ _ _ _ _ _ ?h1 ?h2) ?k1 ?k2 ?k3 ?k4 ?k5 ?k6 ?k7 ?k8 ?k9 ?_; (case k1 => k_asm); (case k2 => k_asm); (case k3 => k_asm); (case k4 => k_asm); (case k5 => k_asm); (case k6 => first | exact rfl | assumption); (case k7 => trivial); (case h1 => omega); (case h2 => omega); (case k8 => k_room); (case k9 => k_units)); intro r9 tl9 h9 tk9 F9 N9 o9 hR9; (try simp only [List.nil_append, List.cons_append, List.append_nil, List.append_assoc] at N9 o9 hR9); obtain ⟨x9, e9⟩ := Mine.NodeAt.isRef hR9; subst e9; (try dsimp only); k_sweep)))
local macro_rules | `(tactic| walk_at "binaryOp Mod ref int") => `(tactic| ((with_reducible show wpAny _ _ (binaryOp Operator.Mod (Value.ref _) (Value.int _ _)) _ _ _); k_dflt ((refine' Ctc.use (Mine.g_mod _ _ _ _ _ _ ?h1 ?h2 ?h3 ?h4 ?h5) ?k1 ?k2 ?k3 ?k4 ?k5 ?k6 ?k7 ?k8 ?k9 ?_; (case k1 => k_asm); (case k2 => k_asm); (case k3 => k_asm); (case k4 => k_asm); (case k5 => k_asm); (case k6 => first | exact rfl | assumption); (case k7 => walk_at "my rel"); (case h1 => omega); (case h2 => omega); (case h3 => omega); (case h4 => omega); (case h5 => omega); (case k8 => k_room); (case k9 => k_units)); intro r9 tl9 h9 tk9 F9 N9 o9 hR9; (try simp only [List.nil_append, List.cons_append, List.append_nil, List.append_assoc] at N9 o9 hR9); obtain ⟨x9, e9⟩ := Mine.ResAt.isRef hR9; subst e9; (try dsimp only); k_sweep)))
local macro_rules | `(tactic| walk_at "binaryOp FloorDiv ref int") => `(tactic| ((with_reducible show wpAny _ _ (binaryOp Operator.FloorDiv (Value.ref _) (Value.int _ _)) _ _ _); k_dflt ((refine' Ctc.use (Mine.g_div _ _ _ _ _ _ ?h1 ?h2 ?h3 ?h4) ?k1 ?k2 ?k3 ?k4 ?k5 ?k6 ?k7 ?k8 ?k9 ?_; (case k1 => k_asm); (case k2 => k_asm); (case k3 => k_asm); (case k4 => k_asm); (case k5 => k_asm); (case k6 => first | exact rfl | assumption); (case k7 => walk_at "my rel"); (case h1 => omega); (case h2 => omega); (case h3 => omega); (case h4 => omega); (case k8 => k_room); (case k9 => k_units)); intro r9 tl9 h9 tk9 F9 N9 o9 hR9; (try simp only [List.nil_append, List.cons_append, List.append_nil, List.append_assoc] at N9 o9 hR9); obtain ⟨x9, e9⟩ := Mine.ResAt.isRef hR9; subst e9; (try dsimp only); k_sweep)))
local macro_rules | `(tactic| walk_at "binaryOp Mult ref int") => `(tactic| ((with_reducible show wpAny _ _ (binaryOp Operator.Mult (Value.ref _) (Value.int _ _)) _ _ _); k_dflt ((refine' Ctc.use (Mine.g_mul _ _ _ _ _ _ ?h1 ?h2 ?h3 ?h4) ?k1 ?k2 ?k3 ?k4 ?k5 ?k6 ?k7 ?k8 ?k9 ?_; (case k1 => k_asm); (case k2 => k_asm); (case k3 => k_asm); (case k4 => k_asm); (case k5 => k_asm); (case k6 => first | exact rfl | assumption); (case k7 => walk_at "my rel"); (case h1 => omega); (case h2 => omega); (case h3 => omega); (case h4 => omega); (case k8 => k_room); (case k9 => k_units)); intro r9 tl9 h9 tk9 F9 N9 o9 hR9; (try simp only [List.nil_append, List.cons_append, List.append_nil, List.append_assoc] at N9 o9 hR9); obtain ⟨x9, e9⟩ := Mine.ResAt.isRef hR9; subst e9; (try dsimp only); k_sweep)))
local macro_rules | `(tactic| walk_at "binaryOp Add ref int") => `(tactic| ((with_reducible show wpAny _ _ (binaryOp Operator.Add (Value.ref _) (Value.int _ _)) _ _ _); k_dflt ((refine' Ctc.use (Mine.g_add _ _ _ _ _ _ ?h1 ?h2 ?h3) ?k1 ?k2 ?k3 ?k4 ?k5 ?k6 ?k7 ?k8 ?k9 ?_; (case k1 => k_asm); (case k2 => k_asm); (case k3 => k_asm); (case k4 => k_asm); (case k5 => k_asm); (case k6 => first | exact rfl | assumption); (case k7 => walk_at "my rel"); (case h1 => omega); (case h2 => omega); (case h3 => omega); (case k8 => k_room); (case k9 => k_units)); intro r9 tl9 h9 tk9 F9 N9 o9 hR9; (try simp only [List.nil_append, List.cons_append, List.append_nil, List.append_assoc] at N9 o9 hR9); obtain ⟨x9, e9⟩ := Mine.ResAt.isRef hR9; subst e9; (try dsimp only); k_sweep)))
local macro_rules | `(tactic| walk_at "binaryOp Add ref int") => `(tactic| ((with_reducible show wpAny _ _ (binaryOp Operator.Add (Value.ref _) (Value.int _ _)) _ _ _); k_dflt ((refine' Ctc.use (Mine.g_addNeg _ _ _ _ _ _ _ ?h1 ?h2 ?h3) ?k1 ?k2 ?k3 ?k4 ?k5 ?k6 ?k7 ?k8 ?k9 ?_; (case k1 => k_asm); (case k2 => k_asm); (case k3 => k_asm); (case k4 => k_asm); (case k5 => k_asm); (case k6 => first | exact rfl | assumption); (case k7 => walk_at "my rel"); (case h1 => omega); (case h2 => omega); (case h3 => omega); (case k8 => k_room); (case k9 => k_units)); intro r9 tl9 h9 tk9 F9 N9 o9 hR9; (try simp only [List.nil_append, List.cons_append, List.append_nil, List.append_assoc] at N9 o9 hR9); obtain ⟨x9, e9⟩ := Mine.ResAt.isRef hR9; subst e9; (try dsimp only); k_sweep)))
local macro_rules | `(tactic| walk_at "unaryOp USub") => `(tactic| ((with_reducible show wpAny _ _ (unaryOp UnaryOp.USub (Value.ref _)) _ _ _); k_dflt ((refine' Ctc.use (Mine.g_neg _ _ _ _ ?h1 ?h2) ?k1 ?k2 ?k3 ?k4 ?k5 ?k6 ?k7 ?k8 ?k9 ?_; (case k1 => k_asm); (case k2 => k_asm); (case k3 => k_asm); (case k4 => k_asm); (case k5 => k_asm); (case k6 => first | exact rfl | assumption); (case k7 => walk_at "my rel"); (case h1 => omega); (case h2 => omega); (case k8 => k_room); (case k9 => k_units)); intro r9 tl9 h9 tk9 F9 N9 o9 hR9; (try simp only [List.nil_append, List.cons_append, List.append_nil, List.append_assoc] at N9 o9 hR9); obtain ⟨x9, e9⟩ := Mine.NegAt.isRef hR9; subst e9; (try dsimp only); k_sweep)))
local macro_rules | `(tactic| walk_at "call ref") => `(tactic| ((with_reducible show wpAny _ _ (call (Value.ref 380) [Value.ref _, Value.int _ _]) _ _ _); k_dflt ((refine' Ctc.use (Mine.g_lt _ _ _ _ _ _ ?h1) ?k1 ?k2 ?k3 ?k4 ?k5 ?k6 ?k7 ?k8 ?k9 ?_; (case k1 => k_asm); (case k2 => k_asm); (case k3 => k_asm); (case k4 => k_asm); (case k5 => k_asm); (case k6 => first | exact rfl | assumption); (case k7 => walk_at "my rel"); (case h1 => omega); (case k8 => k_room); (case k9 => k_units)); intro r9 tl9 h9 tk9 F9 N9 o9 hR9; (try simp only [List.nil_append, List.cons_append, List.append_nil, List.append_assoc] at N9 o9 hR9); obtain ⟨x9, e9⟩ := Mine.ResAt.isRef hR9; subst e9; (try dsimp only); k_sweep)))
local macro_rules | `(tactic| walk_at "call ref") => `(tactic| ((with_reducible show wpAny _ _ (call (Value.ref 387) [Value.ref _, Value.int _ _]) _ _ _); k_dflt ((refine' Ctc.use (Mine.g_ge _ _ _ _ _ _ ?h1 ?h2) ?k1 ?k2 ?k3 ?k4 ?k5 ?k6 ?k7 ?k8 ?k9 ?_; (case k1 => k_asm); (case k2 => k_asm); (case k3 => k_asm); (case k4 => k_asm); (case k5 => k_asm); (case k6 => first | exact rfl | assumption); (case k7 => walk_at "my rel"); (case h1 => omega); (case h2 => omega); (case k8 => k_room); (case k9 => k_units)); intro r9 tl9 h9 tk9 F9 N9 o9 hR9; (try simp only [List.nil_append, List.cons_append, List.append_nil, List.append_assoc] at N9 o9 hR9); obtain ⟨x9, e9⟩ := Mine.ResAt.isRef hR9; subst e9; (try dsimp only); k_sweep)))
local macro_rules | `(tactic| walk_at "compareOp Eq ref int") => `(tactic| ((with_reducible show wpAny _ _ (compareOp CmpOp.Eq (Value.ref _) (Value.int _ _)) _ _ _); k_dflt ((refine' CtX.use (Mine.x_eqN _ _ _ _) ?k1 ?k2 ?k3 ?k4 ?k5 ?k6 ?k7 ?k8 ?k9 ?_; (case k1 => k_asm); (case k2 => k_asm); (case k3 => k_asm); (case k4 => k_asm); (case k5 => k_asm); (case k6 => first | exact rfl | assumption); (case k7 => (refine' Mine.NumAt.mono (Mine.ResAt.num ?h7 ?h8 ?h9) ?h6; (case h7 => assumption); (case h8 => omega); (case h9 => omega); (case h6 => walk_at "my sub"))); (case k8 => k_room); (case k9 => k_units)); intro r9 tl9 h9 tk9 F9 N9 hR9; obtain ⟨e8, e9⟩ := hR9; subst e8; subst e9; (simp only [List.nil_append, List.cons_append] at N9); (try dsimp only); k_sweep)))
local macro_rules | `(tactic| walk_at "call builtin:abs") => `(tactic| ((with_reducible show wpAny _ _ (call (Value.builtin "abs") [Value.int _ _]) _ _ _); k_dflt (refine Mine.abs_any ?_; intro y9 u9 tk9 l9 m9)))
local macro_rules | `(tactic| walk_at "binaryOp Mod int int") => `(tactic| ((with_reducible show wpAny _ _ (binaryOp Operator.Mod (Value.int _ _) (Value.int _ _)) _ _ _); (refine Mine.modW (by (law_purse 20000 => (law_clear; omega))) ?_); (try dsimp only)))
local macro_rules | `(tactic| walk_at "binaryOp FloorDiv int int") => `(tactic| ((with_reducible show wpAny _ _ (binaryOp Operator.FloorDiv (Value.int _ _) (Value.int _ _)) _ _ _); (refine Mine.divW (by (law_purse 20000 => (law_clear; omega))) (by (law_purse 20000 => (law_clear; omega))) ?_); (try dsimp only)))
local macro_rules | `(tactic| walk_at "isTrue BoolOp") => `(tactic| ((with_reducible show wpAny _ _ (PySem.isTrue (PySem.Expr.BoolOp BoolOp.And [PySem.Expr.Compare _ _ _ _, PySem.Expr.UnaryOp _ _ _] _) _ _) _ _ _); (fail_if_success (with_reducible show wpAny _ _ _ (Mine.JoinF _ _ _ _ _) _ _)); k_dflt (refine Mine.join_false (by k_asm) (by k_asm) ?_ ?_; rotate_left; intro h9 tk9 F9 N9; (try dsimp only); k_sweep; rotate_left)))
local macro_rules | `(tactic| walk_at "JoinF") => `(tactic| (k_dflt (refine Mine.JoinF.intro rfl (by k_asm) (by k_asm))))
local macro_rules | `(tactic| walk_at "getAttr ref") => `(tactic| (k_here; (with_reducible show wpAny _ _ (getAttr _ (PySem.Str.ofString "min") _) _ _ _); k_dflt (refine' Mine.mm_min _ ?F ?X ?N ?M ?_; (case F => k_asm); (case X => k_asm); (case N => k_asm); (case M => exact Mine.MMAt.mono (And.left (by assumption : Mine.ResAt _ _ _ _ _)) (by walk_at "my sub")); k_whole; intro _; (try dsimp only))))
local macro_rules | `(tactic| walk_at "getAttr ref") => `(tactic| (k_here; (with_reducible show wpAny _ _ (getAttr _ (PySem.Str.ofString "max") _) _ _ _); k_dflt (refine' Mine.mm_max _ ?F ?X ?N ?M ?_; (case F => k_asm); (case X => k_asm); (case N => k_asm); (case M => exact Mine.MMAt.mono (And.left (by assumption : Mine.ResAt _ _ _ _ _)) (by walk_at "my sub")); k_whole; intro _; (try dsimp only))))
local macro_rules | `(tactic| walk_at "subscriptTail Name Name ref int") => `(tactic| (k_here; k_dflt (refine' Mine.item_lstA ?a ?b ?c ?d ?e ?_ ?f; (case a => k_asm); (case b => k_mem); (case c => decide); (case d => decide); (case e => rfl); (case f => with_unfolding_all rfl); k_whole)))
local macro_rules | `(tactic| walk_at "UnrEnd") => `(tactic| (k_dflt (refine Mine.unrEndA (by assumption) (by assumption) (by walk_at "my off") ?_)))
local macro_rules | `(tactic| walk_at "And") => `(tactic| ((with_reducible show GoodW _ _ _ _ _ _ _ ∧ _); k_dflt (refine And.intro (Mine.law_end (by k_asm) (by assumption) rfl) ?_)))
theorem law3 : PySem.Challenge.rw_fk5025_03.Holds := hd3 (by
  k_go0
  (all_goals try k_fold)
  k_steps
  done)
end Mine
theorem PySem.Challenge.cw_fk5025_03_holds : PySem.Challenge.rw_fk5025_03.Holds := by
  exact Mine.law3
