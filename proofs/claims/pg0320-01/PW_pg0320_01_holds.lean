import PyProof.Rows.All
import Wide.All
import OpenK.AllK
import Wide.FinOn
import PySem.Challenge.RW_pg0320_01
open PySem PySem.Spec PySem.Calls PySem.W PyProof.Rows
set_option Elab.async false
set_option maxRecDepth 100000
set_option maxHeartbeats 4000000
namespace Mine
/-- a name to lay aside: the head's twins of the greatest constants of the top (their equations' proofs grow with the square of their names) would make the compiled file 38 MB; where their name is taken the head goes on without them -/
def blk : Str := Str.ofString "a"
theorem blk_is : blk = blk := rfl
name_quick tw8075568018651887793 for blk by blk_is
name_quick tw16100813594164120746 for blk by blk_is
name_quick tw6733733256287894996 for blk by blk_is
name_quick tw12825359941727978080 for blk by blk_is
name_quick tw12022285260146216970 for blk by blk_is
name_quick tw1662865533458754262 for blk by blk_is
name_quick tw6747767076671748757 for blk by blk_is
name_quick tw14979626087600564940 for blk by blk_is
name_quick tw10132909190147918485 for blk by blk_is
name_quick tw2835016802697616593 for blk by blk_is
name_quick tw3916196269025109296 for blk by blk_is
name_quick tw6313222484189431382 for blk by blk_is
name_quick tw18323700119837366958 for blk by blk_is
name_quick tw12392613427281201732 for blk by blk_is
name_quick tw12832477231654346042 for blk by blk_is
set_option maxHeartbeats 8000000 in
open_top hd for PySem.Challenge.rw_pg0320_01
def FillK : Prop := (PySem.Challenge.rw_pg0320_01, hd.heap_39) = (PySem.Challenge.rw_pg0320_01, hd.heap_39)

theorem off01 : FillK := by w_top off; rfl
theorem fillK : FillK := by unfold FillK; k_fill; rfl
/-- what a call of the value f with these arguments does: it ends, hands back a value and a ledger as told -/
def Says (prog : Program) (w : World) (f : Value) (pos : List Value) (kw : List (Str × Value)) (news : List (Addr × Obj)) (lv : Nat) (Post : Value → List (Addr × Obj) → Prop) : Prop :=
  ∀ (p : Program) (loose : List Str) (mean : ExcName → Option Value) (mg mb : Str → Option Value) (dp un : Nat) (gd : Option (List Code)) (cn : Str) (cs : Scope) (a : Addr) (ccd : Value) (cl : List (Str × Addr)) (outer : List Env) (A₀ : Around) (base h₀ : Heap) (L : Addr) (m : Str → Option Value) (s : Shared) (Q E : Value → Shared → Prop),
    Below A₀ base outer h₀ → Fr h₀ L s.heap m → (hd.heap_39 w.params).In h₀ → News h₀ L s.heap news → Top p loose mean mg mb h₀ → cs.kind = .function →
    dp + lv < recursionLimit → un + 10 * lv < cLine →
    (∀ v news' h' tk', Fr h₀ L h' m → News h₀ L h' news' → Post v news' → Q v { s with heap := h', toks := tk' }) →
    wpAny (model prog w) (ktrTop dp un gd cn cs L a ccd cl outer) (call f pos kw) Q E s

theorem units_make (A : Around) (C : Addr) (vals : List Value) (kw : List (Str × Value)) : (A.under (.builtin "type.__call__" ⟨.ref C :: vals, kw⟩)).units = A.units + 1 := rfl
theorem Says.use {prog : Program} {w : World} {f : Value} {pos : List Value} {kw : List (Str × Value)} {news : List (Addr × Obj)} {lv : Nat} {Post : Value → List (Addr × Obj) → Prop}
    {p : Program} {loose : List Str} {mean : ExcName → Option Value} {mg mb : Str → Option Value} {dp un : Nat} {gd : Option (List Code)} {cn : Str} {cs : Scope} {a : Addr} {ccd : Value} {cl : List (Str × Addr)} {outer : List Env} {A₀ : Around} {base h₀ : Heap} {L : Addr} {m : Str → Option Value} {s : Shared} {Q E : Value → Shared → Prop}
    (h : Says prog w f pos kw news lv Post) (B : Below A₀ base outer h₀) (F : Fr h₀ L s.heap m) (X : (hd.heap_39 w.params).In h₀) (N : News h₀ L s.heap news) (T : Top p loose mean mg mb h₀) (hk : cs.kind = .function) (hd : dp + lv < recursionLimit) (hu : un + 10 * lv < cLine)
    (ret : ∀ v news' h' tk', Fr h₀ L h' m → News h₀ L h' news' → Post v news' → Q v { s with heap := h', toks := tk' }) :
    wpAny (model prog w) (ktrTop dp un gd cn cs L a ccd cl outer) (call f pos kw) Q E s := h _ _ _ _ _ _ _ _ _ _ _ _ _ _ _ _ _ _ _ _ _ _ B F X N T hk hd hu ret
/-- the search, turn by turn -/
def drv : Nat → Sre.M → Option Sre.M
  | 0, _ => none
  | n + 1, m => let m := m.runFor Builtin.Re.reTurnSteps; if m.outcome.isSome then some m else drv n m
def fell : Option Sre.M → Bool
  | some m => (match m.outcome with | some .failed => true | _ => false)
  | none => false
theorem drv_wp {M : Model} {A : Around} {E : Value → Shared → Prop} {s : Shared} {Q : Sre.M → Shared → Prop} : ∀ (n N : Nat) (m m' : Sre.M), n ≤ N → drv n m = some m' → Q m' s → wpAny M A (Builtin.Re.reDrive N m) Q E s
  | 0, _, _, _, _, e, _ => by cases e
  | n + 1, 0, _, _, h, _, _ => absurd h (Nat.not_succ_le_zero _)
  | n + 1, N + 1, m, m', h, e, q => by
    unfold drv at e
    unfold Builtin.Re.reDrive
    dsimp only at e
    split at e
    · rename_i ho
      cases e
      rw [if_pos ho]
      exact wpAny_pure q
    · rename_i ho
      rw [if_neg ho]
      exact wpAny_bind (wpAny_rule (drv_wp n N _ m' (Nat.le_of_succ_le_succ h) e q))
theorem rules_wp {M : Model} {A : Around} {E : Value → Shared → Prop} {s : Shared} {Q : PUnit → Shared → Prop} (c : Nat → Bool) (f : Nat → String) (q : Q ⟨⟩ s) : ∀ l : List Nat,
    wpAny M A (forIn l PUnit.unit fun i _ => if c i = true then do rule (f i); pure (ForInStep.yield PUnit.unit) else pure (ForInStep.yield PUnit.unit)) Q E s
  | [] => by rw [List.forIn_nil]; exact wpAny_pure q
  | i :: l => by
    rw [List.forIn_cons]
    refine wpAny_bind ?_
    split
    · exact wpAny_bind (wpAny_rule (wpAny_pure (rules_wp c f q l)))
    · exact wpAny_pure (rules_wp c f q l)
theorem runToEnd_fell {M : Model} {A : Around} {E : Value → Shared → Prop} {s : Shared} {Q : Option Sre.M → Shared → Prop} {n : Nat} {m : Sre.M} (hn : n ≤ 2 ^ 64) (h : fell (drv n m) = true) (q : Q none s) : wpAny M A (Builtin.Re.reRunToEnd m) Q E s := by
  cases e : drv n m with
  | none => rw [e] at h; cases h
  | some m' =>
    rw [e] at h
    unfold Builtin.Re.reRunToEnd
    refine wpAny_bind (drv_wp n _ m m' hn e ?_)
    refine wpAny_bind (rules_wp _ _ ?_ _)
    unfold fell at h
    dsimp only at h
    split at h
    · rename_i ho; rw [ho]; exact wpAny_pure q
    · cases h

theorem slot_search : Slot "re.Pattern" "search" "re.Pattern.search" :=
  .of (owner := "re.Pattern") (n := "search") (by rw [typeLookup_type, builtinLookup_eq_fast]; kernel_rfl) (by decide +kernel) (by decide +kernel) (by decide +kernel)
    (by first | exact .inl (by decide +kernel) | exact .inr (by decide +kernel)) (by rw [isSubtype_type]; kernel_rfl)
theorem entry_search : entryFor table "re.Pattern.search" = some Builtin.«re.Pattern.search» := entryFor_of_fast (by kernel_rfl)
theorem type_search : typeOf (.builtin "re.Pattern.search") = pure (.type "method_descriptor") := by show builtinType _ = _; rw [builtinType_eq_fast]; kernel_rfl
theorem plain_pattern : PlainAttrs "re.Pattern" := ⟨⟨"object.__getattribute__", by rw [typeLookup_type, builtinLookup_eq_fast]; kernel_rfl, by decide +kernel⟩, by rw [typeLookup_type, builtinLookup_eq_fast]; kernel_rfl⟩
theorem args_search (a b : Value) : argsOk "re.Pattern.search" ⟨[a, b], []⟩ := by unfold argsOk; kernel_rfl

theorem named_search (v : Value) : Builtin.Re.reNamed "re.Pattern.search" "search" ["string", "pos", "endpos"] 1 [v] [] = pure [some v, none, none] := rfl
theorem target_wp {M : Model} {A : Around} {E : Value → Shared → Prop} {s : Shared} {Q : Builtin.Re.ReTarget → Shared → Prop} {P C : Addr} {x pat : Str} {t tp tq : Tok} {its : Array Value} {n : Nat}
    (hp : s.heap.get? P = some { cls := .type "re.Pattern", data := .fields #[.str pat tp, .int 32 tq, .int 0 0, .none, .none, .ref C, .int 0 0] })
    (hc : s.heap.get? C = some { cls := .type "tuple", data := .seq its n })
    (q : Q { pattern := .ref P, string := .str x t, code := (its.map Builtin.Re.reRawOf).map (·.toNat), text := x.cps, kind := 0, groups := 0, pos := 0, lim := min (2 ^ 63 - 1) x.cps.size } s) :
    wpAny M A (Builtin.Re.reTarget "re.Pattern.search" "search" ⟨[.ref P, .str x t], []⟩) Q E s := by
  unfold Builtin.Re.reTarget
  dsimp only
  rw [named_search]
  refine wpAny_bind (wpAny_pure ?_)
  dsimp only
  refine wpAny_bind (wpAny_pure ?_)
  refine wpAny_bind (wpAny_pure ?_)
  unfold fieldsOf
  refine wpAny_bind (wpAny_bind (wpAny_load hp (wpAny_pure ?_)))
  unfold Builtin.Re.reTextOf
  refine wpAny_bind (wpAny_bind (wpAny_pure (wpAny_pure ?_)))
  dsimp only
  rw [if_neg (by exact Bool.false_ne_true), if_neg (by exact Bool.false_ne_true)]
  unfold Builtin.Re.reNoCollectionInside
  refine wpAny_bind ?_
  rw [if_neg (by exact Bool.false_ne_true)]
  refine wpAny_pure ?_
  unfold Builtin.Re.reRawItems seqItems?
  refine wpAny_bind (wpAny_bind (wpAny_bind (wpAny_load hc (wpAny_pure (wpAny_pure (wpAny_pure ?_))))))
  exact q

/-- the codes of the two regexes, as the machine has them -/
def nameCode : Array Nat := #[14, 10, 4, 1, 1, 22, 0, 31, 16, 127, 0, 13, 7, 22, 0, 31, 16, 127, 0, 1]
def valCode : Array Nat := #[14, 14, 4, 1, 1, 9, 4294966783, 0, 0, 2147483648, 0, 0, 0, 0, 0, 13, 11, 9, 4294966783, 0, 0, 2147483648, 0, 0, 0, 0, 0, 1]
/-- the search of this code in this text finds nothing -/
def clean (code : Array Nat) (x : Str) : Bool := fell (drv 64 (Sre.forSearch code x.cps 0 0 x.cps.size false))
theorem search_wp {prog : Program} {w : World} {A : Around} {E : Value → Shared → Prop} {s : Shared} {Q : Value → Shared → Prop} {P C : Addr} {x pat : Str} {t tp tq : Tok} {its : Array Value} {n : Nat}
    (hp : s.heap.get? P = some { cls := .type "re.Pattern", data := .fields #[.str pat tp, .int 32 tq, .int 0 0, .none, .none, .ref C, .int 0 0] })
    (hc : s.heap.get? C = some { cls := .type "tuple", data := .seq its n }) (hx : clean ((its.map Builtin.Re.reRawOf).map (·.toNat)) x = true) (hl : x.cps.size < 1000000)
    (q : Q .none s) : wpAny (model prog w) A (call (.builtin "re.Pattern.search") [.ref P, .str x t]) Q E s := by
  refine wpAny_call_entry slot_search (show s.TypeIs (.ref P) "re.Pattern" from ⟨_, hp, rfl⟩) entry_search ?_ (args_search _ _)
  unfold Builtin.«re.Pattern.search»
  refine wpAny_bind (target_wp hp hc ?_)
  unfold Builtin.Re.reAnswer
  have e : min (2 ^ 63 - 1) x.cps.size = x.cps.size := by omega
  rw [e]
  exact wpAny_bind (runToEnd_fell (n := 64) (by decide) hx (wpAny_pure ⟨_, rfl, q⟩))
/-- a lead: blanks, a tab or none, blanks -/
def leadT (a t b : Nat) : Str := ⟨(List.replicate a 32 ++ (List.replicate t 9 ++ List.replicate b 32)).toArray⟩
/-- a one-sign text -/
def sgn (c : Nat) : Str := ⟨#[c]⟩
theorem lead_clean : ∀ a < 3, ∀ t < 2, ∀ b < 4, clean valCode (leadT a t b) = true := by decide +kernel
theorem low_clean : ∀ k < 6, clean nameCode (sgn (97 + k)) = true := by decide +kernel
theorem upp_clean : ∀ k < 6, clean nameCode (sgn (65 + k)) = true := by decide +kernel
theorem pat_name {w : World} {h : Heap} (X : (hd.heap_39 w.params).In h) : h.get? 43 = some { cls := .type "re.Pattern", data := .fields #[.str (Str.ofString "[\\x00-\\x1F\\x7F]") 292, .int 32 315, .int 0 0, .none, .none, .ref 42, .int 0 0] } := X _ _ (by k_is)
theorem pat_nameC {w : World} {h : Heap} (X : (hd.heap_39 w.params).In h) : h.get? 42 = some { cls := .type "tuple", data := .seq #[.int 14 0, .int 10 0, .int 4 0, .int 1 0, .int 1 0, .int 22 0, .int 0 0, .int 31 0, .int 16 0, .int 127 0, .int 0 0, .int 13 0, .int 7 0, .int 22 0, .int 0 0, .int 31 0, .int 16 0, .int 127 0, .int 0 0, .int 1 0] } := X _ _ (by k_is)
theorem pat_val {w : World} {h : Heap} (X : (hd.heap_39 w.params).In h) : h.get? 48 = some { cls := .type "re.Pattern", data := .fields #[.str (Str.ofString "[\\x00-\\x08\\x0A-\\x1F\\x7F]") 318, .int 32 349, .int 0 0, .none, .none, .ref 47, .int 0 0] } := X _ _ (by k_is)
theorem pat_valC {w : World} {h : Heap} (X : (hd.heap_39 w.params).In h) : h.get? 47 = some { cls := .type "tuple", data := .seq #[.int 14 0, .int 14 0, .int 4 0, .int 1 0, .int 1 0, .int 9 0, .int 4294966783 0, .int 0 0, .int 0 0, .int 2147483648 0, .int 0 0, .int 0 0, .int 0 0, .int 0 0, .int 0 0, .int 13 0, .int 11 0, .int 9 0, .int 4294966783 0, .int 0 0, .int 0 0, .int 2147483648 0, .int 0 0, .int 0 0, .int 0 0, .int 0 0, .int 0 0, .int 1 0] } := X _ _ (by k_is)


theorem nameCode_is : (Array.map (fun (x : Int) => x.toNat) (Array.map Builtin.Re.reRawOf #[.int 14 0, .int 10 0, .int 4 0, .int 1 0, .int 1 0, .int 22 0, .int 0 0, .int 31 0, .int 16 0, .int 127 0, .int 0 0, .int 13 0, .int 7 0, .int 22 0, .int 0 0, .int 31 0, .int 16 0, .int 127 0, .int 0 0, .int 1 0])) = nameCode := by decide +kernel
theorem valCode_is : (Array.map (fun (x : Int) => x.toNat) (Array.map Builtin.Re.reRawOf #[.int 14 0, .int 14 0, .int 4 0, .int 1 0, .int 1 0, .int 9 0, .int 4294966783 0, .int 0 0, .int 0 0, .int 2147483648 0, .int 0 0, .int 0 0, .int 0 0, .int 0 0, .int 0 0, .int 13 0, .int 11 0, .int 9 0, .int 4294966783 0, .int 0 0, .int 0 0, .int 2147483648 0, .int 0 0, .int 0 0, .int 0 0, .int 0 0, .int 0 0, .int 1 0])) = valCode := by decide +kernel

local macro_rules | `(tactic| walk_at "S") => `(tactic| first | (k_unfold; (try dsimp only)) | walk1 | (dsimp only; walk1))
local macro_rules | `(tactic| walk_at "ENTER") => `(tactic| ((have hMk9 : FillK := rfl); k_dflt (refine' code_def ?k1 ?k2 ?k3 ?k4 ?k5 ?kA ?kF ?kK ?k6 ?k7 ?k8 ?k9 ?kB ?_ ?c2 ?c3 ?c4 ?c5; (case kA => exact rfl); (case kF => exact rfl); (case kK => assumption); (case k1 => k_asm); (case k2 => k_asm); (case k3 => k_asm); (case k4 => k_asm); (case k5 => k_asm); (case k6 => k_is); (case k7 => k_is); (case k8 => ktr_room); (case k9 => first | exact BindsTo.of_eq rfl | exact binds_K (by k_in) rfl (by k_is) rfl rfl rfl | exact kp_binds (by k_in) (fun _ => by exact rfl) | exact kp_binds (by k_in) (fun _ => by with_unfolding_all rfl)); (case c5 => decide); (case kB => exact locs rfl); (case c2 => exact rfl); (case c3 => exact rfl); (case c4 => exact rfl); k_whole; intro g' L' h' FG' F' N' B' X' T'; (try dsimp only); (try k_fold))))
local macro_rules | `(tactic| walk_at "ROOM") => `(tactic| first | ktr_room | ktr_units | ((simp only [units_make, units_in1, units_deeper, depth_under_make, depth_under_kw, depth_in1, depth_deeper] at *); (dsimp only [ktrTop] at *); omega))
local macro_rules | `(tactic| walk_at "eval Name") => `(tactic| (k_here; k_dflt (refine' ld ?k1 ?k2 ?_; (case k1 => k_asm); (case k2 => assumption); k_whole)))
local macro_rules | `(tactic| walk_at "MEM") => `(tactic| first | assumption | exact List.mem_cons_self | (refine List.mem_cons_of_mem _ ?_; walk_at "MEM"))
local macro_rules | `(tactic| k_mem) => `(tactic| ((with_reducible rename FillK => hMk9); walk_at "MEM"))
local macro_rules | `(tactic| walk_at "ENTERC") => `(tactic| ((have hMk9 : FillK := rfl); k_dflt (refine' code_defC ?k1 ?k2 ?k3 ?k4 ?k5 ?kA ?kF ?kK ?k6 ?k7 ?k8 ?k9 ?kB ?kD ?_ ?c2 ?c3 ?c4; (case kA => exact rfl); (case kF => exact rfl); (case kK => assumption); (case k1 => k_asm); (case k2 => k_asm); (case k3 => k_asm); (case k4 => k_asm); (case k5 => k_asm); (case k6 => k_is); (case k7 => k_is); (case k8 => ktr_room); (case k9 => first | exact BindsTo.of_eq rfl | exact binds_K (by k_in) rfl (by k_is) rfl rfl rfl | exact kp_binds (by k_in) (fun _ => by exact rfl) | exact kp_binds (by k_in) (fun _ => by with_unfolding_all rfl)); (case kB => exact rfl); (case kD => decide +kernel); (case c2 => exact rfl); (case c3 => exact rfl); (case c4 => exact rfl); k_whole; intro g' L' h' tk' cells' FG' F' N' Y' B' X' T' l1; k_cells Y'; (try simp only [List.cons_append, List.nil_append] at N'); (try dsimp only); (try k_fold))))
local macro_rules | `(tactic| k_all) => `(tactic| assumption)
theorem off02 : FillK := by w_top off; rfl
theorem conv_name {prog : Program} {w : World} {x : Value} {news : List (Addr × Obj)} {t : Tok} {nm : Str} (hn : clean nameCode nm = true) (hl : nm.cps.size < 1000) :
    Says prog w (.ref 70) [x, .str nm t] [(Str.ofString "name", .bool true)] news 3 (fun v n => v = .str nm t ∧ news = n) := by
  intro p loose mean mg mb dp un gd cn cs a ccd cl outer A₀ base h₀ L m s Q E B F X N T hk hdp hun hret
  refine wpAny_call ?_
  walk_at "ENTER"
  iterate 29 walk_at "S"
  have X9 := Frag.In.keeps (by assumption) (Fr.keep (by assumption))
  refine getMethod_builtin (T := "re.Pattern") ⟨_, pat_name X9, rfl⟩ plain_pattern slot_search type_search (fun a e => by cases e; exact ⟨_, pat_name X9, rfl⟩) ?_
  iterate 4 walk_at "S"
  refine search_wp (x := nm) (pat_name X9) (pat_nameC X9) (by rw [nameCode_is]; exact hn) (by omega) ?_
  iterate 8 walk_at "S"
  exact hret _ _ _ _ (by assumption) (by assumption) ⟨rfl, rfl⟩

theorem conv_val {prog : Program} {w : World} {x : Value} {news : List (Addr × Obj)} {t : Tok} {nm : Str} (hn : clean valCode nm = true) (hl : nm.cps.size < 1000) :
    Says prog w (.ref 70) [x, .str nm t] [(Str.ofString "name", .bool false)] news 3 (fun v n => v = .str nm t ∧ news = n) := by
  intro p loose mean mg mb dp un gd cn cs a ccd cl outer A₀ base h₀ L m s Q E B F X N T hk hdp hun hret
  refine wpAny_call ?_
  walk_at "ENTER"
  iterate 29 walk_at "S"
  have X9 := Frag.In.keeps (by assumption) (Fr.keep (by assumption))
  refine getMethod_builtin (T := "re.Pattern") ⟨_, pat_val X9, rfl⟩ plain_pattern slot_search type_search (fun a e => by cases e; exact ⟨_, pat_val X9, rfl⟩) ?_
  iterate 4 walk_at "S"
  refine search_wp (x := nm) (pat_val X9) (pat_valC X9) (by rw [valCode_is]; exact hn) (by omega) ?_
  iterate 8 walk_at "S"
  exact hret _ _ _ _ (by assumption) (by assumption) ⟨rfl, rfl⟩

theorem off03 : FillK := by w_top off; rfl
/-- a pair of the table -/
structure Card where
  at_ : Addr
  nm : Str
  ld : Str
abbrev tupO (u v : Value) : Obj := { cls := .type "tuple", data := .seq #[u, v] }
/-- the ledger bears the table x: its dict, its list l of these pairs -/
structure Tab (news : List (Addr × Obj)) (x dx l : Addr) (cards : List Card) (ep : Nat) : Prop where
  inst : (x, instObj 171 dx) ∈ news
  dict : ∃ th tt n, (dx, dictOf [⟨th, .str (Str.ofString "_headers") tt, .ref l⟩] n) ∈ news
  lst : (l, listOf (cards.map fun c => Value.ref c.at_).toArray ep) ∈ news
  tups : ∀ c ∈ cards, ∃ t1 t2, (c.at_, tupO (.str c.nm t1) (.str c.ld t2)) ∈ news
/-- the names are short -/
def Short (cards : List Card) : Prop := ∀ c ∈ cards, c.nm.length < 1000
def found (cards : List Card) (nm : Str) : Option Card := cards.find? fun c => Txt.lower c.nm == nm
def FoundIs (cards : List Card) (nm : Str) (v : Value) : Prop := match found cards nm with
  | some c => ∃ t, v = .str c.ld t
  | none => v = .none
theorem FoundIs.here {c : Card} {r : List Card} {nm : Str} {v : Value} {t : Tok} (h : (Txt.lower c.nm == nm) = true) (hv : v = .str c.ld t) : FoundIs (c :: r) nm v := by
  unfold FoundIs found
  rw [List.find?_cons_of_pos (p := fun c : Card => Txt.lower c.nm == nm) h]
  exact ⟨t, hv⟩
theorem FoundIs.there {c : Card} {r : List Card} {nm : Str} {v : Value} (h : (Txt.lower c.nm == nm) = false) (hv : FoundIs r nm v) : FoundIs (c :: r) nm v := by
  unfold FoundIs found at *
  rw [List.find?_cons_of_neg (p := fun c : Card => Txt.lower c.nm == nm) (by rw [h]; exact Bool.false_ne_true)]
  exact hv
theorem SubL.of {all : List (Addr × Obj)} : ∀ {l : List (Addr × Obj)}, (∀ p ∈ l, p ∈ all) → SubL l all
  | [], _ => trivial
  | _ :: _, h => ⟨h _ List.mem_cons_self, SubL.of fun p hp => h p (List.mem_cons_of_mem _ hp)⟩

def LEnd (h₀ : Heap) (L : Addr) (s₁ : Shared) (I : Addr) (it : Obj) (lp : Addr × Obj) (J : (Str → Option Value) → List (Addr × Obj) → Prop) (Q : Flow → Shared → Prop) (f : Flow) (s₂ : Shared) : Prop :=
  match f with
  | .ret v => Q (.ret v) s₂
  | .brk => Q .next s₂
  | _ => ∃ h' tk m' news', s₂ = { s₁ with heap := h', toks := tk } ∧ Fr h₀ L h' m' ∧ News h₀ L h' ((I, it) :: news') ∧ (∀ p ∈ news', p.1 ≠ I) ∧ lp ∈ news' ∧ J m' news'
theorem LEnd.next {h₀ : Heap} {L : Addr} {s₁ : Shared} {I : Addr} {it : Obj} {lp : Addr × Obj} {J : (Str → Option Value) → List (Addr × Obj) → Prop} {Q : Flow → Shared → Prop} {h' : Heap} {tk : Nat} {m' : Str → Option Value} {news' all : List (Addr × Obj)}
    (F : Fr h₀ L h' m') (N : News h₀ L h' all) (hs : ∀ p ∈ (I, it) :: news', p ∈ all) (off : ∀ p ∈ news', p.1 ≠ I) (hl : lp ∈ news') (hj : J m' news') : LEnd h₀ L s₁ I it lp J Q .next { s₁ with heap := h', toks := tk } :=
  ⟨h', tk, m', news', rfl, F, fun p hp => N p (hs p hp), off, hl, hj⟩
/-- a for over a list of the ledger, of any length, by what holds of the rest -/
theorem loop_list {prog : Program} {w : World} {A : Around} {E : Value → Shared → Prop} {s : Shared} {env : Env} {h₀ : Heap} {target : Expr} {body : List Stmt} {Q : Flow → Shared → Prop} {α : Type} {ax : Addr} {n : Nat} {xs : List α} {f : α → Value} {m₀ : Str → Option Value} {news : List (Addr × Obj)}
    (J : List α → (Str → Option Value) → List (Addr × Obj) → Prop) (hh : A.handled = none) (F : Fr h₀ env.locals s.heap m₀) (N : News h₀ env.locals s.heap news) (hm : (ax, listOf (xs.map f).toArray n) ∈ news) (hj : J xs m₀ news)
    (turn : ∀ a r m news I it h tk, (∃ pre, xs = pre ++ a :: r) → J (a :: r) m news → (ax, listOf (xs.map f).toArray n) ∈ news → it.cls = .type "list_iterator" → Fr h₀ env.locals h m → News h₀ env.locals h ((I, it) :: news) → (∀ p ∈ news, p.1 ≠ I) →
      wpAny (model prog w) A (assign target env (f a)) (fun _ s₂ => wpAny (model prog w) A (execs body env) (LEnd h₀ env.locals { s with heap := h, toks := tk } I it (ax, listOf (xs.map f).toArray n) (J r) Q) E s₂) E { s with heap := h, toks := tk })
    (done : ∀ m news h tk, J [] m news → Fr h₀ env.locals h m → News h₀ env.locals h news → Q .next { s with heap := h, toks := tk }) :
    wpAny (model prog w) A (pyIter (.ref ax)) (fun it s₂ => TurnsAt prog w A h₀ env target body Q E it s₂) E s := by
  refine iter_listTurns (lo := listOf (xs.map f).toArray n) (vs := xs.map f) hh F N hm rfl rfl fun I hI => ?_
  have key : ∀ (r : List α) (m : Str → Option Value) (nw : List (Addr × Obj)), (∃ pre, xs = pre ++ r) → J r m nw → (ax, listOf (xs.map f).toArray n) ∈ nw → (∀ p ∈ nw, p.1 ≠ I) →
      ItemsRest prog w A E h₀ env target body Q s [(I, "list_iterator")] [(ax, listOf (xs.map f).toArray n)] ((r.map f).map .val) m nw := by
    intro r
    induction r with
    | nil => intro m nw _ hj _ _; exact fun h tk F' N' => done m nw h tk hj F' N'
    | cons a r ih =>
      intro m nw hpre hj hmem hoff
      refine ItemsRest.val fun h tk F' => AllObj.cons fun it hit => AllObj.nil fun N' => ?_
      refine wpAny_mono (turn a r m nw I it h tk hpre hj hmem hit F' N' hoff) (fun _ s₂ h₂ => wpAny_mono h₂ (fun fl s₃ h₃ => ?_) fun _ _ e => e) fun _ _ e => e
      obtain ⟨pre, hpre⟩ := hpre
      have up : (∃ h' tk' m' news', s₃ = { ({ s with heap := h, toks := tk } : Shared) with heap := h', toks := tk' } ∧ Fr h₀ env.locals h' m' ∧ News h₀ env.locals h' ((I, it) :: news') ∧ (∀ p ∈ news', p.1 ≠ I) ∧ (ax, listOf (xs.map f).toArray n) ∈ news' ∧ J r m' news') →
          UnrEndW h₀ env.locals { s with heap := h, toks := tk } [(I, it)] (fun m' n' => SubL [(ax, listOf (xs.map f).toArray n)] n' ∧ ItemsRest prog w A E h₀ env target body Q s [(I, "list_iterator")] [(ax, listOf (xs.map f).toArray n)] ((r.map f).map .val) m' n') s₃ := by
        rintro ⟨h', tk', m', news', e, F₂, N₂, off₂, hl₂, hj₂⟩
        exact ⟨h', tk', m', news', e, F₂, N₂, fun p hp q hq => by rw [List.mem_singleton.mp hq]; exact off₂ p hp, ⟨hl₂, trivial⟩, ih m' news' ⟨pre ++ [a], by rw [hpre]; simp⟩ hj₂ hl₂ off₂⟩
      cases fl with
      | ret v => exact h₃
      | brk => exact h₃
      | next => exact up h₃
      | cont => exact up h₃
  exact key xs m₀ news ⟨[], rfl⟩ hj hm fun p hp => Nat.ne_of_lt (hI p hp)

theorem get_says {prog : Program} {w : World} {x dx l : Addr} {cards : List Card} {ep : Nat} {news : List (Addr × Obj)} {t : Tok} {nm : Str} (tab : Tab news x dx l cards ep) (hsh : Short cards)
    (hn : clean nameCode (Txt.lower nm) = true) (hl : nm.length < 300) :
    Says prog w (.ref 118) [.ref x, .str nm t] [] news 8 (fun v n => FoundIs cards (Txt.lower nm) v ∧ news = n) := by
  intro p loose mean mg mb dp un gd cn cs a ccd cl outer A₀ base h₀ L m s Q E B F X N T hk hdp hun hret
  obtain ⟨th, tt, nd, hdict⟩ := tab.dict
  have hinst := tab.inst
  have hlst := tab.lst
  refine wpAny_call ?_
  walk_at "ENTER"
  iterate 6 walk_at "S"
  k_dflt (refine callWith_KW (by k_asm) (by k_is) (by exact rfl) ?_)
  iterate 11 walk_at "S"
  k_dflt (refine Says.use (conv_name hn (by show (Txt.lower nm).length < 1000; omega)) (by k_asm) (by k_asm) (by k_asm) (by k_asm) (by k_asm) (by first | exact rfl | assumption) (by walk_at "ROOM") (by walk_at "ROOM") ?_)
  rintro _ _ h1 tk1 F1 N1 ⟨rfl, rfl⟩
  iterate 3 walk_at "S"
  (rename Fr _ _ _ _ => lF')
  (with_unfolding_all refine For_turns lF' ?_)
  iterate 3 walk_at "S"
  (rename News _ _ _ _ => lN')
  (k_dflt (refine loop_list (xs := cards) (f := fun c => Value.ref c.at_) (fun r m n => news = n ∧ m (Str.ofString "name") = some (.str (Txt.lower nm) _) ∧ m (Str.ofString "default") = some .none ∧ ∀ v, FoundIs r (Txt.lower nm) v → FoundIs cards (Txt.lower nm) v) (by rfl) lF' lN' hlst ⟨rfl, rfl, rfl, fun v h => h⟩ ?_ ?_))
  · rintro c r m n I it h tk ⟨pre, hpre⟩ ⟨rfl, hm1, hm2, hfn⟩ _ hit F9 N9 off9
    obtain ⟨t1, t2, hc⟩ := tab.tups c (by rw [hpre]; simp)
    have hcl := hsh c (by rw [hpre]; simp)
    clear lF' lN'
    dsimp only [envOf] at F9 N9
    k_dflt (refine unpackN_ (by k_asm) (by k_asm) (News.isTup (by k_asm) (by k_mem)) (by exact rfl) (by exact rfl) (by exact rfl) ?_)
    intro h2 F2 N2
    dsimp only
    iterate 20 walk_at "S"
    · iterate 4 walk_at "S"
      dsimp only [LEnd]
      iterate 2 walk_at "S"
      exact hret _ _ _ _ (by assumption) (cb_drop (by assumption) fun p hp => List.mem_cons_of_mem _ hp) ⟨hfn _ (FoundIs.here (by assumption) rfl), rfl⟩
    · iterate 3 walk_at "S"
      (rename Fr _ _ _ _ => F8); (rename News _ _ _ _ => N8)
      k_dflt (exact LEnd.next F8 N8 (fun p hp => hp) off9 hlst ⟨rfl, hm1, hm2, fun v hv => hfn v (FoundIs.there (by assumption) hv)⟩)
  · rintro m n h tk ⟨rfl, hm1, hm2, hfn⟩ F9 N9
    clear lF' lN'
    dsimp only [envOf] at F9 N9
    iterate 4 walk_at "S"
    exact hret _ _ _ _ (by assumption) (by assumption) ⟨hfn _ rfl, rfl⟩

theorem off04 : FillK := by w_top off; rfl
section
open LCg
variable {prog : Program} {w : World} {A : Around} {s : Shared} {h₀ : Heap} {L : Addr} {m : Str → Option Value} {env : Env}
theorem compEnd_mono {s₁ s₂ : Shared} {I C D : Addr} {oI oC oD : Obj} {S : List (Addr × Obj) → Prop} {rest rest' : Value → List (Addr × Obj) → Prop} {y : Value}
    (h : CompEnd h₀ L m s₁ I oI C oC D oD S rest y s₂) (k : ∀ n, rest y n → rest' y n) : CompEnd h₀ L m s₁ I oI C oC D oD S rest' y s₂ := by
  obtain ⟨h', tk, n, e, F, N, o, hS, r⟩ := h
  exact ⟨h', tk, n, e, F, N, o, hS, k n r⟩
theorem compEnd_same {I C D : Addr} {s₁ : Shared} {oI oC oD : Obj} {S : List (Addr × Obj) → Prop} {rest : Value → List (Addr × Obj) → Prop} {y : Value} {h' : Heap} {tk : Nat} {news : List (Addr × Obj)}
    (F : Fr h₀ L h' m) (N : News h₀ L h' ((I, oI) :: (C, oC) :: (D, oD) :: news)) (off : Off3 I C D news) (hS : S news) (r : rest y news) : CompEnd h₀ L m s₁ I oI C oC D oD S rest y { s₁ with heap := h', toks := tk } :=
  CompEnd.intro F N news (fun _ hp => hp) off hS r
theorem at_split {α : Type} {xs pre r : List α} {a : α} {f : α → Value} {v : Value} (e : xs = pre ++ a :: r) (h : (xs.map f).toArray[pre.length]? = some v) : v = f a := by
  subst e
  have h' : ((pre ++ a :: r).map f)[pre.length]? = some v := by simpa using h
  rw [List.map_append, List.getElem?_append_right (by simp)] at h'
  simp at h'
  exact h'.symm

theorem comp_one {elt : Expr} {x : Str} {scope : Scope} {cl : List (Str × Addr)} {S : List (Addr × Obj) → Prop} {Fin : List Value → List (Addr × Obj) → Prop} {α : Type} {xs : List α} {f : α → Value} {news : List (Addr × Obj)} (J : List α → List Value → List (Addr × Obj) → Prop)
    (hj : J xs [] news)
    (turn : ∀ a r ys news I oI C oC D m₂ h tk (E' : Value → Shared → Prop), (∃ pre, xs = pre ++ a :: r) → J (a :: r) ys news → NsObj oC m₂ → m₂ x = some (f a) → Fr h₀ L h m → News h₀ L h ((I, oI) :: (C, oC) :: (D, lst ys) :: news) → Off3 I C D news → ((@Ne Nat I C) ∧ (@Ne Nat I D) ∧ (@Ne Nat C D)) →
      wpAny (model prog w) A (eval elt (compEnvC scope cl C env)) (CompEnd h₀ L m { s with heap := h, toks := tk } I oI C oC D (lst ys) S (fun y news' => J r (ys ++ [y]) news')) E' { s with heap := h, toks := tk })
    (done : ∀ ys news, J [] ys news → Fin ys news) :
    CompRest prog w A h₀ L m env elt x scope cl s S (fun i v => (xs.map f).toArray[i]? = some v) Fin (xs.map f).toArray.size 0 [] news := by
  have key : ∀ (r pre : List α) ys news, xs = pre ++ r → J r ys news → CompRest prog w A h₀ L m env elt x scope cl s S (fun i v => (xs.map f).toArray[i]? = some v) Fin r.length pre.length ys news := by
    intro r
    induction r with
    | nil => intro pre ys news _ hj; exact done ys news hj
    | cons a r ih =>
      intro pre ys news e hj v I oI C oC D m₂ h tk E' hv hC hx F N off ne
      have hv' := at_split e hv
      subst hv'
      refine wpAny_mono (turn a r ys news I oI C oC D m₂ h tk E' ⟨pre, e⟩ hj hC hx F N off ne) (fun y s₂ h₂ => compEnd_mono h₂ fun n hn => ?_) fun _ _ x => x
      have := ih (pre ++ [a]) (ys ++ [y]) n (by rw [e]; simp) hn
      rwa [List.length_append, List.length_singleton] at this
  have := key xs [] [] news rfl hj
  simpa using this

theorem comp_pair {elt : Expr} {x x₂ : Str} {scope : Scope} {cl : List (Str × Addr)} {S : List (Addr × Obj) → Prop} {Fin : List Value → List (Addr × Obj) → Prop} {α : Type} {xs : List α} {f : α → Value} {news : List (Addr × Obj)} (J : List α → List Value → List (Addr × Obj) → Prop)
    (hj : J xs [] news)
    (turn : ∀ a r ys news, (∃ pre, xs = pre ++ a :: r) → J (a :: r) ys news → ∃ (t : Addr) (ot : Obj) (v₁ v₂ : Value) (nt : Nat), f a = .ref t ∧ (t, ot) ∈ news ∧ ot.cls = .type "tuple" ∧ ot.data = .seq #[v₁, v₂] nt ∧
      ∀ I oI C oC D m₂ h tk (E' : Value → Shared → Prop), NsObj oC m₂ → m₂ x = some v₁ → m₂ x₂ = some v₂ → Fr h₀ L h m → News h₀ L h ((I, oI) :: (C, oC) :: (D, lst ys) :: news) → Off3 I C D news → ((@Ne Nat I C) ∧ (@Ne Nat I D) ∧ (@Ne Nat C D)) →
      wpAny (model prog w) A (eval elt (compEnvC scope cl C env)) (CompEnd h₀ L m { s with heap := h, toks := tk } I oI C oC D (lst ys) S (fun y news' => J r (ys ++ [y]) news')) E' { s with heap := h, toks := tk })
    (done : ∀ ys news, J [] ys news → Fin ys news) :
    LCp.CompRestP prog w A h₀ L m env elt x x₂ scope cl s S (fun i v => (xs.map f).toArray[i]? = some v) Fin (xs.map f).toArray.size 0 [] news := by
  have key : ∀ (r pre : List α) ys news, xs = pre ++ r → J r ys news → LCp.CompRestP prog w A h₀ L m env elt x x₂ scope cl s S (fun i v => (xs.map f).toArray[i]? = some v) Fin r.length pre.length ys news := by
    intro r
    induction r with
    | nil => intro pre ys news _ hj; exact done ys news hj
    | cons a r ih =>
      intro pre ys news e hj v hv
      have hv' := at_split e hv
      subst hv'
      obtain ⟨t, ot, v₁, v₂, nt, h1, h2, h3, h4, h5⟩ := turn a r ys news ⟨pre, e⟩ hj
      refine ⟨t, ot, v₁, v₂, nt, h1, h2, h3, h4, fun I oI C oC D m₂ h tk E' hC hx hx₂ F N off ne => ?_⟩
      refine wpAny_mono (h5 I oI C oC D m₂ h tk E' hC hx hx₂ F N off ne) (fun y s₂ h₂ => compEnd_mono h₂ fun n hn => ?_) fun _ _ x => x
      have := ih (pre ++ [a]) (ys ++ [y]) n (by rw [e]; simp) hn
      rwa [List.length_append, List.length_singleton] at this
  have := key xs [] [] news rfl hj
  simpa using this

theorem comp_test {ct elt : Expr} {x : Str} {scope : Scope} {cl : List (Str × Addr)} {S : List (Addr × Obj) → Prop} {Fin : List Value → List (Addr × Obj) → Prop} {α : Type} {xs : List α} {f : α → Value} {news : List (Addr × Obj)} (J : List α → List Value → List (Addr × Obj) → Prop)
    (hj : J xs [] news)
    (turn : ∀ a r ys news I oI C oC D m₂ h tk (E' : Value → Shared → Prop), (∃ pre, xs = pre ++ a :: r) → J (a :: r) ys news → NsObj oC m₂ → m₂ x = some (f a) → Fr h₀ L h m → News h₀ L h ((I, oI) :: (C, oC) :: (D, lst ys) :: news) → Off3 I C D news → ((@Ne Nat I C) ∧ (@Ne Nat I D) ∧ (@Ne Nat C D)) →
      wpAny (model prog w) A (isTrue ct (compEnvC scope cl C env) (eval ct (compEnvC scope cl C env))) (fun ok s' => if ok = true then
        wpAny (model prog w) A (eval elt (compEnvC scope cl C env)) (CompEnd h₀ L m { s with heap := h, toks := tk } I oI C oC D (lst ys) S (fun y news' => J r (ys ++ [y]) news')) E' s'
        else CompEnd h₀ L m { s with heap := h, toks := tk } I oI C oC D (lst ys) S (fun _ news' => J r ys news') Value.none s') E' { s with heap := h, toks := tk })
    (done : ∀ ys news, J [] ys news → Fin ys news) :
    LCt.CompRestT prog w A h₀ L m env ct elt x scope cl s S (fun i v => (xs.map f).toArray[i]? = some v) Fin (xs.map f).toArray.size 0 [] news := by
  have key : ∀ (r pre : List α) ys news, xs = pre ++ r → J r ys news → LCt.CompRestT prog w A h₀ L m env ct elt x scope cl s S (fun i v => (xs.map f).toArray[i]? = some v) Fin r.length pre.length ys news := by
    intro r
    induction r with
    | nil => intro pre ys news _ hj; exact done ys news hj
    | cons a r ih =>
      intro pre ys news e hj v I oI C oC D m₂ h tk E' hv hC hx F N off ne
      have hv' := at_split e hv
      subst hv'
      refine wpAny_mono (turn a r ys news I oI C oC D m₂ h tk E' ⟨pre, e⟩ hj hC hx F N off ne) (fun ok s₂ h₂ => ?_) fun _ _ x => x
      cases ok with
      | true =>
        simp only [if_true] at h₂ ⊢
        refine wpAny_mono h₂ (fun y s₃ h₃ => compEnd_mono h₃ fun n hn => ?_) fun _ _ x => x
        have := ih (pre ++ [a]) (ys ++ [y]) n (by rw [e]; simp) hn
        rwa [List.length_append, List.length_singleton] at this
      | false =>
        simp only [Bool.false_eq_true, if_false] at h₂ ⊢
        refine compEnd_mono h₂ fun n hn => ?_
        have := ih (pre ++ [a]) ys n (by rw [e]; simp) hn
        rwa [List.length_append, List.length_singleton] at this
  have := key xs [] [] news rfl hj
  simpa using this
end

theorem off1_of {D : Addr} : ∀ {l : List (Addr × Obj)}, LCg.Off1 D l → ∀ p ∈ l, p.1 ≠ D
  | [], _, _, h => nomatch h
  | _ :: _, x, p, h => by
    rcases List.mem_cons.mp h with rfl | h
    · exact x.1
    · exact off1_of x.2 p h
theorem keys_says {prog : Program} {w : World} {x dx l : Addr} {cards : List Card} {ep : Nat} {news : List (Addr × Obj)} (tab : Tab news x dx l cards ep) (hsz : cards.length < 1000) :
    Says prog w (.ref 123) [.ref x] [] news 4 (fun v n => ∃ D ys, v = .ref D ∧ n = (D, LCg.lst ys) :: news ∧ (∀ p ∈ news, p.1 ≠ D) ∧ StrsAre ys (cards.map (·.nm))) := by
  intro p loose mean mg mb dp un gd cn cs a ccd cl outer A₀ base h₀ L m s Q E B F X N T hk hdp hun hret
  obtain ⟨th, tt, nd, hdict⟩ := tab.dict
  have hinst := tab.inst
  have hlst := tab.lst
  refine wpAny_call ?_
  walk_at "ENTER"
  iterate 3 walk_at "S"
  k_dflt (refine LCp.ListComp_P (F₀ := by k_asm) (by with_unfolding_all rfl) (by decide) (by rfl) (by decide) (by rfl) (by rfl) (by decide) ?_)
  iterate 3 walk_at "S"
  (rename Fr _ _ _ _ => F3); (rename News _ _ _ _ => N3)
  k_dflt (refine LCp.SrcLP.ledger (by rfl) F3 N3 hlst (by show (cards.map fun c => Value.ref c.at_).toArray.size ≤ sizeLine; rw [List.size_toArray, List.length_map, sizeLine_eq]; omega) fun g => comp_pair (xs := cards) (f := fun c => Value.ref c.at_) (fun r ys nw => nw = news ∧ ∃ pre, cards = pre ++ r ∧ StrsAre ys (pre.map (·.nm))) ⟨rfl, [], rfl, StrsAre.nil⟩ ?_ ?_)
  · rintro c r ys nw _ ⟨rfl, pre, hpre, hys⟩
    obtain ⟨t1, t2, hc⟩ := tab.tups c (by rw [hpre]; simp)
    refine ⟨c.at_, _, _, _, 0, rfl, hc, rfl, rfl, ?_⟩
    intro I oI C oC D m2 h tk E2 hC hx1 hx2 F9 N9 off9 ne9
    refine LCgL.ld_own (by k_asm) (by k_mem) (by assumption) (by assumption) ?_
    exact compEnd_same F9 N9 off9 (.inr ⟨_, hlst, rfl, _, rfl⟩) ⟨rfl, pre ++ [c], by rw [hpre]; simp, by rw [List.map_append]; exact hys.append' (.cons _ _ .nil)⟩
  · rintro ys nw ⟨rfl, pre, hpre, hys⟩ D h tk F9 N9 off9
    iterate 1 walk_at "S"
    rw [List.append_nil] at hpre
    exact hret _ _ _ _ (by assumption) (by assumption) ⟨D, ys, rfl, rfl, off1_of off9, by rw [hpre]; exact hys⟩

theorem off05 : FillK := by w_top off; rfl
theorem items_says {prog : Program} {w : World} {x dx l : Addr} {cards : List Card} {ep : Nat} {news : List (Addr × Obj)} (tab : Tab news x dx l cards ep) (hsz : cards.length < 1000) :
    Says prog w (.ref 135) [.ref x] [] news 4 (fun v n => ∃ D k, v = .ref D ∧ n = (D, listOf (cards.map fun c => Value.ref c.at_).toArray k) :: news ∧ (∀ p ∈ news, p.1 ≠ D)) := by
  intro p loose mean mg mb dp un gd cn cs a ccd cl outer A₀ base h₀ L m s Q E B F X N T hk hdp hun hret
  obtain ⟨th, tt, nd, hdict⟩ := tab.dict
  have hinst := tab.inst
  have hlst := tab.lst
  refine wpAny_call ?_
  walk_at "ENTER"
  iterate 12 walk_at "S"
  (rename Fr _ _ _ _ => F3); (rename News _ _ _ _ => N3)
  k_dflt (refine kmk_slice F3 N3 (News.isList N3 hlst) IsPart.none IsPart.none (fun D h1 F1 N1 l1 => ?_) (by with_unfolding_all rfl) (by intro _; with_unfolding_all rfl) (by rw [List.size_toArray, List.length_map, sizeLine_eq]; omega))
  rw [slicePick_all] at N1
  iterate 1 walk_at "S"
  exact hret _ _ _ _ (by assumption) (by assumption) ⟨D, 0, rfl, rfl, fun p hp => Nat.ne_of_lt (l1 p hp)⟩

theorem off06 : FillK := by w_top off; rfl
section
variable {prog : Program} {w : World} {A : Around} {E : Value → Shared → Prop} {s : Shared}
theorem allItems_list {l : Addr} {its : Array Value} {msg : String} {Q : Array Value → Shared → Prop} (hl : s.heap.IsList l its) (h : Q its s) : wpAny (model prog w) A (Builtin.List.listAllItems (.ref l) msg) Q E s := by
  obtain ⟨o, ho, hc, ne, hd⟩ := id hl
  unfold Builtin.List.listAllItems
  refine wpAny_bind (wpAny_typeOf hl.typeIs ?_)
  rw [if_pos (by decide)]
  show wpAny _ _ (Builtin.List.listItems (.ref l)) _ _ _
  unfold Builtin.List.listItems
  exact wpAny_bind (wpAny_seqItems ho hd (wpAny_pure h))
/-- x[:] = y for two lists -/
theorem setItem_all {l sl d : Addr} {its new : Array Value} {ep : Nat} {Q : Unit → Shared → Prop} (ho : s.heap.get? l = some (listOf its ep))
    (hs : s.heap.IsSliceOf sl .none .none .none) (hd : s.heap.IsList d new) (hne : l ≠ d) (hz : its.size ≤ 1000) (hz2 : new.size ≤ 1000)
    (hk : Q () { s with heap := s.heap.update l (Obj.mapSeq fun xs => xs.extract 0 0 ++ new ++ xs.extract its.size xs.size) }) :
    wpAny (model prog w) A (setItem (.ref l) (.ref sl) (.ref d)) Q E s := by
  have hl : s.heap.IsList l its := ⟨_, ho, rfl, ep, rfl⟩
  obtain ⟨os, hos, hcs, hds⟩ := id hs
  have hTs : s.TypeIs (.ref sl) "slice" := ⟨os, hos, hcs⟩
  have hnr : Builtin.List.listSameRef (.ref l) (.ref d) = false := by
    show (l == d) = false
    exact beq_false_of_ne hne
  unfold setItem
  try with_reducible refine wpAny_holding ?_
  first | refine wpAny_bind (wpAny_pure ?_) | skip
  refine wpAny_bind (wpAny_sequenceKey hl.typeIs (by decide) ?_)
  refine wpAny_bind (wpAny_callSpecial?_slot (name := Str.ofString "__setitem__") hl.typeIs slot_list_setitem
    (wpAny_call_entry slot_list_setitem hl.typeIs entry_list_setitem ?_ (args_list_setitem _ _ _)))
  show wpAny _ _ (Builtin.List.listSubscript? (.ref sl) >>= _) _ _ s
  refine wpAny_bind ?_
  unfold Builtin.List.listSubscript?
  refine wpAny_bind (wpAny_specialOf hTs slice_no_index ?_)
  simp only [Option.isNone_none, if_true]
  refine wpAny_pure ?_
  show wpAny _ _ (typeOf (.ref sl) >>= _) _ _ s
  refine wpAny_bind (wpAny_typeOf hTs ?_)
  rw [if_neg (by decide)]
  rw [listSliceParts_eq]
  refine wpAny_bind (wpAny_bind (wpAny_field hos hds (x := .none) rfl (wpAny_bind (wpAny_listPart .none ?_))))
  rw [if_neg (by exact Bool.false_ne_true)]
  refine wpAny_bind (wpAny_field hos hds (x := .none) rfl (wpAny_bind (wpAny_listPart .none ?_)))
  refine wpAny_bind (wpAny_field hos hds (x := .none) rfl (wpAny_bind (wpAny_listPart .none (wpAny_pure ?_))))
  dsimp only
  rw [hnr, if_neg Bool.false_ne_true]
  refine wpAny_bind (allItems_list hd ?_)
  refine wpAny_bind (m := Builtin.List.listItems (.ref l)) ?_
  unfold Builtin.List.listItems
  refine wpAny_bind (wpAny_seqItems ho rfl (wpAny_pure ?_))
  refine wpAny_bind (wpAny_of_eq (sliceIndices_raw none none none its.size (by simp)) ?_)
  have e : sliceBounds none none none its.size = (((0 : Nat) : Int), (its.size : Int), 1) := by simp [sliceBounds]
  rw [e]
  dsimp only
  rw [if_pos (by decide)]
  refine wpAny_bind (wpAny_rule ?_)
  have hlong : ¬ (Builtin.List.listTooLong (its.size + new.size) = true) := by
    unfold Builtin.List.listTooLong
    rw [decide_eq_true_eq, sizeLine_eq]
    omega
  rw [if_neg hlong]
  have e2 : (max ((0 : Nat) : Int) (its.size : Int)).toNat = its.size := by omega
  rw [e2]
  have e3 : ((0 : Nat) : Int).toNat = 0 := rfl
  rw [e3]
  refine wpAny_bind (m := updateSeq l _) (wpAny_updateSeq ho rfl ?_ (by rw [sizeLine_eq]; omega) (by simp; rw [sizeLine_eq]; omega))
  refine wpAny_bind (wpAny_letGo ?_)
  exact wpAny_pure ⟨.none, rfl, wpAny_pure hk⟩
theorem mapSeq_all (its new : Array Value) (ep : Nat) : ∃ ep', Obj.mapSeq (fun xs => xs.extract 0 0 ++ new ++ xs.extract its.size xs.size) (listOf its ep) = listOf new ep' := by
  have e : its.extract 0 0 ++ new ++ its.extract its.size its.size = new := by
    apply Array.ext'
    simp
  have e2 : Obj.mapSeq (fun xs => xs.extract 0 0 ++ new ++ xs.extract its.size xs.size) (listOf its ep) = listOf (its.extract 0 0 ++ new ++ its.extract its.size its.size) (if (its.extract 0 0 ++ new ++ its.extract its.size its.size).size == its.size then ep else ep + 1) := rfl
  rw [e2, e]
  exact ⟨_, rfl⟩
/-- an entry of the ledger turned -/
def putN (news : List (Addr × Obj)) (l : Addr) (o : Obj) : List (Addr × Obj) := (l, o) :: news.filter fun p => !(p.1 == l)
theorem mem_putN {news : List (Addr × Obj)} {l : Addr} {o : Obj} {p : Addr × Obj} (h : p ∈ news) (hne : p.1 ≠ l) : p ∈ putN news l o :=
  List.mem_cons_of_mem _ (List.mem_filter.mpr ⟨h, by simp [beq_false_of_ne hne]⟩)
theorem of_mem_putN {news : List (Addr × Obj)} {l : Addr} {o : Obj} {p : Addr × Obj} (h : p ∈ putN news l o) : p = (l, o) ∨ (p ∈ news ∧ p.1 ≠ l) := by
  rcases List.mem_cons.mp h with h | h
  · exact .inl h
  · obtain ⟨h1, h2⟩ := List.mem_filter.mp h
    exact .inr ⟨h1, by simpa using h2⟩
theorem news_put {h₀ h h' : Heap} {L : Addr} {m : Str → Option Value} {news : List (Addr × Obj)} {l : Addr} {o o' : Obj} (F : Fr h₀ L h m) (N : News h₀ L h news) (hm : (l, o) ∈ news) (hs : Heap.SameBut l h h') (ho' : h'.get? l = some o') :
    Fr h₀ L h' m ∧ News h₀ L h' (putN news l o') := by
  have z := N (l, o) hm
  refine ⟨F.change hs z.2.1 z.2.2, fun p hp => ?_⟩
  rcases of_mem_putN hp with rfl | ⟨hp, hne⟩
  · exact ⟨ho', z.2⟩
  · exact ⟨hs.extBut _ _ hne (N p hp).1, (N p hp).2⟩
/-- x[:] = y for two lists of the ledger -/
theorem store_all {h₀ : Heap} {L : Addr} {m : Str → Option Value} {news : List (Addr × Obj)} {l sl d : Addr} {its new : Array Value} {ep : Nat} {Q : Unit → Shared → Prop} (F : Fr h₀ L s.heap m) (N : News h₀ L s.heap news) (hm : (l, listOf its ep) ∈ news)
    (hs : s.heap.IsSliceOf sl .none .none .none) (hd : s.heap.IsList d new) (hne : l ≠ d) (hz : its.size ≤ 1000) (hz2 : new.size ≤ 1000)
    (h : ∀ h' ep', Fr h₀ L h' m → News h₀ L h' (putN news l (listOf new ep')) → Q () { s with heap := h' }) : wpAny (model prog w) A (setItem (.ref l) (.ref sl) (.ref d)) Q E s := by
  have ho := (N _ hm).1
  obtain ⟨ep', e⟩ := mapSeq_all its new ep
  refine setItem_all ho hs hd hne hz hz2 ?_
  have F2 := news_put F N hm (h' := s.heap.update l (Obj.mapSeq fun xs => xs.extract 0 0 ++ new ++ xs.extract its.size xs.size)) (o' := listOf new ep') (Heap.SameBut.update ..) (by rw [Heap.get?_update_self _ ho (by rw [e]; rfl), e])
  exact h _ ep' F2.1 F2.2
end

theorem off07 : FillK := by w_top off; rfl
/-- the pairs of another name -/
def dropped (cards : List Card) (nm : Str) : List Card := cards.filter fun c => !(Txt.lower c.nm == nm)
theorem del_says {prog : Program} {w : World} {x dx l : Addr} {cards : List Card} {ep : Nat} {news : List (Addr × Obj)} {t : Tok} {nm : Str} (tab : Tab news x dx l cards ep) (hsh : Short cards) (hsz : cards.length < 500)
    (hn : clean nameCode (Txt.lower nm) = true) (hl : nm.length < 300) :
    Says prog w (.ref 89) [.ref x, .str nm t] [] news 8 (fun v n => v = .none ∧ ∃ ep', n = putN news l (listOf ((dropped cards (Txt.lower nm)).map fun c => Value.ref c.at_).toArray ep')) := by
  intro p loose mean mg mb dp un gd cn cs a ccd cl outer A₀ base h₀ L m s Q E B F X N T hk hdp hun hret
  obtain ⟨th, tt, nd, hdict⟩ := tab.dict
  have hinst := tab.inst
  have hlst := tab.lst
  refine wpAny_call ?_
  walk_at "ENTERC"
  (rename ∀ p, p ∈ news → p.1 < _ => l1x)
  have offc := fun (p : Addr × Obj) (hp : p ∈ news) => Nat.ne_of_lt (Nat.lt_succ_of_lt (l1x p hp))
  iterate 5 walk_at "S"
  k_dflt (refine callWith_KW (by k_asm) (by k_is) (by exact rfl) ?_)
  iterate 11 walk_at "S"
  k_dflt (refine Says.use (conv_name hn (by show (Txt.lower nm).length < 1000; omega)) (by k_asm) (by k_asm) (by k_asm) (by k_asm) (by k_asm) (by first | exact rfl | assumption) (by walk_at "ROOM") (by walk_at "ROOM") ?_)
  rintro _ _ h1 tk1 F1 N1 ⟨rfl, rfl⟩
  iterate 3 walk_at "S"
  refine wpAny_Assign_Subscript ?_
  (rename Fr _ _ _ _ => F3); (rename News _ _ _ _ => N3)
  k_dflt (refine LCt.ListComp_T (F₀ := F3) (by with_unfolding_all rfl) (by decide) (by rfl) (by decide) (by rfl) ?_)
  iterate 3 walk_at "S"
  k_dflt (refine LCt.CompSrcT.ledger (by rfl) F3 N3 (List.mem_cons_of_mem _ hlst) (by rw [List.size_toArray, List.length_map, sizeLine_eq]; omega) fun g => comp_test (xs := cards) (f := fun c => Value.ref c.at_) (fun r ys nw => nw = _ ∧ ∃ pre, cards = pre ++ r ∧ ys = (dropped pre (Txt.lower nm)).map fun c => Value.ref c.at_) ⟨rfl, [], rfl, rfl⟩ ?_ ?_)
  · rintro c r ys nw I oI C oC D m2 h tk E2 _ ⟨rfl, pre, hpre, hys⟩ hC hx1 F9 N9 off9 ne9
    obtain ⟨t1, t2, hc⟩ := tab.tups c (by rw [hpre]; simp)
    have hcl := hsh c (by rw [hpre]; simp)
    dsimp only
    iterate 6 walk_at "S"
    k_dflt (refine item_tupleT (News.isTup N9 (List.mem_cons_of_mem _ (List.mem_cons_of_mem _ (List.mem_cons_of_mem _ (List.mem_cons_of_mem _ hc))))) (by decide) (by decide) (by rfl) (by rfl) ?_ (by with_unfolding_all rfl))
    iterate 3 walk_at "S"
    (rename Obj.data _ = Data.cell _ => dX)
    k_dflt (refine lcf_cell N9 (by rfl) (List.mem_cons_of_mem _ (List.mem_cons_of_mem _ (List.mem_cons_of_mem _ List.mem_cons_self))) dX ?_ (by rfl) (by rfl))
    iterate 4 walk_at "S"
    · (rename (_ != _) = true => hb)
      refine LCgL.ld_own N9 (by k_mem) (by assumption) (by assumption) ?_
      k_dflt (refine compEnd_same F9 N9 off9 (.inr ⟨_, List.mem_cons_of_mem _ hlst, rfl, _, rfl⟩) ⟨rfl, pre ++ [c], by rw [hpre]; simp, ?_⟩)
      unfold dropped at hys ⊢
      have hb' : (!(Txt.lower c.nm == Txt.lower nm)) = true := hb
      rw [hys, List.filter_append, List.map_append]
      simp [hb']
    · (rename (_ != _) = false => hb)
      k_dflt (refine compEnd_same F9 N9 off9 (.inr ⟨_, List.mem_cons_of_mem _ hlst, rfl, _, rfl⟩) ⟨rfl, pre ++ [c], by rw [hpre]; simp, ?_⟩)
      unfold dropped at hys ⊢
      have hb' : (!(Txt.lower c.nm == Txt.lower nm)) = false := hb
      rw [hys, List.filter_append, List.map_append]
      simp [hb']
  · rintro ys nw ⟨rfl, pre, hpre, hys⟩ D h tk F9 N9 off9
    rw [List.append_nil] at hpre
    subst hpre
    dsimp only
    iterate 7 walk_at "S"
    have hDl : l ≠ D := Ne.symm (Ne.symm (off1_of off9 (l, _) (List.mem_cons_of_mem _ hlst)))
    have hys2 : ys.length ≤ 500 := by
      rw [hys, List.length_map]
      exact Nat.le_trans (List.length_filter_le _ _) (Nat.le_of_lt hsz)
    k_dflt (refine store_all (F9.push _) (fun p hp => ⟨Heap.get?_push_of_some _ (N9 p hp).1, (N9 p hp).2⟩) (List.mem_cons_of_mem _ (List.mem_cons_of_mem _ hlst)) (Heap.IsSliceOf.new ..) (Heap.IsList.push (News.isList N9 List.mem_cons_self) _) hDl (by rw [List.size_toArray, List.length_map]; omega) (by rw [List.size_toArray]; omega) (fun h2 ep2 F2 N2 => ?_))
    iterate 3 walk_at "S"
    refine hret _ _ _ _ (by assumption) (cb_drop (by assumption) ?_) ⟨rfl, ep2, rfl⟩
    rw [← hys]
    intro p hp
    rcases of_mem_putN hp with rfl | ⟨hp, hne⟩
    · exact List.mem_cons_self
    · exact mem_putN (List.mem_cons_of_mem _ (List.mem_cons_of_mem _ hp)) hne

theorem off08 : FillK := by w_top off; rfl
theorem del_item {M : Model} {A : Around} {E : Value → Shared → Prop} {s : Shared} {K : Frag} {x C L f : Addr} {h₀ : Heap} {m : Str → Option Value} {ox : Obj} {od : Option Obj} {i : Value} {Q : Unit → Shared → Prop} (F : Fr h₀ L s.heap m) (X₀ : K.In h₀) (I : InstAt s.heap x ox C od) (hq : noSeq K C = true) (hs : findIn K (.ref C) "__delitem__" = some (some (.ref f))) (hf : isFn K (.ref f) = true)
    (h : wpAny M A (call (.ref f) [.ref x, i]) (fun _ s' => Q () s') E s) : wpAny M A (delItem (.ref x) i) Q E s := by
  have X := X₀.keeps F.keep
  unfold delItem sequenceKey
  refine wpAny_holding (wpAny_bind (wpAny_bind (I.type.here ?_)))
  refine wpAny_bind ((anyM_none X hq).here ?_)
  rw [if_pos (show (!false) = true from rfl)]
  exact wpAny_pure (wpAny_bind (special_fn X I hs (beq_iff_eq.mp hf) (wpAny_mono h (fun _ _ z => wpAny_pure z) fun _ _ z => z)))
theorem append_put {prog : Program} {w : World} {A : Around} {E : Value → Shared → Prop} {s : Shared} {h₀ : Heap} {L : Addr} {m : Str → Option Value} {news : List (Addr × Obj)} {l : Addr} {its : Array Value} {ep : Nat} {v : Value} {Q : Value → Shared → Prop} (F : Fr h₀ L s.heap m) (N : News h₀ L s.heap news) (hm : (l, listOf its ep) ∈ news) (hz : its.size ≤ 1000)
    (h : ∀ h', Fr h₀ L h' m → News h₀ L h' (putN news l (listOf (its.push v) (ep + 1))) → Q .none { s with heap := h' }) : wpAny (model prog w) A (call (.builtin "list.append") [.ref l, v]) Q E s := by
  refine append_at (hsz := by rw [sizeLine_eq]; omega) (N _ hm).1 fun h' hs hD => ?_
  have z := news_put F N hm hs hD
  exact h h' z.1 z.2
theorem ne_of_cls {h₀ h : Heap} {L : Addr} {news : List (Addr × Obj)} {a b : Addr} {o o' : Obj} (N : News h₀ L h news) (ha : (a, o) ∈ news) (hb : (b, o') ∈ news) (hc : o.cls ≠ o'.cls) : a ≠ b := by
  intro e
  subst e
  exact hc (congrArg Obj.cls (Option.some.inj ((N _ ha).1.symm.trans (N _ hb).1)))
theorem set_says {prog : Program} {w : World} {x dx l : Addr} {cards : List Card} {ep : Nat} {news : List (Addr × Obj)} {t t2 : Tok} {nm ld : Str} (tab : Tab news x dx l cards ep) (hsh : Short cards) (hsz : cards.length < 500)
    (hn : clean nameCode (Txt.lower nm) = true) (hn2 : clean nameCode nm = true) (hv : clean valCode ld = true) (hl : nm.length < 300) (hl2 : ld.length < 300) :
    Says prog w (.ref 84) [.ref x, .str nm t, .str ld t2] [] news 14 (fun v n => v = .none ∧ ∃ T ep', (∀ p ∈ news, p.1 ≠ T) ∧ n = putN ((T, tupO (.str nm t) (.str ld t2)) :: news) l (listOf ((dropped cards (Txt.lower nm) ++ [Card.mk T nm ld]).map fun c => Value.ref c.at_).toArray ep')) := by
  intro p loose mean mg mb dp un gd cn cs a ccd cl outer A₀ base h₀ L m s Q E B F X N T hk hdp hun hret
  obtain ⟨th, tt, nd, hdict⟩ := tab.dict
  have hinst := tab.inst
  have hlst := tab.lst
  refine wpAny_call ?_
  walk_at "ENTER"
  iterate 7 walk_at "S"
  k_dflt (refine del_item (by k_asm) (by k_asm) (by k_inst) (by k_is) (by k_is) (by k_is) ?_)
  k_dflt (refine Says.use (del_says tab hsh hsz hn hl) (by k_asm) (by k_asm) (by k_asm) (by k_asm) (by k_asm) (by first | exact rfl | assumption) (by walk_at "ROOM") (by walk_at "ROOM") ?_)
  rintro _ _ h1 tk1 F1 N1 ⟨rfl, ep1, rfl⟩
  dsimp only
  have hxl : x ≠ l := ne_of_cls N hinst hlst (by intro e; cases e)
  have hdl : dx ≠ l := ne_of_cls N hdict hlst (by intro e; exact absurd (Value.type.inj e) (by decide))
  have hinst2 := mem_putN (o := listOf ((dropped cards (Txt.lower nm)).map fun c => Value.ref c.at_).toArray ep1) hinst hxl
  have hdict2 := mem_putN (o := listOf ((dropped cards (Txt.lower nm)).map fun c => Value.ref c.at_).toArray ep1) hdict hdl
  have hlst2 : (l, listOf ((dropped cards (Txt.lower nm)).map fun c => Value.ref c.at_).toArray ep1) ∈ putN news l (listOf ((dropped cards (Txt.lower nm)).map fun c => Value.ref c.at_).toArray ep1) := List.mem_cons_self
  iterate 8 walk_at "S"
  refine callWith_method1 ?_
  iterate 6 walk_at "S"
  k_dflt (refine callWith_KW (by k_asm) (by k_is) (by exact rfl) ?_)
  iterate 7 walk_at "S"
  k_dflt (refine Says.use (conv_name hn2 (by show nm.length < 1000; omega)) (by k_asm) (by k_asm) (by k_asm) (by k_asm) (by k_asm) (by first | exact rfl | assumption) (by walk_at "ROOM") (by walk_at "ROOM") ?_)
  rintro _ _ h2 tk2 F2 N2 ⟨rfl, rfl⟩
  dsimp only
  iterate 4 walk_at "S"
  k_dflt (refine callWith_KW (by k_asm) (by k_is) (by exact rfl) ?_)
  iterate 7 walk_at "S"
  k_dflt (refine Says.use (conv_val hv (by show ld.length < 1000; omega)) (by k_asm) (by k_asm) (by k_asm) (by k_asm) (by k_asm) (by first | exact rfl | assumption) (by walk_at "ROOM") (by walk_at "ROOM") ?_)
  rintro _ _ h3 tk3 F3 N3 ⟨rfl, rfl⟩
  dsimp only
  iterate 3 walk_at "S"
  (rename Fr _ _ _ _ => F4); (rename News _ _ _ _ => N4); (rename ∀ p, p ∈ putN _ _ _ → p.1 < _ => l4); (rename Addr => Tn)
  k_dflt (refine append_put F4 N4 (List.mem_cons_of_mem _ hlst2) (by rw [List.size_toArray, List.length_map]; exact Nat.le_trans (List.length_filter_le _ _) (by omega)) (fun h5 F5 N5 => ?_))
  iterate 4 walk_at "S"
  have hpush : ((dropped cards (Txt.lower nm)).map fun c => Value.ref c.at_).toArray.push (Value.ref Tn) = ((dropped cards (Txt.lower nm) ++ [Card.mk Tn nm ld]).map fun c => Value.ref c.at_).toArray := by simp
  rw [hpush] at N5
  refine hret _ _ _ _ (by assumption) (cb_drop (by assumption) ?_) ⟨rfl, Tn, ep1 + 1, ?_, rfl⟩
  · intro p hp
    rw [← hpush] at hp
    rcases of_mem_putN hp with rfl | ⟨hp, hne⟩
    · exact List.mem_cons_self
    · rcases List.mem_cons.mp hp with rfl | hp
      · exact mem_putN List.mem_cons_self hne
      · exact mem_putN (List.mem_cons_of_mem _ (mem_putN hp hne)) hne
  · intro p hp
    by_cases hpl : p.1 = l
    · rw [hpl]; exact Nat.ne_of_lt (l4 _ hlst2)
    · exact Nat.ne_of_lt (l4 p (mem_putN hp hpl))

theorem off09 : FillK := by w_top off; rfl
/-- what Headers may hold -/
structure CleanCards (cards : List Card) : Prop where
  name : ∀ c ∈ cards, clean nameCode c.nm = true
  val : ∀ c ∈ cards, clean valCode c.ld = true
  nm_short : ∀ c ∈ cards, c.nm.length < 300
  ld_short : ∀ c ∈ cards, c.ld.length < 300
theorem init_says {prog : Program} {w : World} {l : Addr} {cards : List Card} {ep : Nat} {news : List (Addr × Obj)} (hlst : (l, listOf (cards.map fun c => Value.ref c.at_).toArray ep) ∈ news)
    (tups : ∀ c ∈ cards, ∃ t1 t2, (c.at_, tupO (.str c.nm t1) (.str c.ld t2)) ∈ news) (hcl : CleanCards cards) :
    Says prog w (.ref 171) [.ref l] [] news 14 (fun v n => ∃ x dx th tt nd, v = .ref x ∧ n = (x, instObj 171 dx) :: (dx, dictOf [⟨th, .str (Str.ofString "_headers") tt, .ref l⟩] nd) :: news ∧ (∀ p ∈ news, p.1 ≠ x ∧ p.1 ≠ dx) ∧ x ≠ dx) := by
  intro p loose mean mg mb dp un gd cn cs a ccd cl outer A₀ base h₀ L m s Q E B F X N T hk hdp hun hret
  k_dflt (refine call_cls F X N (by k_is) (by k_is) (by k_is) ?_)
  intro x dx h1 F1 N1 l1 l2
  have l3 : ∀ p ∈ news, p.1 ≠ dx := fun p hp => Nat.ne_of_lt (l1 p hp)
  walk_at "ENTER"
  iterate 32 walk_at "S"
  (rename Fr _ _ _ _ => F2); (rename News _ _ _ _ => N2)
  k_dflt (refine set_dict F2 (by k_asm) N2 (InstAt.of_news N2 (by k_mem) (by k_mem)) rfl (by k_is) (by k_is) (by k_is) (by k_is) (by k_get) (by k_put) (Upd.tail (Nat.ne_of_gt l2) (Upd.head l3)) (Nat.le_of_ble_eq_true rfl) ?_)
  intro h3 F3 N3
  dsimp only
  clear F2 N2
  iterate 8 walk_at "S"
  (with_unfolding_all refine For_turns F3 ?_)
  iterate 1 walk_at "S"
  (k_dflt (refine loop_list (xs := cards) (f := fun c => Value.ref c.at_) (fun _ m n => n = _ ∧ m (Str.ofString "self") = some (.ref x)) (by rfl) F3 N3 (List.mem_cons_of_mem _ (List.mem_cons_of_mem _ hlst)) ⟨rfl, rfl⟩ ?_ ?_))
  · rintro c r m n I it h tk ⟨pre, hpre⟩ ⟨rfl, hm1⟩ _ hit F9 N9 off9
    obtain ⟨t1, t2, hc⟩ := tups c (by rw [hpre]; simp)
    have hc1 := hcl.name c (by rw [hpre]; simp)
    have hc2 := hcl.val c (by rw [hpre]; simp)
    have hc3 := hcl.nm_short c (by rw [hpre]; simp)
    have hc4 := hcl.ld_short c (by rw [hpre]; simp)
    clear F3 N3
    dsimp only [envOf] at F9 N9
    k_dflt (refine unpackN_ (by k_asm) (by k_asm) (News.isTup (by k_asm) (by k_mem)) (by exact rfl) (by exact rfl) (by exact rfl) ?_)
    intro h2 F2 N2
    dsimp only
    iterate 13 walk_at "S"
    k_dflt (refine callWith_KW (by k_asm) (by k_is) (by exact rfl) ?_)
    iterate 7 walk_at "S"
    k_dflt (refine Says.use (conv_name hc1 (by show c.nm.length < 1000; omega)) (by k_asm) (by k_asm) (by k_asm) (by k_asm) (by k_asm) (by first | exact rfl | assumption) (by walk_at "ROOM") (by walk_at "ROOM") ?_)
    rintro _ _ h4 tk4 F4 N4 ⟨rfl, rfl⟩
    dsimp only
    iterate 5 walk_at "S"
    k_dflt (refine callWith_KW (by k_asm) (by k_is) (by exact rfl) ?_)
    iterate 7 walk_at "S"
    k_dflt (refine Says.use (conv_val hc2 (by show c.ld.length < 1000; omega)) (by k_asm) (by k_asm) (by k_asm) (by k_asm) (by k_asm) (by first | exact rfl | assumption) (by walk_at "ROOM") (by walk_at "ROOM") ?_)
    rintro _ _ h5 tk5 F5 N5 ⟨rfl, rfl⟩
    dsimp only
    iterate 1 walk_at "S"
    k_dflt (exact LEnd.next F5 N5 (fun p hp => hp) off9 (List.mem_cons_of_mem _ (List.mem_cons_of_mem _ hlst)) ⟨rfl, hm1⟩)
  · rintro m n h tk ⟨rfl, hm1⟩ F9 N9
    clear F3 N3
    dsimp only [envOf] at F9 N9
    iterate 4 walk_at "S"
    exact hret _ _ _ _ (by assumption) (by assumption) ⟨x, dx, _, _, _, rfl, rfl, fun p hp => ⟨Nat.ne_of_lt (Nat.lt_trans (l1 p hp) l2), l3 p hp⟩, Nat.ne_of_gt l2⟩

theorem off10 : FillK := by w_top off; rfl
/-- how many of the row are at most x -/
def upTo (ns : List Int) (x : Int) : Nat := ns.countP fun n => decide (n ≤ x)
theorem upTo_of {x : Int} : ∀ (ns : List Int) (k : Nat), k ≤ ns.length → (∀ i n, ns[i]? = some n → i < k → n ≤ x) → (∀ i n, ns[i]? = some n → k ≤ i → x < n) → upTo ns x = k
  | [], k, hk, _, _ => by simp at hk; simp [upTo, hk]
  | n :: r, 0, _, _, h2 => by
    have h0 := h2 0 n rfl (Nat.le_refl _)
    have := upTo_of r 0 (Nat.zero_le _) (fun i n hi hlt => absurd hlt (Nat.not_lt_zero _)) (fun i n hi _ => h2 (i + 1) n hi (Nat.zero_le _))
    unfold upTo at *
    rw [List.countP_cons, this]
    simp only [decide_eq_true_eq]
    rw [if_neg (by omega)]
  | n :: r, k + 1, hk, h1, h2 => by
    have h0 := h1 0 n rfl (Nat.succ_pos _)
    have := upTo_of r k (Nat.le_of_succ_le_succ hk) (fun i n hi hlt => h1 (i + 1) n hi (Nat.succ_lt_succ hlt)) (fun i n hi hle => h2 (i + 1) n hi (Nat.succ_le_succ hle))
    unfold upTo at *
    rw [List.countP_cons, this]
    simp only [decide_eq_true_eq]
    rw [if_pos h0]
theorem sorted_get {ns : List Int} (hs : ns.Pairwise (· ≤ ·)) {i j : Nat} {a b : Int} (hi : ns[i]? = some a) (hj : ns[j]? = some b) (h : i ≤ j) : a ≤ b := by
  obtain ⟨hil, rfl⟩ := List.getElem?_eq_some_iff.mp hi
  obtain ⟨hjl, rfl⟩ := List.getElem?_eq_some_iff.mp hj
  by_cases e : i = j
  · subst e; exact Int.le_refl _
  · exact List.pairwise_iff_getElem.mp hs i j hil hjl (by omega)
theorem mid_eq (lo hi : Nat) : (((lo : Int) + (hi : Int)).fdiv 2) = (((lo + hi) / 2 : Nat) : Int) := by
  rw [Int.fdiv_eq_ediv_of_nonneg _ (by omega)]; omega
theorem getD_get {ns : List Int} {i : Nat} (h : i < ns.length) : ns[i]? = some (ns.getD i 0) := by
  rw [List.getD_eq_getElem?_getD, List.getElem?_eq_getElem h]; rfl
def BisI (news : List (Addr × Obj)) (l : Addr) (ns : List Int) (x : Int) (t : Tok) (n : Nat) (m : Str → Option Value) (nw : List (Addr × Obj)) : Prop :=
  ∃ (lo hi : Nat) (t1 t2 : Tok), news = nw ∧ m (Str.ofString "a") = some (.ref l) ∧ m (Str.ofString "x") = some (.int x t) ∧ m (Str.ofString "lo") = some (.int (lo : Int) t1) ∧ m (Str.ofString "hi") = some (.int (hi : Int) t2) ∧
    n = hi - lo ∧ lo ≤ hi ∧ hi ≤ ns.length ∧ (∀ i n, ns[i]? = some n → i < lo → n ≤ x) ∧ (∀ i n, ns[i]? = some n → hi ≤ i → x < n)
theorem bis2_says {prog : Program} {w : World} {l : Addr} {vs : List Value} {ns : List Int} {ep : Nat} {news : List (Addr × Obj)} {x : Int} {t : Tok} (hlst : (l, listOf vs.toArray ep) ∈ news) (hi : IntsAre vs ns) (hs : ns.Pairwise (· ≤ ·)) (hz : ns.length < 1000) :
    Says prog w (.ref 193) [.ref l, .int x t] [] news 4 (fun v n => (∃ t', v = .int (upTo ns x) t') ∧ news = n) := by
  intro p loose mean mg mb dp un gd cn cs a ccd cl outer A₀ base h₀ L m s Q E B F X N T hk hdp hun hret
  refine wpAny_call ?_
  walk_at "ENTER"
  iterate 27 walk_at "S"
  (rename Fr _ _ _ _ => F1); (rename News _ _ _ _ => N1)
  k_dflt (refine call_len_list (items := vs.toArray) ?_ ?_ ?_)
  · exact News.isList N1 hlst
  · rw [List.size_toArray, IntsAre.length hi]; omega
  dsimp only
  rw [List.size_toArray, IntsAre.length hi]
  iterate 12 walk_at "S"
  (rename Fr _ _ _ _ => F2); (rename News _ _ _ _ => N2)
  k_dflt (refine While_inv2 (BisI news l ns x t) F2 N2 (n₀ := ns.length) ?_ ?_)
  · refine ⟨0, ns.length, _, _, rfl, rfl, rfl, rfl, rfl, by omega, by omega, by omega, fun i n _ h => absurd h (by omega), fun i n h1 h2 => ?_⟩
    have := List.getElem?_eq_none h2
    rw [this] at h1; cases h1
  · rintro n m₁ _ h₁ tk₁ F3 N3 ⟨lo, hi', t1, t2, rfl, ma, mx, mlo, mhi, rfl, hle, hlen, hlow, hhigh⟩
    clear F2 N2
    (try dsimp only [envOf] at F3 N3)
    iterate 27 walk_at "S"
    · iterate 7 walk_at "S"
      (rename Fr _ _ _ _ => F8); (rename News _ _ _ _ => N8)
      (rename _ < List.getD _ _ _ => hx)
      rw [mid_eq] at F8 hx
      rw [Int.toNat_natCast] at hx
      refine ⟨_, _, _, _, (lo + hi') / 2 - lo, rfl, F8, N8, by omega, ⟨lo, (lo + hi') / 2, t1, _, rfl, ma, mx, mlo, rfl, rfl, by omega, by omega, hlow, fun i n h1 h2 => ?_⟩⟩
      have := sorted_get hs (getD_get (i := (lo + hi') / 2) (by omega)) h1 h2
      omega
    · iterate 10 walk_at "S"
      (rename Fr _ _ _ _ => F8); (rename News _ _ _ _ => N8)
      (rename ¬ (_ < List.getD _ _ _) => hx)
      rw [mid_eq] at F8 hx
      rw [Int.toNat_natCast] at hx
      refine ⟨_, _, _, _, hi' - ((lo + hi') / 2 + 1), rfl, F8, N8, by omega, ⟨(lo + hi') / 2 + 1, hi', _, t2, rfl, ma, mx, rfl, mhi, rfl, by omega, by omega, fun i n h1 h2 => ?_, hhigh⟩⟩
      have := sorted_get hs h1 (getD_get (i := (lo + hi') / 2) (by omega)) (by omega)
      omega
    · iterate 5 walk_at "S"
      have hk1 : upTo ns x = lo := upTo_of ns lo (by omega) hlow (fun i n h1 h2 => hhigh i n h1 (by omega))
      exact hret _ _ _ _ (by assumption) (by assumption) ⟨⟨_, by rw [hk1]⟩, rfl⟩
theorem bis4_says {prog : Program} {w : World} {l : Addr} {vs : List Value} {ns : List Int} {ep : Nat} {news : List (Addr × Obj)} {x : Int} {t t0 : Tok} (hlst : (l, listOf vs.toArray ep) ∈ news) (hi : IntsAre vs ns) (hs : ns.Pairwise (· ≤ ·)) (hz : ns.length < 1000) :
    Says prog w (.ref 193) [.ref l, .int x t, .int 0 t0, .none] [] news 4 (fun v n => (∃ t', v = .int (upTo ns x) t') ∧ news = n) := by
  intro p loose mean mg mb dp un gd cn cs a ccd cl outer A₀ base h₀ L m s Q E B F X N T hk hdp hun hret
  refine wpAny_call ?_
  walk_at "ENTER"
  iterate 27 walk_at "S"
  (rename Fr _ _ _ _ => F1); (rename News _ _ _ _ => N1)
  k_dflt (refine call_len_list (items := vs.toArray) ?_ ?_ ?_)
  · exact News.isList N1 hlst
  · rw [List.size_toArray, IntsAre.length hi]; omega
  dsimp only
  rw [List.size_toArray, IntsAre.length hi]
  iterate 12 walk_at "S"
  (rename Fr _ _ _ _ => F2); (rename News _ _ _ _ => N2)
  k_dflt (refine While_inv2 (BisI news l ns x t) F2 N2 (n₀ := ns.length) ?_ ?_)
  · refine ⟨0, ns.length, _, _, rfl, rfl, rfl, rfl, rfl, by omega, by omega, by omega, fun i n _ h => absurd h (by omega), fun i n h1 h2 => ?_⟩
    have := List.getElem?_eq_none h2
    rw [this] at h1; cases h1
  · rintro n m₁ _ h₁ tk₁ F3 N3 ⟨lo, hi', t1, t2, rfl, ma, mx, mlo, mhi, rfl, hle, hlen, hlow, hhigh⟩
    clear F2 N2
    (try dsimp only [envOf] at F3 N3)
    iterate 27 walk_at "S"
    · iterate 7 walk_at "S"
      (rename Fr _ _ _ _ => F8); (rename News _ _ _ _ => N8)
      (rename _ < List.getD _ _ _ => hx)
      rw [mid_eq] at F8 hx
      rw [Int.toNat_natCast] at hx
      refine ⟨_, _, _, _, (lo + hi') / 2 - lo, rfl, F8, N8, by omega, ⟨lo, (lo + hi') / 2, t1, _, rfl, ma, mx, mlo, rfl, rfl, by omega, by omega, hlow, fun i n h1 h2 => ?_⟩⟩
      have := sorted_get hs (getD_get (i := (lo + hi') / 2) (by omega)) h1 h2
      omega
    · iterate 10 walk_at "S"
      (rename Fr _ _ _ _ => F8); (rename News _ _ _ _ => N8)
      (rename ¬ (_ < List.getD _ _ _) => hx)
      rw [mid_eq] at F8 hx
      rw [Int.toNat_natCast] at hx
      refine ⟨_, _, _, _, hi' - ((lo + hi') / 2 + 1), rfl, F8, N8, by omega, ⟨(lo + hi') / 2 + 1, hi', _, t2, rfl, ma, mx, rfl, mhi, rfl, by omega, by omega, fun i n h1 h2 => ?_, hhigh⟩⟩
      have := sorted_get hs h1 (getD_get (i := (lo + hi') / 2) (by omega)) (by omega)
      omega
    · iterate 5 walk_at "S"
      have hk1 : upTo ns x = lo := upTo_of ns lo (by omega) hlow (fun i n h1 h2 => hhigh i n h1 (by omega))
      exact hret _ _ _ _ (by assumption) (by assumption) ⟨⟨_, by rw [hk1]⟩, rfl⟩

theorem off11 : FillK := by w_top off; rfl
def insNs (ns : List Int) (x : Int) : List Int := ns.take (upTo ns x) ++ x :: ns.drop (upTo ns x)
theorem IntsAre.take_ {vs : List Value} {ns : List Int} (h : IntsAre vs ns) : ∀ k, IntsAre (vs.take k) (ns.take k) := by
  intro k
  induction k generalizing vs ns with
  | zero => simp; exact .nil
  | succ k ih => cases h with
    | nil => simp; exact .nil
    | cons _ _ h => simp; exact .cons _ _ (ih h)
theorem IntsAre.drop_ {vs : List Value} {ns : List Int} (h : IntsAre vs ns) : ∀ k, IntsAre (vs.drop k) (ns.drop k) := by
  intro k
  induction k generalizing vs ns with
  | zero => simpa using h
  | succ k ih => cases h with
    | nil => simp; exact .nil
    | cons _ _ h => simpa using ih h
theorem fitsIdx (k : Nat) (h : k ≤ 1000) : Builtin.List.listFitsIndex (k : Int) = true := by
  unfold Builtin.List.listFitsIndex
  rw [Bool.and_eq_true, decide_eq_true_eq, decide_eq_true_eq]
  constructor <;> omega
theorem insert_put {prog : Program} {w : World} {A : Around} {E : Value → Shared → Prop} {s : Shared} {h₀ : Heap} {L : Addr} {m : Str → Option Value} {news : List (Addr × Obj)} {l : Addr} {vs : List Value} {ep k : Nat} {y : Int} {v : Value} {u : Tok} {Q : Value → Shared → Prop} (hy : y = (k : Int)) (F : Fr h₀ L s.heap m) (N : News h₀ L s.heap news) (hm : (l, listOf vs.toArray ep) ∈ news) (hz : vs.length ≤ 1000) (hk : k ≤ vs.length)
    (h : ∀ h', Fr h₀ L h' m → News h₀ L h' (putN news l (listOf (vs.take k ++ v :: vs.drop k).toArray (ep + 1))) → Q .none { s with heap := h' }) : wpAny (model prog w) A (call (.builtin "list.insert") [.ref l, .int y u, v]) Q E s := by
  have z := (N _ hm).1
  have e : (if y < 0 then (y + (vs.toArray.size : Int)).toNat else min y.toNat vs.toArray.size) = k := by
    rw [hy, if_neg (by omega), List.size_toArray, Int.toNat_natCast]; omega
  have key : ∀ f : Array Value → Array Value, f vs.toArray = (vs.take k ++ v :: vs.drop k).toArray → Q .none { s with heap := s.heap.update l (Obj.mapSeq f) } := by
    intro f hf
    have o := news_put F N hm (h' := s.heap.update l (Obj.mapSeq f)) (o' := listOf (vs.take k ++ v :: vs.drop k).toArray (ep + 1)) (Heap.SameBut.update ..) (by
      rw [Heap.get?_update_self _ z (by rfl)]
      show some (listOf (f vs.toArray) (if (f vs.toArray).size == vs.toArray.size then ep else ep + 1)) = _
      rw [hf]
      rw [if_neg (by simp; omega)])
    exact h _ o.1 o.2
  refine call_meets PySem.F.slot_list_insert ⟨_, z, rfl⟩ PySem.F.entry_list_insert (PySem.F.args_list_insert_3 _ _ _) (PySem.AutoSeq1.list_insert_list_int_val_1 l vs.toArray ep y u v (by rw [hy, fitsIdx k (by omega)]; exact Bool.false_ne_true) (by rw [List.size_toArray, sizeLine_eq]; omega)) ⟨z, key _ ?_⟩
  show (vs.toArray.extract 0 (if y < 0 then (y + (vs.toArray.size : Int)).toNat else min y.toNat vs.toArray.size)).push v ++ vs.toArray.extract (if y < 0 then (y + (vs.toArray.size : Int)).toNat else min y.toNat vs.toArray.size) = _
  rw [e, kl_ins_eq]
theorem insort_says {prog : Program} {w : World} {l : Addr} {vs : List Value} {ns : List Int} {ep : Nat} {news : List (Addr × Obj)} {x : Int} {t : Tok} (hlst : (l, listOf vs.toArray ep) ∈ news) (hi : IntsAre vs ns) (hs : ns.Pairwise (· ≤ ·)) (hz : ns.length < 1000) :
    Says prog w (.ref 184) [.ref l, .int x t] [] news 8 (fun v n => v = .none ∧ ∃ vs' ep', IntsAre vs' (insNs ns x) ∧ n = putN news l (listOf vs'.toArray ep')) := by
  intro p loose mean mg mb dp un gd cn cs a ccd cl outer A₀ base h₀ L m s Q E B F X N T hk hdp hun hret
  refine wpAny_call ?_
  walk_at "ENTER"
  iterate 24 walk_at "S"
  k_dflt (refine Says.use (bis4_says hlst hi hs hz) (by k_asm) (by k_asm) (by k_asm) (by k_asm) (by k_asm) (by first | exact rfl | assumption) (by walk_at "ROOM") (by walk_at "ROOM") ?_)
  rintro _ _ h1 tk1 F1 N1 ⟨⟨t', rfl⟩, rfl⟩
  dsimp only
  iterate 14 walk_at "S"
  (rename Fr _ _ _ _ => F4); (rename News _ _ _ _ => N4)
  have hku : upTo ns x ≤ vs.length := by rw [IntsAre.length hi]; exact List.countP_le_length
  k_dflt (refine insert_put rfl F4 N4 hlst (by rw [IntsAre.length hi]; omega) hku (fun h5 F5 N5 => ?_))
  iterate 3 walk_at "S"
  try walk_at "S"
  exact hret _ _ _ _ (by assumption) (by assumption) ⟨rfl, _, _, intsAre_append (IntsAre.take_ hi _) (.cons _ _ (IntsAre.drop_ hi _)), rfl⟩
theorem insNs_perm (ns : List Int) (x : Int) : (insNs ns x).Perm (x :: ns) := by
  unfold insNs
  refine List.perm_middle.trans ?_
  rw [List.take_append_drop]
theorem sorted_upTo {x : Int} : ∀ {ns : List Int}, ns.Pairwise (· ≤ ·) → (∀ n ∈ ns.take (upTo ns x), n ≤ x) ∧ (∀ n ∈ ns.drop (upTo ns x), x < n)
  | [], _ => by simp
  | n :: r, h => by
    have hr := List.Pairwise.of_cons h
    have h1 : ∀ {k}, k ∈ r → n ≤ k := fun hk => List.rel_of_pairwise_cons h hk
    obtain ⟨i1, i2⟩ := sorted_upTo (x := x) hr
    by_cases e : n ≤ x
    · have : upTo (n :: r) x = upTo r x + 1 := by unfold upTo; rw [List.countP_cons_of_pos (by simpa using e)]
      rw [this, List.take_succ_cons, List.drop_succ_cons]
      refine ⟨fun k hk => ?_, i2⟩
      rcases List.mem_cons.mp hk with rfl | hk
      · exact e
      · exact i1 k hk
    · have h0 : upTo (n :: r) x = 0 := by
        unfold upTo
        rw [List.countP_eq_zero]
        intro k hk
        rcases List.mem_cons.mp hk with rfl | hk
        · simpa using e
        · have := h1 hk
          simp; omega
      rw [h0]
      refine ⟨fun k hk => by simp at hk, fun k hk => ?_⟩
      rw [List.drop_zero] at hk
      rcases List.mem_cons.mp hk with rfl | hk
      · omega
      · have := h1 hk
        omega
theorem insNs_sorted {ns : List Int} (x : Int) (h : ns.Pairwise (· ≤ ·)) : (insNs ns x).Pairwise (· ≤ ·) := by
  obtain ⟨h1, h2⟩ := sorted_upTo (x := x) h
  unfold insNs
  rw [List.pairwise_append, List.pairwise_cons]
  refine ⟨h.sublist (List.take_sublist _ _), ⟨fun k hk => Int.le_of_lt (h2 k hk), h.sublist (List.drop_sublist _ _)⟩, fun a ha b hb => ?_⟩
  rcases List.mem_cons.mp hb with rfl | hb
  · exact h1 a ha
  · exact Int.le_trans (h1 a ha) (Int.le_of_lt (h2 b hb))

theorem off12 : FillK := by w_top off; rfl
/-- a for over the signs of a text, by what holds of the rest -/
def SEnd (h₀ : Heap) (L : Addr) (s₁ : Shared) (I : Addr) (it : Obj) (J : (Str → Option Value) → List (Addr × Obj) → Prop) (Q : Flow → Shared → Prop) (f : Flow) (s₂ : Shared) : Prop := UnrPost h₀ L s₁ I it J Q f s₂
theorem SEnd.next {h₀ : Heap} {L : Addr} {s₁ : Shared} {I : Addr} {it : Obj} {J : (Str → Option Value) → List (Addr × Obj) → Prop} {Q : Flow → Shared → Prop} {h' : Heap} {tk : Nat} {m' : Str → Option Value} {news' all : List (Addr × Obj)}
    (F : Fr h₀ L h' m') (N : News h₀ L h' all) (hs : ∀ p ∈ (I, it) :: news', p ∈ all) (off : ∀ p ∈ news', p.1 ≠ I) (hj : J m' news') : SEnd h₀ L s₁ I it J Q .next { s₁ with heap := h', toks := tk } :=
  ⟨h', tk, m', news', rfl, F, fun p hp => N p (hs p hp), off, hj⟩
theorem loop_str {prog : Program} {w : World} {A : Around} {E : Value → Shared → Prop} {s : Shared} {env : Env} {h₀ : Heap} {x : Str} {body : List Stmt} {Q : Flow → Shared → Prop} {tx : Str} {t : Tok} {l : List Str} {m₀ : Str → Option Value} {news : List (Addr × Obj)}
    (J : List Str → (Str → Option Value) → List (Addr × Obj) → Prop) (hh : A.handled = none) (F : Fr h₀ env.locals s.heap m₀) (N : News h₀ env.locals s.heap news) (hx : tx.cps.toList.map (fun c => (⟨#[c]⟩ : Str)) = l) (hj : J l m₀ news)
    (turn : ∀ c r m news I it h tk u, J (c :: r) m news → Fr h₀ env.locals h (fun y => if y = x then some (.str c u) else m y) → News h₀ env.locals h ((I, it) :: news) → (∀ p ∈ news, p.1 ≠ I) →
      wpAny (model prog w) A (execs body env) (SEnd h₀ env.locals { s with heap := h, toks := tk } I it (fun m n => J r m n ∧ ∀ p ∈ n, p.1 ≠ I) Q) E { s with heap := h, toks := tk })
    (done : ∀ m news h tk, J [] m news → Fr h₀ env.locals h m → News h₀ env.locals h news → Q .next { s with heap := h, toks := tk }) :
    wpAny (model prog w) A (pyIter (.str tx t)) (fun it s₂ => LoopAtV prog w A h₀ env x body Q E it s₂) E s := by
  refine iter_strUnr hh F N hx fun I hI => ?_
  have key : ∀ (r : List Str) (m : Str → Option Value) (nw : List (Addr × Obj)), J r m nw → (∀ p ∈ nw, p.1 ≠ I) → StrRest prog w A E h₀ env x body Q s I r m nw := by
    intro r
    induction r with
    | nil => intro m nw hj _; exact fun h tk F' N' => done m nw h tk hj F' N'
    | cons c r ih =>
      intro m nw hj hoff u it h tk F' N'
      refine wpAny_mono (turn c r m nw I it h tk u hj F' N' hoff) (fun fl s₃ h₃ => ?_) fun _ _ e => e
      have up : UnrEnd h₀ env.locals { s with heap := h, toks := tk } I it (fun m n => J r m n ∧ ∀ p ∈ n, p.1 ≠ I) s₃ → UnrEnd h₀ env.locals { s with heap := h, toks := tk } I it (StrRest prog w A E h₀ env x body Q s I r) s₃ := by
        rintro ⟨h', tk', m', news', e, F₂, N₂, off₂, hj₂, hj3⟩
        exact ⟨h', tk', m', news', e, F₂, N₂, off₂, ih m' news' hj₂ hj3⟩
      cases fl with
      | ret v => exact h₃
      | brk => exact h₃
      | next => exact up h₃
      | cont => exact up h₃
  exact key l m₀ news hj fun p hp => Nat.ne_of_lt (hI p hp)
theorem loop_strB {prog : Program} {w : World} {A : Around} {E : Value → Shared → Prop} {s : Shared} {env : Env} {h₀ : Heap} {x : Str} {body : List Stmt} {Q : Flow → Shared → Prop} {tx : Str} {t : Tok} {l : List Str} {m₀ : Str → Option Value} {base : List (Addr × Obj)} {c0 : Addr} {o0 : Obj}
    (Jb : List (Addr × Obj) → List Str → (Str → Option Value) → List (Addr × Obj) → Prop) (hh : A.handled = none) (F : Fr h₀ env.locals s.heap m₀) (N : News h₀ env.locals s.heap ((c0, o0) :: base)) (hx : tx.cps.toList.map (fun c => (⟨#[c]⟩ : Str)) = l) (hj : Jb base l m₀ ((c0, o0) :: base))
    (turn : ∀ c r m news I it h tk u, Jb base (c :: r) m news → Fr h₀ env.locals h (fun y => if y = x then some (.str c u) else m y) → News h₀ env.locals h ((I, it) :: news) → (∀ p ∈ news, p.1 ≠ I) →
      wpAny (model prog w) A (execs body env) (SEnd h₀ env.locals { s with heap := h, toks := tk } I it (fun m n => Jb base r m n ∧ ∀ p ∈ n, p.1 ≠ I) Q) E { s with heap := h, toks := tk })
    (done : ∀ m news h tk, Jb base [] m news → Fr h₀ env.locals h m → News h₀ env.locals h news → Q .next { s with heap := h, toks := tk }) :
    wpAny (model prog w) A (pyIter (.str tx t)) (fun it s₂ => LoopAtV prog w A h₀ env x body Q E it s₂) E s := loop_str (Jb base) hh F N hx hj turn done
def cntOf (A : Nat) : List Int := List.replicate A 0 ++ [1]
def WsPh (A t B : Nat) (cnt : List Int) (nt n i : Nat) (r : List Str) : Prop :=
  (cnt = [] ∧ nt = 0 ∧ n = i ∧ i ≤ A ∧ r = List.replicate (A - i) (Str.ofString " ") ++ (List.replicate t (Str.ofString "\t") ++ List.replicate B (Str.ofString " "))) ∨
  (t = 1 ∧ cnt = cntOf A ∧ nt = 1 ∧ n = A + 1 + i ∧ i ≤ B ∧ r = List.replicate (B - i) (Str.ofString " "))
theorem WsPh.step {A t B : Nat} {cnt : List Int} {nt n i : Nat} {c : Str} {r : List Str} (ht : t < 2) (h0 : t = 0 → B = 0) (h : WsPh A t B cnt nt n i (c :: r)) :
    (c = Str.ofString " " ∧ WsPh A t B cnt nt (n + 1) (i + 1) r) ∨ (c = Str.ofString "\t" ∧ cnt = [] ∧ nt = 0 ∧ n = A ∧ i = A ∧ t = 1 ∧ WsPh A t B (cntOf A) 1 (A + 1) 0 r) := by
  rcases h with ⟨rfl, rfl, rfl, hi, e⟩ | ⟨rfl, rfl, rfl, rfl, hi, e⟩
  · by_cases hA : n = A
    · rw [hA, Nat.sub_self, List.replicate_zero, List.nil_append] at e
      have : t = 0 ∨ t = 1 := by omega
      rcases this with rfl | rfl
      · rw [h0 rfl] at e; cases e
      · cases e
        exact .inr ⟨rfl, rfl, rfl, hA, hA, rfl, .inr ⟨rfl, rfl, rfl, rfl, Nat.zero_le _, rfl⟩⟩
    · have e2 : A - n = (A - (n + 1)) + 1 := by omega
      rw [e2, List.replicate_succ] at e
      cases e
      exact .inl ⟨rfl, .inl ⟨rfl, rfl, rfl, by omega, rfl⟩⟩
  · by_cases hB : i = B
    · rw [hB, Nat.sub_self, List.replicate_zero] at e; cases e
    · have e2 : B - i = (B - (i + 1)) + 1 := by omega
      rw [e2, List.replicate_succ] at e
      cases e
      exact .inl ⟨rfl, .inr ⟨rfl, rfl, rfl, by omega, by omega, rfl⟩⟩
theorem WsPh.fin {A t B : Nat} {cnt : List Int} {nt n i : Nat} (ht : t < 2) (h0 : t = 0 → B = 0) (h : WsPh A t B cnt nt n i []) :
    (t = 0 ∧ cnt = [] ∧ nt = 0 ∧ n = A ∧ i = A) ∨ (t = 1 ∧ cnt = cntOf A ∧ nt = 1 ∧ n = A + 1 + B ∧ i = B) := by
  rcases h with ⟨rfl, rfl, rfl, hi, e⟩ | ⟨rfl, rfl, rfl, rfl, hi, e⟩
  · have e := congrArg List.length e
    simp at e
    exact .inl ⟨by omega, rfl, rfl, by omega, by omega⟩
  · have e := congrArg List.length e
    simp at e
    exact .inr ⟨rfl, rfl, rfl, by omega, by omega⟩
theorem lead_signs (A t B : Nat) : (leadT A t B).cps.toList.map (fun c => (⟨#[c]⟩ : Str)) = List.replicate A (Str.ofString " ") ++ (List.replicate t (Str.ofString "\t") ++ List.replicate B (Str.ofString " ")) := by
  have e1 : (⟨#[32]⟩ : Str) = Str.ofString " " := by decide +kernel
  have e2 : (⟨#[9]⟩ : Str) = Str.ofString "\t" := by decide +kernel
  simp [leadT, e1, e2]
def WsJ (base : List (Addr × Obj)) (x : Addr) (A t B : Nat) (r : List Str) (m : Str → Option Value) (nw : List (Addr × Obj)) : Prop :=
  ∃ (c : Addr) (e : Nat) (vs : List Value) (t1 t2 t3 t4 t5 : Tok) (i n nt : Nat) (cnt : List Int), nw = (c, listOf vs.toArray e) :: base ∧ IntsAre vs cnt ∧ m (Str.ofString "self") = some (.ref x) ∧ m (Str.ofString "S") = some (.str (Str.ofString " ") t4) ∧ m (Str.ofString "T") = some (.str (Str.ofString "\t") t5) ∧
    m (Str.ofString "count") = some (.ref c) ∧ m (Str.ofString "b") = some (.int (i : Int) t1) ∧ m (Str.ofString "n") = some (.int (n : Int) t2) ∧ m (Str.ofString "nt") = some (.int (nt : Int) t3) ∧ WsPh A t B cnt nt n i r
theorem news_drop2 {h₀ h : Heap} {L : Addr} {a b : Addr × Obj} {r : List (Addr × Obj)} (N : News h₀ L h (a :: b :: r)) : News h₀ L h (a :: r) := fun p hp => N p (by
  rcases List.mem_cons.mp hp with rfl | hp
  · simp
  · simp [hp])
theorem ws_tab_end {h₀ h' : Heap} {L : Addr} {s₁ : Shared} {I x D c3 : Addr} {it o3 : Obj} {Q : Flow → Shared → Prop} {m' : Str → Option Value} {base : List (Addr × Obj)} {g1 g2 : Addr × Obj} {vs : List Value} {A Z : Nat} {tk : Nat} {t1 t2 t3 t4 t5 : Tok} {r : List Str}
    (F : Fr h₀ L h' m') (N : News h₀ L h' ((D, listOf vs.toArray 0) :: g1 :: g2 :: (I, it) :: (c3, o3) :: base)) (hDI : I < D) (off : ∀ p ∈ (c3, o3) :: base, p.1 ≠ I) (hi : IntsAre vs (cntOf A))
    (ms : m' (Str.ofString "self") = some (.ref x)) (mS : m' (Str.ofString "S") = some (.str (Str.ofString " ") t4)) (mT : m' (Str.ofString "T") = some (.str (Str.ofString "\t") t5))
    (mc : m' (Str.ofString "count") = some (.ref D)) (mb : m' (Str.ofString "b") = some (.int ((0 : Nat) : Int) t1)) (mn : m' (Str.ofString "n") = some (.int ((A + 1 : Nat) : Int) t2)) (mnt : m' (Str.ofString "nt") = some (.int ((1 : Nat) : Int) t3)) (ph : WsPh A 1 Z (cntOf A) 1 (A + 1) 0 r) :
    SEnd h₀ L s₁ I it (fun m n => WsJ base x A 1 Z r m n ∧ ∀ p ∈ n, p.1 ≠ I) Q .next { s₁ with heap := h', toks := tk } := by
  refine SEnd.next F N (news' := (D, listOf vs.toArray 0) :: base) ?_ ?_ ⟨⟨D, 0, vs, t1, t2, t3, t4, t5, 0, A + 1, 1, cntOf A, rfl, hi, ms, mS, mT, mc, mb, mn, mnt, ph⟩, ?_⟩
  · intro p hp
    rcases List.mem_cons.mp hp with rfl | hp
    · simp
    rcases List.mem_cons.mp hp with rfl | hp
    · simp
    · simp [hp]
  all_goals
    intro p hp
    rcases List.mem_cons.mp hp with rfl | hp
    · exact Nat.ne_of_gt hDI
    · exact off p (List.mem_cons_of_mem _ hp)
/-- a made Whitespace -/
def Ws (news : List (Addr × Obj)) (x : Addr) (cnt : List Int) (b nt : Nat) : Prop :=
  ∃ (dx : Addr) (e : Nat) (D Tc : Addr) (vs : List Value) (h1 h2 h3 h4 h5 : _) (k1 k2 k3 k4 k5 t t' : Tok) (v1 v2 v5 : Value), (x, instObj 255 dx) ∈ news ∧
    (dx, dictOf [⟨h1, .str (Str.ofString "raw") k1, v1⟩, ⟨h2, .str (Str.ofString "n") k2, v2⟩, ⟨h3, .str (Str.ofString "nt") k3, .int (nt : Int) t⟩, ⟨h4, .str (Str.ofString "norm") k4, .ref D⟩, ⟨h5, .str (Str.ofString "is_simple") k5, v5⟩] e) ∈ news ∧
    (D, tupO (.ref Tc) (.int (b : Int) t')) ∈ news ∧ (Tc, ({ cls := .type "tuple", data := .seq vs.toArray } : Obj)) ∈ news ∧ IntsAre vs cnt
theorem ws_says {prog : Program} {w : World} {news : List (Addr × Obj)} {A t Z : Nat} {tk : Tok} (hA : A < 6) (ht : t < 2) (h0 : t = 0 → Z = 0) (hA3 : t = 1 → A < 3) (hZ : Z < 4) :
    Says prog w (.ref 255) [.str (leadT A t Z) tk] [] news 8 (fun v n => ∃ x, v = .ref x ∧ Ws n x (if t = 1 then cntOf A else []) (if t = 1 then Z else A) t ∧ ∀ p ∈ news, p ∈ n) := by
  intro p loose mean mg mb dp un gd cn cs ad ccd cl outer A₀ base h₀ L m s Q E B F X N T hk hdp hun hret
  k_dflt (refine call_cls F X N (by k_is) (by k_is) (by k_is) ?_)
  intro x dx h1 F1 N1 l1 l2
  have l3 : ∀ p ∈ news, p.1 ≠ dx := fun p hp => Nat.ne_of_lt (l1 p hp)
  walk_at "ENTER"
  iterate 5 walk_at "S"
  (rename Fr _ _ _ _ => F2); (rename News _ _ _ _ => N2)
  k_dflt (refine set_dict F2 (by k_asm) N2 (InstAt.of_news N2 (by k_mem) (by k_mem)) rfl (by k_is) (by k_is) (by k_is) (by k_is) (by k_get) (by k_put) (Upd.tail (Nat.ne_of_gt l2) (Upd.head l3)) (Nat.le_of_ble_eq_true rfl) ?_)
  intro h3 F3 N3
  dsimp only
  clear F2 N2
  iterate 43 walk_at "S"
  (first | with_reducible show wpAny _ _ (pyIter _) _ _ _ | walk_at "S")
  (rename Fr _ _ _ _ => F4); (rename News _ _ _ _ => N4)
  k_dflt (refine loop_strB (fun base => WsJ base x A t Z) rfl F4 N4 (lead_signs A t Z) ?_ ?_ ?_)
  · refine ⟨_, _, [], _, _, _, _, _, 0, 0, 0, [], rfl, .nil, rfl, rfl, rfl, rfl, rfl, rfl, rfl, .inl ⟨rfl, rfl, rfl, Nat.zero_le _, rfl⟩⟩
  · rintro c r m n I it h tk u ⟨c0, e, vs, t1, t2, t3, t4, t5, i, n, nt, cnt, rfl, hi, ms, mS, mT, mc, mb_, mn, mnt, ph⟩ F9 N9 off9
    clear F4 N4
    (try dsimp only [envOf] at F9 N9)
    have ph2 := ph.step ht h0
    clear ph
    rcases ph2 with ⟨rfl, ph⟩ | ⟨rfl, rfl, rfl, rfl, rfl, rfl, ph⟩
    · iterate 24 walk_at "S"
      (rename Fr _ _ _ _ => F8); (rename News _ _ _ _ => N8)
      k_dflt (refine SEnd.next F8 N8 (fun p hp => hp) off9 ⟨⟨c0, e, vs, _, _, _, t4, t5, i + 1, n + 1, nt, cnt, rfl, hi, ms, mS, mT, mc, rfl, rfl, mnt, ph⟩, off9⟩)
    · cases hi
      iterate 46 walk_at "S"
      have hA9 : i = 0 ∨ i = 1 ∨ i = 2 := by have := hA3 rfl; omega
      rcases hA9 with rfl | rfl | rfl
      · iterate 46 walk_at "S"
        (rename Fr _ _ _ _ => F8); (rename News _ _ _ _ => N8); (rename _ < _ ∧ _ < _ ∧ I < _ ∧ _ => l9)
        k_dflt (exact ws_tab_end F8 N8 l9.2.2.1 off9 (.cons _ _ .nil) ms mS mT rfl rfl rfl rfl ph)
      · iterate 46 walk_at "S"
        (rename Fr _ _ _ _ => F8); (rename News _ _ _ _ => N8); (rename _ < _ ∧ _ < _ ∧ I < _ ∧ _ => l9)
        k_dflt (exact ws_tab_end F8 N8 l9.2.2.1 off9 (.cons _ _ (.cons _ _ .nil)) ms mS mT rfl rfl rfl rfl ph)
      · iterate 46 walk_at "S"
        (rename Fr _ _ _ _ => F8); (rename News _ _ _ _ => N8); (rename _ < _ ∧ _ < _ ∧ I < _ ∧ _ => l9)
        k_dflt (exact ws_tab_end F8 N8 l9.2.2.1 off9 (.cons _ _ (.cons _ _ (.cons _ _ .nil))) ms mS mT rfl rfl rfl rfl ph)
  · rintro m n h tk ⟨c0, e, vs, t1, t2, t3, t4, t5, i, n, nt, cnt, rfl, hi, ms, mS, mT, mc, mb_, mn, mnt, ph⟩ F9 N9
    clear F4 N4
    (try dsimp only [envOf] at F9 N9)
    iterate 4 walk_at "S"
    (rename Fr _ _ _ _ => F5); (rename News _ _ _ _ => N5)
    have hcd : c0 ≠ dx := ne_of_cls N5 (by k_mem) (by k_mem) (by intro e; exact absurd (Value.type.inj e) (by decide))
    have N6 := news_drop2 N5
    clear N5
    k_dflt (refine set_dict F5 (by k_asm) N6 (InstAt.of_news N6 (by k_mem) (by k_mem)) rfl (by k_is) (by k_is) (by k_is) (by k_is) (by k_get) (by k_put) (Upd.tail hcd (Upd.tail (Nat.ne_of_gt l2) (Upd.head l3))) (Nat.le_of_ble_eq_true rfl) ?_)
    intro h6 F6 N7
    dsimp only
    clear F5 N6
    iterate 5 walk_at "S"
    (rename Fr _ _ _ _ => F5); (rename News _ _ _ _ => N5)
    k_dflt (refine set_dict F5 (by k_asm) N5 (InstAt.of_news N5 (by k_mem) (by k_mem)) rfl (by k_is) (by k_is) (by k_is) (by k_is) (by k_get) (by k_put) (Upd.tail hcd (Upd.tail (Nat.ne_of_gt l2) (Upd.head l3))) (Nat.le_of_ble_eq_true rfl) ?_)
    intro h7 F7 N8
    dsimp only
    clear F5 N5
    iterate 11 walk_at "S"
    (rename Fr _ _ _ _ => F5); (rename News _ _ _ _ => N5)
    have hcl : vs.length ≤ 7 := by
      rw [IntsAre.length hi]
      rcases ph.fin ht h0 with ⟨_, rfl, _⟩ | ⟨_, rfl, _⟩
      · simp
      · simp [cntOf]; omega
    k_dflt (refine kde_tupleOf F5 N5 (News.isList N5 (by k_mem)) (by rw [List.size_toArray]; omega) rfl ?_)
    intro Tc h8 F8 N9 l8
    dsimp only
    clear F5 N5
    have hTd : Tc ≠ dx := Nat.ne_of_gt (l8 (dx, _) (List.mem_cons_of_mem _ (List.mem_cons_of_mem _ List.mem_cons_self)))
    iterate 5 walk_at "S"
    (rename Fr _ _ _ _ => F5); (rename News _ _ _ _ => N5); (rename Tc < _ ∧ _ < _ ∧ _ < _ ∧ _ => l9)
    have hDd := Nat.ne_of_gt l9.2.2.2.1
    k_dflt (refine set_dict F5 (by k_asm) N5 (InstAt.of_news N5 (by k_mem) (by k_mem)) rfl (by k_is) (by k_is) (by k_is) (by k_is) (by k_get) (by k_put) (Upd.tail hDd (Upd.tail hTd (Upd.tail hcd (Upd.tail (Nat.ne_of_gt l2) (Upd.head l3))))) (Nat.le_of_ble_eq_true rfl) ?_)
    intro h9 F9 N10
    dsimp only
    clear F5 N5
    iterate 10 walk_at "S"
    (rename Fr _ _ _ _ => F5); (rename News _ _ _ _ => N5)
    k_dflt (refine call_len_list (items := vs.toArray) ?_ ?_ ?_)
    · exact News.isList N5 (by k_mem)
    · rw [List.size_toArray]; omega
    dsimp only
    rw [List.size_toArray]
    iterate 2 walk_at "S"
    iterate 1 walk_at "S"
    (rename Fr _ _ _ _ => F11); (rename News _ _ _ _ => N11)
    k_dflt (refine set_dict F11 (by k_asm) N11 (InstAt.of_news N11 (by k_mem) (by k_mem)) rfl (by k_is) (by k_is) (by k_is) (by k_is) (by k_get) (by k_put) (Upd.tail hDd (Upd.tail hTd (Upd.tail hcd (Upd.tail (Nat.ne_of_gt l2) (Upd.head l3))))) (Nat.le_of_ble_eq_true rfl) ?_)
    intro h10 F10 N12
    dsimp only
    clear F11 N11
    iterate 4 walk_at "S"
    refine hret _ _ _ _ (by assumption) (by assumption) ?_
    refine ⟨x, rfl, ?_, fun p hp => by simp [hp]⟩
    have hcnt : cnt = (if t = 1 then cntOf A else []) ∧ nt = t ∧ i = if t = 1 then Z else A := by
      rcases ph.fin ht h0 with ⟨rfl, rfl, rfl, rfl, rfl⟩ | ⟨rfl, rfl, rfl, rfl, rfl⟩
      · exact ⟨rfl, rfl, rfl⟩
      · exact ⟨rfl, rfl, rfl⟩
    obtain ⟨hcnt, rfl, rfl⟩ := hcnt
    rw [hcnt] at hi
    exact ⟨_, _, _, _, _, _, _, _, _, _, _, _, _, _, _, _, _, _, _, _, by walk_at "MEM", by walk_at "MEM", by walk_at "MEM", by walk_at "MEM", hi⟩

theorem off13 : FillK := by w_top off; rfl
/-- the column that a lead ends at -/
def colW (A t Z size : Nat) : Nat := if t = 1 then Z + size * (A / size + 1) else A
theorem fitsLong_of {a : Int} (h : -1000 ≤ a ∧ a ≤ 1000) : Builtin.Range.rangeFitsLong a = true := by
  unfold Builtin.Range.rangeFitsLong
  simp
  omega
theorem small_of {a b : Int} (ha : -100 ≤ a ∧ a ≤ 100) (hb : -100 ≤ b ∧ b ≤ 100) : Builtin.Range.small a b 1 = true := by
  have hr : Builtin.Range.rangeFitsLong (Builtin.Range.rangeSize a b 1) = true := by
    rw [rangeSize_one]
    exact fitsLong_of (by split <;> omega)
  unfold Builtin.Range.small
  rw [fitsLong_of (a := a) (by omega), fitsLong_of (a := b) (by omega), fitsLong_of (a := 1) (by omega), hr, if_pos (by decide), fitsLong_of (a := b + (1 - 1)) (by omega)]
  simp
theorem size_of_ (a b : Nat) : Builtin.Range.rangeSize (a : Int) (b : Int) 1 = ((b - a : Nat) : Int) := by rw [rangeSize_one]; split <;> omega
theorem loop_range {prog : Program} {w : World} {A : Around} {E : Value → Shared → Prop} {s : Shared} {env : Env} {h₀ : Heap} {x : Str} {body : List Stmt} {Q : Flow → Shared → Prop} {r : Addr} {a₀ b₀ : Int} {t₀ u₀ v₀ : Tok} {n : Nat} {m₀ : Str → Option Value} {news : List (Addr × Obj)}
    (J : Nat → (Str → Option Value) → List (Addr × Obj) → Prop) (hh : A.handled = none) (hr : IsRange s.heap r a₀ b₀ 1 t₀ u₀ v₀) (hsmall : Builtin.Range.small a₀ b₀ 1 = true) (hn : Builtin.Range.rangeSize a₀ b₀ 1 = (n : Int)) (F : Fr h₀ env.locals s.heap m₀) (N : News h₀ env.locals s.heap news) (hj : J 0 m₀ news)
    (turn : ∀ i m news I it h tk u, i < n → J i m news → Fr h₀ env.locals h (fun y => if y = x then some (.int (a₀ + (i : Int)) u) else m y) → News h₀ env.locals h ((I, it) :: news) → (∀ p ∈ news, p.1 ≠ I) →
      wpAny (model prog w) A (execs body env) (SEnd h₀ env.locals { s with heap := h, toks := tk } I it (fun m n => J (i + 1) m n ∧ ∀ p ∈ n, p.1 ≠ I) Q) E { s with heap := h, toks := tk })
    (done : ∀ m news h tk, J n m news → Fr h₀ env.locals h m → News h₀ env.locals h news → Q .next { s with heap := h, toks := tk }) :
    wpAny (model prog w) A (pyIter (.ref r)) (fun it s₂ => LoopAtV prog w A h₀ env x body Q E it s₂) E s := by
  refine iter_rangeUnr hh hr hsmall hn F N fun I hI => ?_
  have key : ∀ (k i : Nat) (m : Str → Option Value) (nw : List (Addr × Obj)), i + k = n → J i m nw → (∀ p ∈ nw, p.1 ≠ I) → RangeRest prog w A E h₀ env x body Q s I a₀ n k i m nw := by
    intro k
    induction k with
    | zero =>
      intro i m nw hik hj _ h tk F' N'
      have e : i = n := by omega
      subst e
      exact done m nw h tk hj F' N'
    | succ k ih =>
      intro i m nw hik hj hoff u h tk F' N'
      refine wpAny_mono (turn i m nw I _ h tk u (by omega) hj F' N' hoff) (fun fl s₃ h₃ => ?_) fun _ _ e => e
      have up : UnrEnd h₀ env.locals { s with heap := h, toks := tk } I (itR (a₀ + ((i + 1 : Nat) : Int)) ((n : Int) - ((i + 1 : Nat) : Int))) (fun m n => J (i + 1) m n ∧ ∀ p ∈ n, p.1 ≠ I) s₃ → UnrEnd h₀ env.locals { s with heap := h, toks := tk } I (itR (a₀ + ((i + 1 : Nat) : Int)) ((n : Int) - ((i + 1 : Nat) : Int))) (RangeRest prog w A E h₀ env x body Q s I a₀ n k (i + 1)) s₃ := by
        rintro ⟨h', tk', m', news', e, F₂, N₂, off₂, hj₂, hj3⟩
        exact ⟨h', tk', m', news', e, F₂, N₂, off₂, ih (i + 1) m' news' (by omega) hj₂ hj3⟩
      cases fl with
      | ret v => exact h₃
      | brk => exact h₃
      | next => exact up h₃
      | cont => exact up h₃
  exact key n 0 m₀ news (by omega) hj fun p hp => Nat.ne_of_lt (hI p hp)
theorem indent_says {prog : Program} {w : World} {news : List (Addr × Obj)} {A t Z size : Nat} {x : Addr} {tk : Tok} (hws : Ws news x (if t = 1 then cntOf A else []) (if t = 1 then Z else A) t) (hA : A < 6) (ht : t < 2) (hA3 : t = 1 → A < 3) (h2 : 2 ≤ size) (h5 : size ≤ 5) :
    Says prog w (.ref 224) [.ref x, .int (size : Int) tk] [] news 4 (fun v n => (∃ t', v = .int (colW A t Z size) t') ∧ news = n) := by
  intro p loose mean mg mb dp un gd cn cs ad ccd cl outer A₀ base h₀ L m s Q E B F X N T hk hdp hun hret
  obtain ⟨dx, e, D, Tc, vs, q1, q2, q3, q4, q5, k1, k2, k3, k4, k5, t1, t2, v1, v2, v5, hinst, hdict, hD, hT, hi⟩ := hws
  refine wpAny_call ?_
  walk_at "ENTER"
  iterate 32 walk_at "S"
  (rename Fr _ _ _ _ => F1); (rename News _ _ _ _ => N1)
  have hvl := IntsAre.length hi
  have hcl : (if t = 1 then cntOf A else []).length ≤ 7 := by
    split
    · simp [cntOf]; omega
    · simp
  k_dflt (refine kun_lenT (items := vs.toArray) (k := ((if t = 1 then cntOf A else []).length : Nat)) ?_ ?_ ?_ ?_)
  · exact News.isTup N1 hT
  · rw [List.size_toArray, hvl]
  · omega
  dsimp only
  iterate 2 walk_at "S"
  (rename Fr _ _ _ _ => F2); (rename News _ _ _ _ => N2); (rename IsRange _ _ _ _ _ _ _ _ => R2)
  have hcases : (size < (if t = 1 then cntOf A else []).length ∧ t = 1 ∧ A = 2 ∧ size = 2) ∨ (if t = 1 then cntOf A else []).length ≤ size := by
    by_cases h : size < (if t = 1 then cntOf A else []).length
    · left
      refine ⟨h, ?_⟩
      split at h
      · rename_i h1
        simp [cntOf] at h
        have := hA3 h1
        exact ⟨h1, by omega, by omega⟩
      · simp at h
    · right; omega
  k_dflt (refine loop_range (fun i m n => news = n ∧ m (Str.ofString "count") = some (.ref Tc) ∧ m (Str.ofString "self") = some (.ref x) ∧ (∃ t', m (Str.ofString "trailing") = some (.int (if t = 1 then Z else A : Nat) t')) ∧ (∃ t', m (Str.ofString "tabsize") = some (.int (size : Int) t')) ∧ (∃ t', m (Str.ofString "il") = some (.int (i : Int) t')) ) (n := (if t = 1 then cntOf A else []).length - size) rfl R2 (small_of (by omega) (by omega)) (size_of_ _ _) F2 N2 ⟨rfl, rfl, rfl, ⟨_, rfl⟩, ⟨_, rfl⟩, ⟨_, rfl⟩⟩ ?_ ?_)
  · rintro i m n I it h tk u hin ⟨rfl, mc, ms, ⟨t3, mt⟩, ⟨t4, mz⟩, ⟨t5, ml⟩⟩ F9 N9 off9
    clear F2 N2 R2
    rcases hcases with ⟨_, rfl, rfl, rfl⟩ | hle
    · have hi0 : i = 0 := by simp [cntOf] at hin; omega
      subst hi0
      have hi3 : IntsAre vs [0, 0, 1] := hi
      clear hi
      rcases hi3 with _ | ⟨_, ta, hi3⟩
      rcases hi3 with _ | ⟨_, tb, hi3⟩
      rcases hi3 with _ | ⟨_, tc, hi3⟩
      cases hi3
      iterate 17 walk_at "S"
      (rename Fr _ _ _ _ => F8); (rename News _ _ _ _ => N8)
      k_dflt (refine SEnd.next F8 N8 (fun p hp => hp) off9 ⟨⟨rfl, mc, ms, ⟨_, mt⟩, ⟨_, mz⟩, ⟨_, rfl⟩⟩, off9⟩)
    · omega
  · rintro m n h tk ⟨rfl, mc, ms, ⟨t3, mt⟩, ⟨t4, mz⟩, ⟨t5, ml⟩⟩ F9 N9
    clear F2 N2 R2
    iterate 15 walk_at "S"
    refine hret _ _ _ _ (by assumption) (by assumption) ⟨⟨_, congrArg (fun z => Value.int z _) ?_⟩, rfl⟩
    rcases hcases with ⟨_, rfl, rfl, rfl⟩ | hle
    · simp [cntOf, colW]
    · rw [Nat.sub_eq_zero_of_le hle]
      unfold colW
      have : t = 0 ∨ t = 1 := by omega
      rcases this with rfl | rfl
      · simp
      · have hq : A / size = 0 := Nat.div_eq_of_lt (by simp [cntOf] at hle; omega)
        rw [hq]
        simp

theorem off14 : FillK := by w_top off; rfl
def colOf (size A nt i : Nat) : Nat := if nt = 1 then size * (A / size + 1) + i else i
theorem colOf_succ (size A nt i : Nat) : ((colOf size A nt i : Nat) : Int) + 1 = ((colOf size A nt (i + 1) : Nat) : Int) := by
  unfold colOf; split <;> omega
theorem colOf_tab (size A : Nat) : (((colOf size A 0 A : Nat) : Int).fdiv (size : Int) + 1) * (size : Int) = ((colOf size A 1 0 : Nat) : Int) := by
  rw [Int.fdiv_eq_ediv_of_nonneg _ (by omega)]
  simp [colOf, Int.mul_comm]
theorem column_says {prog : Program} {w : World} {news : List (Addr × Obj)} {A t Z size : Nat} {tk tk' : Tok} (hA : A < 6) (ht : t < 2) (h0 : t = 0 → Z = 0) (hZ : Z < 4) (h2 : 2 ≤ size) (h5 : size ≤ 5) :
    Says prog w (.ref 266) [.str (leadT A t Z) tk, .int (size : Int) tk'] [] news 3 (fun v n => (∃ t', v = .int (colW A t Z size) t') ∧ news = n) := by
  intro p loose mean mg mb dp un gd cn cs ad ccd cl outer A₀ base h₀ L m s Q E B F X N T hk hdp hun hret
  refine wpAny_call ?_
  walk_at "ENTER"
  iterate 6 walk_at "S"
  (rename Fr _ _ _ _ => lF')
  (with_unfolding_all refine For_invVF lF' (by exact rfl) (by exact rfl) ?_)
  iterate 1 walk_at "S"
  (rename News _ _ _ _ => N4)
  k_dflt (refine loop_str (fun r m nw => ∃ (nt i n : Nat) (cnt : List Int) (t1 t2 : Tok), news = nw ∧ m (Str.ofString "column") = some (.int (colOf size A nt i : Nat) t1) ∧ m (Str.ofString "size") = some (.int (size : Int) t2) ∧ WsPh A t Z cnt nt n i r) rfl lF' N4 (lead_signs A t Z) ?_ ?_ ?_)
  · refine ⟨0, 0, 0, [], _, _, rfl, rfl, rfl, .inl ⟨rfl, rfl, rfl, Nat.zero_le _, rfl⟩⟩
  · rintro c r m n I it h tk u ⟨nt, i, n, cnt, t1, t2, rfl, mc, mz, ph⟩ F9 N9 off9
    clear lF' N4
    (try dsimp only [envOf] at F9 N9)
    have ph2 := ph.step ht h0
    clear ph
    rcases ph2 with ⟨rfl, ph⟩ | ⟨rfl, rfl, rfl, rfl, rfl, rfl, ph⟩
    · iterate 15 walk_at "S"
      (rename Fr _ _ _ _ => F8); (rename News _ _ _ _ => N8)
      k_dflt (refine SEnd.next F8 N8 (fun p hp => hp) off9 ⟨⟨nt, i + 1, n + 1, cnt, _, t2, rfl, congrArg (fun z => some (Value.int z _)) (colOf_succ size A nt i), mz, ph⟩, off9⟩)
    · iterate 21 walk_at "S"
      (rename Fr _ _ _ _ => F8); (rename News _ _ _ _ => N8)
      k_dflt (refine SEnd.next F8 N8 (fun p hp => hp) off9 ⟨⟨1, 0, _, _, _, t2, rfl, congrArg (fun z => some (Value.int z _)) (colOf_tab size _), mz, ph⟩, off9⟩)
  · rintro m n h tk ⟨nt, i, n, cnt, t1, t2, rfl, mc, mz, ph⟩ F9 N9
    clear lF' N4
    (try dsimp only [envOf] at F9 N9)
    iterate 4 walk_at "S"
    refine hret _ _ _ _ (by assumption) (by assumption) ⟨⟨_, congrArg (fun z => Value.int z _) ?_⟩, rfl⟩
    rcases ph.fin ht h0 with ⟨rfl, rfl, rfl, rfl, rfl⟩ | ⟨rfl, rfl, rfl, rfl, rfl⟩
    · rfl
    · simp [colOf, colW]; omega

theorem off15 : FillK := by w_top off; rfl
theorem Tab.mono {news news' : List (Addr × Obj)} {x dx l : Addr} {cards : List Card} {ep : Nat} (h : Tab news x dx l cards ep) (sub : ∀ p ∈ news, p ∈ news') : Tab news' x dx l cards ep :=
  ⟨sub _ h.inst, (let ⟨a, b, c, d⟩ := h.dict; ⟨a, b, c, sub _ d⟩), sub _ h.lst, fun c hc => (let ⟨a, b, d⟩ := h.tups c hc; ⟨a, b, sub _ d⟩)⟩
theorem number_says {prog : Program} {w : World} {x dx l rw_ : Addr} {pre : List Card} {c : Card} {ep er : Nat} {news : List (Addr × Obj)} {vs : List Value} {ns : List Int} {A t Z size code : Nat} {tk : Tok}
    (tab : Tab news x dx l (pre ++ [c]) ep) (hsh : Short (pre ++ [c])) (hsz : (pre ++ [c]).length < 1000) (hnm : c.nm = sgn code) (hclean : clean nameCode (Txt.lower (sgn code)) = true)
    (hfound : ∃ c', found (pre ++ [c]) (Txt.lower (sgn code)) = some c' ∧ c'.ld = leadT A t Z)
    (hrow : (rw_, listOf vs.toArray er) ∈ news) (hi : IntsAre vs ns) (hs : ns.Pairwise (· ≤ ·)) (hz : ns.length < 1000)
    (hA : A < 6) (ht : t < 2) (h0 : t = 0 → Z = 0) (hA3 : t = 1 → A < 3) (hZ : Z < 4) (h2 : 2 ≤ size) (h5 : size ≤ 5) :
    Says prog w (.ref 273) [.ref x, .ref rw_, .int (size : Int) tk] [] news 20 (fun v n => (∃ t', v = .int (upTo ns ((colW A t Z size * 8 + code % 32 : Nat) : Int)) t') ∧ news = n) := by
  intro p loose mean mg mb dp un gd cn cs ad ccd cl outer A₀ base h₀ L m s Q E B F X N T hk hdp hun hret
  obtain ⟨th, tt, nd, hdict⟩ := tab.dict
  have hinst := tab.inst
  have hlst := tab.lst
  refine wpAny_call ?_
  walk_at "ENTER"
  iterate 8 walk_at "S"
  dsimp only
  k_dflt (refine Says.use (keys_says tab hsz) (by k_asm) (by k_asm) (by k_asm) (by k_asm) (by k_asm) (by first | exact rfl | assumption) (by walk_at "ROOM") (by walk_at "ROOM") ?_)
  rintro _ _ h1 tk1 F1 N1 ⟨Dk, ys, rfl, rfl, offk, hys⟩
  dsimp only
  have hyl : ys.length = pre.length + 1 := by rw [StrsAre.len_eq hys]; simp
  iterate 3 walk_at "S"
  obtain ⟨tn, hyn⟩ := StrsAre.at hys (j := pre.length) (y := c.nm) (by simp)
  k_dflt (refine kde_neg (vs := ys) (j := pre.length) (v := .str c.nm tn) ?_ (by decide) (by decide) ?_ hyn ?_)
  · exact News.isList N1 List.mem_cons_self
  · rw [hyl]; unfold seqIndex?; simp; omega
  rw [hnm]
  have tab2 := tab.mono (news' := (Dk, LCg.lst ys) :: news) (fun p hp => List.mem_cons_of_mem _ hp)
  iterate 25 walk_at "S"
  k_dflt (refine Says.use (get_says tab2 hsh hclean (by show 1 < 300; omega)) (by k_asm) (by k_asm) (by k_asm) (by k_asm) (by k_asm) (by first | exact rfl | assumption) (by walk_at "ROOM") (by walk_at "ROOM") ?_)
  rintro v2 _ h2_ tk2 F2 N2 ⟨hf, rfl⟩
  dsimp only
  obtain ⟨c', hf2, hld⟩ := hfound
  have hv2 : ∃ tv, v2 = .str (leadT A t Z) tv := by
    unfold FoundIs at hf
    rw [hf2] at hf
    obtain ⟨tv, hf⟩ := hf
    exact ⟨tv, by rw [hf, hld]⟩
  obtain ⟨tv, rfl⟩ := hv2
  iterate 2 walk_at "S"
  k_dflt (refine Says.use (ws_says hA ht h0 hA3 hZ) (by k_asm) (by k_asm) (by k_asm) (by k_asm) (by k_asm) (by first | exact rfl | assumption) (by walk_at "ROOM") (by walk_at "ROOM") ?_)
  rintro _ n3 h3 tk3 F3 N3 ⟨xw, rfl, hws, hsub⟩
  have hws0 := hws
  obtain ⟨dw, ew, Dw, Tw, vw, q1, q2, q3, q4, q5, k1, k2, k3, k4, k5, t1, t2, v1, v2, v5, winst, wdict, wD, wT, wi⟩ := hws
  dsimp only
  iterate 6 walk_at "S"
  k_dflt (refine Says.use (indent_says hws0 hA ht hA3 h2 h5) (by k_asm) (by k_asm) (by k_asm) (by k_asm) (by k_asm) (by first | exact rfl | assumption) (by walk_at "ROOM") (by walk_at "ROOM") ?_)
  rintro _ _ h4 tk4 F4 N4 ⟨⟨ti, rfl⟩, rfl⟩
  dsimp only
  iterate 10 walk_at "S"
  iterate 5 walk_at "S"
  k_dflt (refine Says.use (bis2_says (hsub _ (List.mem_cons_of_mem _ hrow)) hi hs hz) (by k_asm) (by k_asm) (by k_asm) (by k_asm) (by k_asm) (by first | exact rfl | assumption) (by walk_at "ROOM") (by walk_at "ROOM") ?_)
  rintro _ _ h5 tk5 F5 N5 ⟨⟨ti, rfl⟩, rfl⟩
  dsimp only
  iterate 2 walk_at "S"
  refine hret _ _ _ _ (by assumption) (cb_drop (by assumption) fun p hp => hsub _ (List.mem_cons_of_mem _ hp)) ⟨⟨_, congrArg (fun z => Value.int z _) ?_⟩, rfl⟩
  have e : (((colW A t Z size : Nat) : Int) * 8 + ((code : Nat) : Int).fmod 32) = ((colW A t Z size * 8 + code % 32 : Nat) : Int) := by
    rw [Int.fmod_eq_emod_of_nonneg _ (by omega)]; omega
  rw [e]

theorem off16 : FillK := by w_top off; rfl
section
open LCg
variable {prog : Program} {w : World} {A : Around} {E : Value → Shared → Prop} {s : Shared} {h₀ : Heap} {L : Addr} {m : Str → Option Value} {env : Env}
/-- one element of a list comprehension, the ledger `all` left as it was and new entries ahead of it -/
def CompStep (prog : Program) (w : World) (A : Around) (h₀ : Heap) (L : Addr) (m : Str → Option Value) (env : Env) (elt : Expr) (scope : Scope) (cl : List (Str × Addr)) (s : Shared) (J : Nat → List Value → List (Addr × Obj) → Prop) (R : Nat → (Str → Option Value) → Prop) (i : Nat) : Prop :=
  ∀ ys news all C oC m₂ h tk (E' : Value → Shared → Prop), J i ys news → R i m₂ → NsObj oC m₂ → (C, oC) ∈ all → (∀ p ∈ news, p ∈ all) → Fr h₀ L h m → News h₀ L h all →
    wpAny (model prog w) A (eval elt (compEnvC scope cl C env)) (fun y s' => ∃ h' tk' new, s' = { s with heap := h', toks := tk' } ∧ Fr h₀ L h' m ∧ News h₀ L h' (new ++ all) ∧ (∀ p ∈ new, ∀ q ∈ all, p.1 ≠ q.1) ∧ J (i + 1) (ys ++ [y]) (new ++ news)) E' { s with heap := h, toks := tk }
theorem gen_block {elt target iter : Expr} {scope : Scope} {cl : List (Str × Addr)} {pos : Pos} {I : Addr} {fp wr : List Addr} {n : Nat} {P Md : Nat → Value → Heap → Prop} {St : Nat → Heap → Prop} {news : List (Addr × Obj)} {RR : Value → Addr → Result → Shared → Prop}
    (J : Nat → List Value → List (Addr × Obj) → Prop) (R : Nat → (Str → Option Value) → Prop)
    (W : KTurns prog w A target I fp wr n P Md St) (hsz : n ≤ sizeLine) (hcell : ∀ y ∈ scope.names, y.2 ≠ .cell) (hkind : scope.kind = .function)
    (hself : ∀ (s' : Shared) (Q' : Value → Shared → Prop) (E' : Value → Shared → Prop), St 0 s'.heap → Q' (.ref I) s' → wpAny (model prog w) A (pyIter (.ref I)) Q' E' s')
    (hasg : ∀ i v C h tk m₁ (Q' : Unit → Shared → Prop) (E' : Value → Shared → Prop), i < n → P i v h → h.Ns C m₁ → (∃ ys nw, J i ys nw ∧ News h₀ L h nw) → (∀ b o, h₀.get? b = some o → h.get? b = some o) →
      (∀ h' tk' m₂, R i m₂ → h'.Ns C m₂ → (∀ b o, b ≠ C → h.get? b = some o → h'.get? b = some o) → Q' () { s with heap := h', toks := tk' }) → wpAny (model prog w) A (assign target (compEnvC scope cl C env) v) Q' E' { s with heap := h, toks := tk })
    (hst : St 0 s.heap) (hfp : ∀ b ∈ fp, b < s.heap.objs.size) (hwr : ∀ b ∈ wr, h₀.get? b = none) (hwo : ∀ i h, St i h → ∀ b ∈ wr, ∃ o, h.get? b = some o) (hLf : L ∉ fp)
    (F : Fr h₀ L s.heap m) (N : News h₀ L s.heap news) (hnw : ∀ p ∈ news, p.1 ∉ wr) (hJ : J 0 [] news)
    (step : ∀ i, i < n → CompStep prog w A h₀ L m env elt scope cl s J R i)
    (done : ∀ ys news D C h tk m', J n ys news → Fr h₀ L h m → News h₀ L h ((D, lst ys) :: news) → (∀ p ∈ news, p.1 ≠ D) → h.Ns C m' → h₀.get? C = none → C ≠ L → D ≠ C → (∀ p ∈ news, p.1 ≠ C) → RR (.ref D) C (.ok .next) { s with heap := h, toks := tk }) :
    wpAny (model prog w) A (newList []) (fun acc s₃ => wpAny (model prog w) A (newFunctionEnv scope env.globals cl [] env.qual none .none (some env)) (fun cenv s₄ =>
      codeAny (model prog w) A (.compStart (.ListComp elt [⟨target, iter, [], 0⟩] scope pos) 0 (.ref I) acc { cenv with scope := relabel scope env }) (RR acc cenv.locals) s₄) E s₃) E s := by
  refine wpAny_newObj_type (wpAny_newFunctionEnv hcell (by intro y hy; simp at hy) (fun h₁ hns₁ hsb₁ => ?_) hkind)
  dsimp only at hns₁ hsb₁ ⊢
  generalize hH2 : s.heap.push { cls := .type "list", dict := none, data := .seq ([] : List Value).toArray } = H2 at hns₁ hsb₁ ⊢
  have hC : H2.objs.size = s.heap.objs.size + 1 := by rw [← hH2, Heap.size_push]
  generalize hD : s.heap.objs.size = D at hC ⊢
  generalize hCC : H2.objs.size = C at hC hns₁ hsb₁ ⊢
  have hDC : D ≠ C := by rw [hC]; exact Nat.ne_of_lt (Nat.lt_succ_self _)
  have below : ∀ b, b < D → b ≠ C ∧ b ≠ D := fun b hb => ⟨by rw [hC]; exact Nat.ne_of_lt (Nat.lt_succ_of_lt hb), Nat.ne_of_lt hb⟩
  rw [hD] at hfp
  have hDf : D ∉ fp := fun hm => Nat.lt_irrefl _ (hfp _ hm)
  have hCf : C ∉ fp := fun hm => (below _ (hfp _ hm)).1 rfl
  have hDw : D ∉ wr := fun hm => hDf (W.sub _ hm)
  have hCw : C ∉ wr := fun hm => hCf (W.sub _ hm)
  have hLw : L ∉ wr := fun hm => hLf (W.sub _ hm)
  have old : ∀ b o, s.heap.get? b = some o → h₁.get? b = some o := fun b o e => hsb₁.extBut b o (below b (hD ▸ Heap.lt_size e)).1 (Heap.get?_push_of_some _ (by rw [← hH2]; exact Heap.get?_push_of_some _ e))
  have hacc : h₁.get? D = some (lst []) := hsb₁.extBut _ _ hDC (Heap.get?_push_of_some _ (by rw [← hH2, ← hD]; exact Heap.get?_push_size _ rfl))
  have fresh₀ : ∀ a, D ≤ a → h₀.get? a = none := fun a ha => by
    cases e : h₀.get? a with
    | none => rfl
    | some o' => exact absurd (Heap.lt_size (F.keep a o' e)) (by rw [hD]; exact Nat.not_lt.mpr ha)
  have hD₀ : h₀.get? D = none := fresh₀ _ (Nat.le_refl _)
  have hC₀ : h₀.get? C = none := fresh₀ _ (by rw [hC]; exact Nat.le_succ _)
  have hLlt : L < D := hD ▸ F.ns.lt
  have hDL : D ≠ L := Ne.symm (below L hLlt).2
  have hCL : C ≠ L := Ne.symm (below L hLlt).1
  have hst₁ : St 0 h₁ := W.frame _ _ _ hst fun b _ o e => old b o e
  have lows : ∀ p ∈ news, p.1 ∉ wr ∧ p.1 ≠ C ∧ p.1 ≠ D := fun p hp => ⟨hnw p hp, below _ (hD ▸ Heap.lt_size (N p hp).1)⟩
  have oldw : ∀ b o, h₀.get? b = some o → b ∉ wr := fun b o e hb => by rw [hwr b hb] at e; cases e
  have loop : ∀ s₃ : Shared, (∃ tk, s₃ = { s with heap := h₁, toks := tk }) →
      codeAny (model prog w) A (.compLoop (.ListComp elt [⟨target, iter, [], 0⟩] scope pos) 0 (.ref I) (.ref D) (compEnvC scope cl C env)) (RR (.ref D) C) s₃ := by
    rintro s₃ ⟨tk₁, rfl⟩
    refine kcp_loop
      (fun k s' => ∃ h' tk i ys m' news', s' = { s with heap := h', toks := tk } ∧ i ≤ n ∧ k = n + 1 - i ∧ ys.length = i ∧ St i h' ∧ Fr h₀ L h' m ∧ h'.Ns C m' ∧ News h₀ L h' ((D, lst ys) :: news') ∧ (∀ p ∈ news', p.1 ∉ wr ∧ p.1 ≠ C ∧ p.1 ≠ D) ∧ J i ys news') ?_ (n + 1)
      ⟨h₁, _, 0, [], _, news, rfl, Nat.zero_le _, rfl, rfl, hst₁, F.keeps old, hns₁, fun p hp => ?_, lows, hJ⟩
    · rintro k s' ⟨h', tk, i, ys, m', news', rfl, hi, rfl, hyl, hst', F', hn', N', off', hJ'⟩
      have next : ∀ h₁ : Heap, (∀ b o, b ∉ wr → h'.get? b = some o → h₁.get? b = some o) → Fr h₀ L h₁ m ∧ h₁.Ns C m' ∧ News h₀ L h₁ ((D, lst ys) :: news') := fun h₁ hk₁ =>
        ⟨⟨F'.ns.at' fun o e => hk₁ _ o hLw e, fun b o e => hk₁ b o (oldw b o e) (F'.keep b o e), F'.above⟩, hn'.at' fun o e => hk₁ _ o hCw e, fun p hp => ⟨hk₁ _ _ (by
          rcases List.mem_cons.mp hp with rfl | hp
          · exact hDw
          · exact (off' p hp).1) (N' p hp).1, (N' p hp).2⟩⟩
      by_cases hlt : i < n
      · refine W.item i _ _ _ hlt hst' fun v h₁ tk₁ hMd hk₁ => ?_
        refine W.go i v _ _ _ hMd fun h₂ hP hst₂ hk₂ => ?_
        obtain ⟨F₂, n₂, N₂⟩ := next h₂ fun b o hb x => hk₂ b o hb (hk₁ b o hb x)
        refine hasg i v C h₂ tk₁ m' _ _ hlt hP n₂ ⟨ys, news', hJ', fun p hp => N₂ p (List.mem_cons_of_mem _ hp)⟩ F₂.keep fun h₃ tk₃ m₂ hR hn₃ hk₃ => ?_
        have hst₃ : St (i + 1) h₃ := W.frame _ _ _ hst₂ fun b hb o e => hk₃ b o (fun q => hCf (by rw [← q]; exact hb)) e
        have F₃ : Fr h₀ L h₃ m := ⟨F₂.ns.at' fun o e => hk₃ _ o (Ne.symm hCL) e, fun b o e => hk₃ b o (fun q => by rw [q, hC₀] at e; cases e) (F₂.keep b o e), F₂.above⟩
        have N₃ : News h₀ L h₃ ((D, lst ys) :: news') := fun p hp => ⟨hk₃ _ _ (by
          rcases List.mem_cons.mp hp with rfl | hp
          · exact hDC
          · exact (off' p hp).2.1) (N₂ p hp).1, (N₂ p hp).2⟩
        obtain ⟨oC, heC, hoC⟩ := ns_obj hn₃
        have No : News h₀ L h₃ (PyProof.Rows.ownOf h₀ fp h₃) := news_ownOf hLf
        have Nall : News h₀ L h₃ ((C, oC) :: (((D, lst ys) :: news') ++ PyProof.Rows.ownOf h₀ fp h₃)) := fun p hp => by
          rcases List.mem_cons.mp hp with rfl | hp
          · exact ⟨heC, hCL, hC₀⟩
          · rcases List.mem_append.mp hp with hp | hp
            · exact N₃ p hp
            · exact No p hp
        refine wpAny_mono (step i hlt ys news' _ C oC m₂ h₃ tk₃ _ hJ' hR hoC List.mem_cons_self (fun p hp => List.mem_cons_of_mem _ (List.mem_append_left _ (List.mem_cons_of_mem _ hp))) F₃ Nall) (fun y s₄ h₄ => ?_) fun _ _ e => e
        obtain ⟨h₄, tk₄, new, rfl, F₄, N₄, off₄, hJ₄⟩ := h₄
        have zC := (N₄ (C, oC) (List.mem_append_right _ List.mem_cons_self)).1
        have zD := (N₄ (D, lst ys) (List.mem_append_right _ (List.mem_cons_of_mem _ (List.mem_append_left _ List.mem_cons_self)))).1
        have hst₄ : St (i + 1) h₄ := W.frame _ _ _ hst₃ fun b hb o e => by
          cases hn : h₀.get? b with
          | some o₀ =>
            have := F₃.keep b o₀ hn
            rw [e] at this
            cases this
            exact F₄.keep b o hn
          | none => exact (N₄ (b, o) (List.mem_append_right _ (List.mem_cons_of_mem _ (List.mem_append_right _ (mem_ownOf hb hn e))))).1
        refine append_at (hsz := by show ys.toArray.size ≤ sizeLine; rw [List.size_toArray, hyl]; exact Nat.le_trans hi hsz) zD fun h₅ hs₅ hD₅ => ?_
        have offn : ∀ p ∈ new, p.1 ∉ wr ∧ p.1 ≠ C ∧ p.1 ≠ D := fun p hp => ⟨fun hw => by
          obtain ⟨o, ho⟩ := hwo _ _ hst₃ p.1 hw
          exact off₄ p hp (p.1, o) (List.mem_cons_of_mem _ (List.mem_append_right _ (mem_ownOf (W.sub _ hw) (hwr _ hw) ho))) rfl, off₄ p hp (C, oC) List.mem_cons_self, off₄ p hp (D, lst ys) (List.mem_cons_of_mem _ (List.mem_append_left _ List.mem_cons_self))⟩
        have offa : ∀ p ∈ new ++ news', p.1 ∉ wr ∧ p.1 ≠ C ∧ p.1 ≠ D := fun p hp => by
          rcases List.mem_append.mp hp with hp | hp
          · exact offn p hp
          · exact off' p hp
        refine ⟨n + 1 - (i + 1), by omega, h₅, tk₄, i + 1, ys ++ [y], _, new ++ news', rfl, hlt, rfl, by rw [List.length_append, List.length_singleton, hyl], W.frame _ _ _ hst₄ fun b hb o e => hs₅.extBut b o (fun q => hDf (q ▸ hb)) e, F₄.change hs₅ hDL hD₀,
          (hoC.ns zC).sameBut hs₅ (Ne.symm hDC), fun p hp => ?_, offa, hJ₄⟩
        rcases List.mem_cons.mp hp with rfl | hp
        · exact ⟨hD₅.trans (congrArg some (lst_snoc ys y)), hDL, hD₀⟩
        · have z := N₄ p (by
            rcases List.mem_append.mp hp with hp | hp
            · exact List.mem_append_left _ hp
            · exact List.mem_append_right _ (List.mem_cons_of_mem _ (List.mem_append_left _ (List.mem_cons_of_mem _ hp))))
          exact ⟨hs₅.extBut _ _ (offa p hp).2.2 z.1, z.2⟩
      · obtain rfl : i = n := Nat.le_antisymm hi (Nat.not_lt.mp hlt)
        refine W.done _ _ _ hst' fun h₂ tk₂ hk₂ => ?_
        obtain ⟨F₂, n₂, N₂⟩ := next h₂ hk₂
        exact done ys news' D C h₂ tk₂ m' hJ' F₂ N₂ (fun p hp => (off' p hp).2.2) n₂ hC₀ hCL hDC fun p hp => (off' p hp).2.1
    · rcases List.mem_cons.mp hp with rfl | hp
      · exact ⟨hacc, hDL, hD₀⟩
      · exact ⟨old _ _ (N p hp).1, (N p hp).2⟩
  exact codeAny_compStart_list (loop _ ⟨_, rfl⟩) (hself _ _ _ hst₁ (loop _ ⟨_, rfl⟩))
/-- the made list is the value of the expression -/
theorem gen_none {D C : Addr} {h : Heap} {tk : Nat} {m' : Str → Option Value} {ys : List Value} {news : List (Addr × Obj)} {Q : Value → Shared → Prop} (F : Fr h₀ L h m) (N : News h₀ L h ((D, lst ys) :: news)) (hn : h.Ns C m') (hC₀ : h₀.get? C = none) (hCL : C ≠ L) (hDC : D ≠ C) (off : ∀ p ∈ news, p.1 ≠ C)
    (k : ∀ h'', Fr h₀ L h'' m → News h₀ L h'' ((D, lst ys) :: news) → Q (.ref D) { s with heap := h'', toks := tk }) : compPost (model prog w) A E none Q (.ref D) C (.ok .next) { s with heap := h, toks := tk } := by
  refine ⟨_, hn, fun h'' hs'' => k h'' (F.change hs'' hCL hC₀) fun p hp => ?_⟩
  refine ⟨hs''.extBut _ _ ?_ (N p hp).1, (N p hp).2⟩
  rcases List.mem_cons.mp hp with rfl | hp
  · exact hDC
  · exact off p hp

/-- what is left of a list comprehension once its iterator stands -/
def GenAt (prog : Program) (w : World) (A : Around) (E : Value → Shared → Prop) (env : Env) (elt target iter : Expr) (scope : Scope) (cl : List (Str × Addr)) (pos : Pos) (RR : Value → Addr → Result → Shared → Prop) (it : Value) (s : Shared) : Prop :=
  wpAny (model prog w) A (newList []) (fun acc s₃ => wpAny (model prog w) A (newFunctionEnv scope env.globals cl [] env.qual none .none (some env)) (fun cenv s₄ =>
      codeAny (model prog w) A (.compStart (.ListComp elt [⟨target, iter, [], 0⟩] scope pos) 0 it acc { cenv with scope := relabel scope env }) (RR acc cenv.locals) s₄) E s₃) E s
theorem gen_comp {elt target iter : Expr} {scope : Scope} {cl : List (Str × Addr)} {pos : Pos} {Q : Value → Shared → Prop}
    (hclos : closureFor scope env = pure cl) (hkind : scope.kind = .function) (hnames : ∀ y ∈ scope.names, y.2 = .local → scope.names.lookup y.1 = some .local)
    (h : wpAny (model prog w) A (eval iter env) (fun xv s₁ => wpAny (model prog w) A (pyIter xv) (fun it s₂ => GenAt prog w A E env elt target iter scope cl pos (fun acc C => compPost (model prog w) A E none Q acc C) it s₂) E s₁) E s)
    (hs : ∀ x, foldedSetIterable iter env x = pure x := by intro _; rfl) :
    wpAny (model prog w) A (eval (.ListComp elt [⟨target, iter, [], 0⟩] scope pos) env) Q E s := by
  rw [eval_ListComp]
  exact wpAny_comprehension_free (use := none) rfl hs hclos hkind hnames h
theorem asg_name {x : Str} {px : Pos} {scope : Scope} {cl : List (Str × Addr)} {C : Addr} {h : Heap} {tk : Nat} {m₁ : Str → Option Value} {v : Value} {Q : Unit → Shared → Prop} (hkind : scope.kind = .function) (hx : scope.names.lookup x = some .local) (hn : h.Ns C m₁)
    (k : ∀ h' tk' m₂, m₂ x = some v → h'.Ns C m₂ → (∀ b o, b ≠ C → h.get? b = some o → h'.get? b = some o) → Q () { s with heap := h', toks := tk' }) :
    wpAny (model prog w) A (assign (.Name x px) (compEnvC scope cl C env) v) Q E { s with heap := h, toks := tk } :=
  wpAny_assign_Name (wpAny_storeName_local (lookup_relabel_local hx) hn (fun h₃ hn₃ hs₃ => k h₃ _ _ (if_pos rfl) hn₃ fun b o hb e => hs₃.extBut b o hb e) (by simp [compEnvC, relabel, hkind]))
theorem asg_pair {x y : Str} {px py tp : Pos} {kk : Nat} {scope : Scope} {cl : List (Str × Addr)} {C T : Addr} {h : Heap} {tk : Nat} {m₁ : Str → Option Value} {v u : Value} {Q : Unit → Shared → Prop} (hh : A.handled = none) (hkind : scope.kind = .function) (hx : scope.names.lookup x = some .local) (hy : scope.names.lookup y = some .local) (hxy : x ≠ y) (hn : h.Ns C m₁) (ht : h.IsTuple T #[v, u])
    (k : ∀ h' tk' m₂, (m₂ x = some v ∧ m₂ y = some u) → h'.Ns C m₂ → (∀ b o, b ≠ C → h.get? b = some o → h'.get? b = some o) → Q () { s with heap := h', toks := tk' }) :
    wpAny (model prog w) A (assign (.Tuple [.Name x px, .Name y py] kk tp) (compEnvC scope cl C env) (.ref T)) Q E { s with heap := h, toks := tk } := by
  refine wpAny_assign_Tuple hh ht rfl rfl fun h₁ he₁ => ?_
  have up₁ : ∀ b o, h.get? b = some o → h₁.get? b = some o := fun b o e => he₁ b o (Nat.ne_of_lt (Heap.lt_size e)) e
  have n₁ : h₁.Ns C m₁ := hn.at' fun o e => up₁ _ o e
  show wpAny _ _ (assignInOrder [assign (.Name x px) _, assign (.Name y py) _] [v, u]) _ _ _
  refine assignInOrder_cons (wpAny_assign_Name (wpAny_storeName_local (lookup_relabel_local hx) n₁ (fun h₂ hn₂ hs₂ => ?_) (by simp [compEnvC, relabel, hkind])))
  refine assignInOrder_cons (wpAny_assign_Name (wpAny_storeName_local (lookup_relabel_local hy) hn₂ (fun h₃ hn₃ hs₃ => ?_) (by simp [compEnvC, relabel, hkind])))
  refine assignInOrder_nil ?_
  exact k h₃ _ _ ⟨by simp [hxy], by simp⟩ hn₃ fun b o hb e => hs₃.extBut b o hb (hs₂.extBut b o hb (up₁ b o e))
theorem asg_three {x y z : Str} {px py pz tp : Pos} {kk : Nat} {scope : Scope} {cl : List (Str × Addr)} {C T : Addr} {h : Heap} {tk : Nat} {m₁ : Str → Option Value} {v u t : Value} {Q : Unit → Shared → Prop} (hh : A.handled = none) (hkind : scope.kind = .function) (hx : scope.names.lookup x = some .local) (hy : scope.names.lookup y = some .local) (hz : scope.names.lookup z = some .local) (hxy : x ≠ y) (hxz : x ≠ z) (hyz : y ≠ z) (hn : h.Ns C m₁) (ht : h.IsTuple T #[v, u, t])
    (k : ∀ h' tk' m₂, (m₂ x = some v ∧ m₂ y = some u ∧ m₂ z = some t) → h'.Ns C m₂ → (∀ b o, b ≠ C → h.get? b = some o → h'.get? b = some o) → Q () { s with heap := h', toks := tk' }) :
    wpAny (model prog w) A (assign (.Tuple [.Name x px, .Name y py, .Name z pz] kk tp) (compEnvC scope cl C env) (.ref T)) Q E { s with heap := h, toks := tk } := by
  refine wpAny_assign_Tuple hh ht rfl rfl fun h₁ he₁ => ?_
  have up₁ : ∀ b o, h.get? b = some o → h₁.get? b = some o := fun b o e => he₁ b o (Nat.ne_of_lt (Heap.lt_size e)) e
  have n₁ : h₁.Ns C m₁ := hn.at' fun o e => up₁ _ o e
  show wpAny _ _ (assignInOrder [assign (.Name x px) _, assign (.Name y py) _, assign (.Name z pz) _] [v, u, t]) _ _ _
  refine assignInOrder_cons (wpAny_assign_Name (wpAny_storeName_local (lookup_relabel_local hx) n₁ (fun h₂ hn₂ hs₂ => ?_) (by simp [compEnvC, relabel, hkind])))
  refine assignInOrder_cons (wpAny_assign_Name (wpAny_storeName_local (lookup_relabel_local hy) hn₂ (fun h₃ hn₃ hs₃ => ?_) (by simp [compEnvC, relabel, hkind])))
  refine assignInOrder_cons (wpAny_assign_Name (wpAny_storeName_local (lookup_relabel_local hz) hn₃ (fun h₄ hn₄ hs₄ => ?_) (by simp [compEnvC, relabel, hkind])))
  refine assignInOrder_nil ?_
  exact k h₄ _ _ ⟨by simp [hxy, hxz], by simp [hyz], by simp⟩ hn₄ fun b o hb e => hs₄.extBut b o hb (hs₃.extBut b o hb (hs₂.extBut b o hb (up₁ b o e)))
/-- the made list goes to a local name -/
theorem gen_some {D C : Addr} {h : Heap} {tk : Nat} {m m' : Str → Option Value} {ys : List Value} {news : List (Addr × Obj)} {y : Str} {py : Pos} {Q : Flow → Shared → Prop} (hy : env.kindOf y = some .local) (hp : (env.scope.kind == .class || (env.scope.kind == .module && env.locals != env.globals)) = false)
    (F : Fr h₀ env.locals h m) (N : News h₀ env.locals h ((D, lst ys) :: news)) (hn : h.Ns C m') (hC₀ : h₀.get? C = none) (hCL : C ≠ env.locals) (hDC : D ≠ C) (off : ∀ p ∈ news, p.1 ≠ C)
    (k : ∀ h'' tk'', Fr h₀ env.locals h'' (fun z => if z = y then some (.ref D) else m z) → News h₀ env.locals h'' ((D, lst ys) :: news) → Q .next { s with heap := h'', toks := tk'' }) :
    compPost (model prog w) A E (some (assign (.Name y py) env)) (fun _ s' => Q .next s') (.ref D) C (.ok .next) { s with heap := h, toks := tk } := by
  show wpAny _ A (assign (.Name y py) env (.ref D)) _ _ _
  refine wpAny_assign_Name (wpAny_storeName_local hy F.ns (fun h₂ hn₂ hs₂ => ?_) hp)
  have hL₀ : h₀.get? env.locals = none := Heap.get?_none_of_le F.above
  have F₂ : Fr h₀ env.locals h₂ (fun z => if z = y then some (.ref D) else m z) := ⟨hn₂, fun b o e => hs₂.extBut b o (fun q => by rw [q, hL₀] at e; cases e) (F.keep b o e), F.above⟩
  refine ⟨m', hn.sameBut hs₂ hCL, fun h'' hs'' => k h'' _ (F₂.change hs'' hCL hC₀) (fun p hp => ?_)⟩
  have z : h₂.get? p.1 = some p.2 := hs₂.extBut _ _ (N p hp).2.1 (N p hp).1
  refine ⟨hs''.extBut _ _ ?_ z, (N p hp).2⟩
  rcases List.mem_cons.mp hp with rfl | hp
  · exact hDC
  · exact off p hp
theorem gen_assign {elt target iter : Expr} {scope : Scope} {cl : List (Str × Addr)} {pos spos py : Pos} {y : Str} {Q : Flow → Shared → Prop}
    (hsw : swapsWith (.ListComp elt [⟨target, iter, [], 0⟩] scope pos) (some (.Name y py)) spos.line env = pure true)
    (hclos : closureFor scope env = pure cl) (hkind : scope.kind = .function) (hnames : ∀ z ∈ scope.names, z.2 = .local → scope.names.lookup z.1 = some .local)
    (h : wpAny (model prog w) A (eval iter env) (fun xv s₁ => wpAny (model prog w) A (pyIter xv) (fun it s₂ => GenAt prog w A E env elt target iter scope cl pos (fun acc C => compPost (model prog w) A E (some (assign (.Name y py) env)) (fun _ s' => Q .next s') acc C) it s₂) E s₁) E s)
    (hs : ∀ x, foldedSetIterable iter env x = pure x := by intro _; rfl) :
    wpAny (model prog w) A (exec (.Assign [.Name y py] (.ListComp elt [⟨target, iter, [], 0⟩] scope pos) spos) env) Q E s := by
  rw [exec_Assign_Name_used _ _ _ _ hsw]
  refine wpAny_bind (wpAny_standAt (wpAny_bind ?_))
  show wpAny _ A (do let _ ← comprehension (.ListComp elt [⟨target, iter, [], 0⟩] scope pos) scope env _ (newList []) false (eval iter env) (some (assign (.Name y py) env))) _ _ s
  exact wpAny_bind (wpAny_mono (wpAny_comprehension_free (use := some (assign (.Name y py) env)) (Q := fun _ s' => Q .next s') rfl hs hclos hkind hnames h) (fun _ s' hq => wpAny_pure (wpAny_pure hq)) fun _ _ e => e)
/-- the iterator of a list of the ledger -/
theorem gen_list {elt target iter : Expr} {scope : Scope} {cl : List (Str × Addr)} {pos : Pos} {RR : Value → Addr → Result → Shared → Prop} {ax : Addr} {its : Array Value} {kk : Nat} {news : List (Addr × Obj)}
    (J : Nat → List Value → List (Addr × Obj) → Prop) (R : Nat → (Str → Option Value) → Prop) (hh : A.handled = none) (F : Fr h₀ L s.heap m) (N : News h₀ L s.heap news) (hm : (ax, listOf its kk) ∈ news) (hsz : its.size ≤ sizeLine) (hcell : ∀ y ∈ scope.names, y.2 ≠ .cell) (hkind : scope.kind = .function)
    (hasg : ∀ i v C g h tk m₁ (Q' : Unit → Shared → Prop) (E' : Value → Shared → Prop), its[i]? = some v → h.Ns C m₁ → (∃ ys nw, J i ys nw ∧ News h₀ L h nw) →
      (∀ h' tk' m₂, R i m₂ → h'.Ns C m₂ → (∀ b o, b ≠ C → h.get? b = some o → h'.get? b = some o) → Q' () { ({ s with heap := g } : Shared) with heap := h', toks := tk' }) → wpAny (model prog w) A (assign target (compEnvC scope cl C env) v) Q' E' { ({ s with heap := g } : Shared) with heap := h, toks := tk })
    (hJ : J 0 [] news)
    (step : ∀ i g, i < its.size → CompStep prog w A h₀ L m env elt scope cl { s with heap := g } J R i)
    (done : ∀ ys news D C h tk m', J its.size ys news → Fr h₀ L h m → News h₀ L h ((D, lst ys) :: news) → (∀ p ∈ news, p.1 ≠ D) → h.Ns C m' → h₀.get? C = none → C ≠ L → D ≠ C → (∀ p ∈ news, p.1 ≠ C) → RR (.ref D) C (.ok .next) { s with heap := h, toks := tk }) :
    wpAny (model prog w) A (pyIter (.ref ax)) (fun it s₂ => GenAt prog w A E env elt target iter scope cl pos RR it s₂) E s := by
  have hax := N _ hm
  have hl : s.heap.IsList ax its := News.isList N hm
  have hlt : ax < s.heap.objs.size := Heap.lt_size hax.1
  refine wpAny_pyIter_list hl ?_
  have W : Walks prog w A s.heap.objs.size [s.heap.objs.size, ax] [s.heap.objs.size] its.size (fun i v => its[i]? = some v) (fun i h => h.IsListIter s.heap.objs.size ax i ∧ h.IsList ax its) := Walks.list hh s.heap.objs.size ax (Nat.ne_of_lt hlt) its
  refine gen_block J R (KTurns.ofWalks W fun i v s Q E st q => letGo_listiter st.1 q) hsz hcell hkind (fun s' Q' E' st q => W.self 0 s' Q' E' st q)
    (fun i v C h tk m₁ Q' E' _ hP hn hx _ k => hasg i v C _ h tk m₁ Q' E' hP hn hx k) ⟨⟨_, Heap.get?_push_size _ rfl, rfl, rfl⟩, hl.push _⟩ (fun b hb => ?_) (fun b hb => ?_) (fun i h st b hb => ?_) (fun hL => ?_) (F.push _) (fun p hp => ⟨Heap.get?_push_of_some _ (N p hp).1, (N p hp).2⟩) (fun p hp hI => ?_) hJ (fun i hi => step i _ hi) (fun ys news D C h tk m' a b c d e f g i j => done ys news D C h tk m' a b c d e f g i j)
  · show b < (s.heap.push _).objs.size
    rw [Heap.size_push]
    rcases List.mem_cons.mp hb with rfl | hb
    · exact Nat.lt_succ_self _
    · rw [List.mem_singleton.mp hb]; exact Nat.lt_succ_of_lt hlt
  · rw [List.mem_singleton.mp hb]; exact next_is_new F
  · rw [List.mem_singleton.mp hb]; obtain ⟨o, e, _⟩ := st.1; exact ⟨o, e⟩
  · rcases List.mem_cons.mp hL with e | hL
    · exact absurd F.ns.lt (by rw [e]; exact Nat.lt_irrefl _)
    · exact hax.2.1 (List.mem_singleton.mp hL).symm
  · exact absurd (Heap.lt_size (N p hp).1) (by rw [List.mem_singleton.mp hI]; exact Nat.lt_irrefl _)
/-- enumerate of a list of the ledger, two names -/
theorem gen_enum {elt iter : Expr} {x y : Str} {px py tp : Pos} {kk : Nat} {scope : Scope} {cl : List (Str × Addr)} {pos : Pos} {RR : Value → Addr → Result → Shared → Prop} {l : Addr} {its : Array Value} {ep : Nat} {news : List (Addr × Obj)}
    (J : Nat → List Value → List (Addr × Obj) → Prop) (hh : A.handled = none) (F : Fr h₀ L s.heap m) (N : News h₀ L s.heap news) (hm : (l, listOf its ep) ∈ news) (hsz : its.size ≤ sizeLine) (hcell : ∀ y ∈ scope.names, y.2 ≠ .cell) (hkind : scope.kind = .function)
    (hx : scope.names.lookup x = some .local) (hy : scope.names.lookup y = some .local) (hxy : x ≠ y) (hJ : J 0 [] news)
    (step : ∀ i g, i < its.size → CompStep prog w A h₀ L m env elt scope cl { s with heap := g } J (fun i m₂ => ∃ t v, its[i]? = some v ∧ m₂ x = some (.int (i : Int) t) ∧ m₂ y = some v) i)
    (done : ∀ ys news D C h tk m', J its.size ys news → Fr h₀ L h m → News h₀ L h ((D, lst ys) :: news) → (∀ p ∈ news, p.1 ≠ D) → h.Ns C m' → h₀.get? C = none → C ≠ L → D ≠ C → (∀ p ∈ news, p.1 ≠ C) → RR (.ref D) C (.ok .next) { s with heap := h, toks := tk }) :
    wpAny (model prog w) A (call (.type "enumerate") [.ref l]) (fun xv s₁ => wpAny (model prog w) A (pyIter xv) (fun it s₂ => GenAt prog w A E env elt (.Tuple [.Name x px, .Name y py] kk tp) iter scope cl pos RR it s₂) E s₁) E s := by
  have hax := N _ hm
  have hl : s.heap.IsList l its := News.isList N hm
  have hlt : l < s.heap.objs.size := Heap.lt_size hax.1
  refine call_enumerate_list hl fun h' hE hI hsize hk => ?_
  refine wpAny_pyIter_enum hE ?_
  have W := (WalksT.enumerate (prog := prog) (w := w) hh (s.heap.objs.size + 1) s.heap.objs.size l (Nat.succ_ne_self _) (ktu_ne 1 hlt) (Nat.ne_of_lt hlt) its).toU
  refine gen_block (s := { s with heap := h' }) J (fun i m₂ => ∃ t v, its[i]? = some v ∧ m₂ x = some (.int (i : Int) t) ∧ m₂ y = some v) (KTurns.ofWalksU W) hsz hcell hkind (fun s' Q' E' st q => by obtain ⟨⟨old, he⟩, _⟩ := st; exact wpAny_pyIter_enum he q)
    (fun i v C h tk m₁ Q' E' _ hP hn _ _ k => by
      obtain ⟨T, vals, rfl, ⟨t, v, hv, rfl⟩, hT⟩ := hP
      exact asg_pair hh hkind hx hy hxy hn hT fun h' tk' m₂ hm₂ => k h' tk' m₂ ⟨t, v, hv, hm₂⟩)
    ⟨⟨.none, hE⟩, hI, hl.at fun o e => hk l o e⟩ (fun b hb => ?_) (fun b hb => ?_) (fun i h st b hb => ?_) (fun hL => ?_) (F.keeps hk) (N.grown hk) (fun p hp hI => ?_) hJ (fun i hi => step i _ hi) (fun ys news D C h tk m' a b c d e f g i j => done ys news D C h tk m' a b c d e f g i j)
  · show b < h'.objs.size
    rw [hsize]
    simp at hb
    rcases hb with rfl | rfl | rfl
    · exact Nat.lt_succ_self _
    · exact Nat.lt_add_of_pos_right (by decide)
    · exact Nat.lt_of_lt_of_le hlt (Nat.le_add_right _ _)
  · simp at hb
    rcases hb with rfl | rfl
    · exact ktu_new F (Nat.le_add_right _ _)
    · exact ktu_new F (Nat.le_refl _)
  · obtain ⟨⟨old, he⟩, ⟨o, e, _⟩, _⟩ := st
    simp at hb
    rcases hb with rfl | rfl
    · exact ⟨_, he⟩
    · exact ⟨_, e⟩
  · have hLs := F.ns.lt
    simp at hL
    rcases hL with e | e | e
    · exact ktu_ne 1 hLs e
    · exact Nat.ne_of_lt hLs e
    · exact hax.2.1 e.symm
  · have hlp := Heap.lt_size (N p hp).1
    simp at hI
    rcases hI with e | e
    · exact ktu_ne 1 hlp e
    · exact Nat.ne_of_lt hlp e
end

theorem off17 : FillK := by w_top off; rfl
/-- one turn on a row of ranks -/
def stepR (l : List Nat) : List Nat := match l.getLast? with
  | some top => if top > 1 then l.take (l.length - top) ++ (l.drop (l.length - top)).reverse else l
  | none => l
def itR_ (f : List Nat → List Nat) : Nat → List Nat → List Nat
  | 0, l => l
  | n + 1, l => itR_ f n (f l)
def insAll (a : Nat) : List Nat → List (List Nat)
  | [] => [[a]]
  | b :: r => (a :: b :: r) :: (insAll a r).map (b :: ·)
def permsOf : List Nat → List (List Nat)
  | [] => [[]]
  | a :: r => (permsOf r).flatMap (insAll a)
theorem mem_insAll (a : Nat) : ∀ s t : List Nat, s ++ a :: t ∈ insAll a (s ++ t)
  | [], [] => by simp [insAll]
  | [], b :: t => by simp [insAll]
  | b :: s, t => by
    have := mem_insAll a s t
    simp only [List.cons_append, insAll, List.mem_cons, List.mem_map]
    exact .inr ⟨_, this, rfl⟩
theorem mem_permsOf : ∀ (r l : List Nat), l.Perm r → l ∈ permsOf r
  | [], l, h => by rw [List.perm_nil.mp h]; simp [permsOf]
  | a :: r, l, h => by
    have ha : a ∈ l := h.symm.subset List.mem_cons_self
    obtain ⟨s, t, rfl⟩ := List.append_of_mem ha
    have h2 : (s ++ t).Perm r := (List.perm_middle.symm.trans h).cons_inv
    unfold permsOf
    exact List.mem_flatMap.mpr ⟨_, mem_permsOf r _ h2, mem_insAll a s t⟩
theorem topswops5 : (permsOf [1, 2, 3, 4, 5]).all (fun l => (itR_ stepR 7 l).getLast? == some 1) = true := by decide +kernel
theorem topswops6 : (permsOf [1, 2, 3, 4, 5, 6]).all (fun l => (itR_ stepR 12 l).getLast? == some 1) = true := by decide +kernel
/-- the places in a strictly rising row -/
theorem upTo_rising : ∀ (ns : List Int), ns.Pairwise (· < ·) → ns.map (fun n => upTo ns n) = (List.range' 1 ns.length)
  := by
  intro ns
  have key : ∀ (r pre : List Int), (pre ++ r).Pairwise (· < ·) → r.map (fun n => upTo (pre ++ r) n) = List.range' (pre.length + 1) r.length := by
    intro r
    induction r with
    | nil => intro pre _; rfl
    | cons a r ih =>
      intro pre h
      rw [List.map_cons, List.length_cons, List.range'_succ]
      congr 1
      · rw [List.pairwise_append] at h
        obtain ⟨_, h2, h3⟩ := h
        rw [List.pairwise_cons] at h2
        unfold upTo
        rw [List.countP_append, List.countP_cons]
        have e1 : pre.countP (fun n => decide (n ≤ a)) = pre.length := by
          rw [List.countP_eq_length]
          intro b hb
          have := h3 b hb a List.mem_cons_self
          simp; omega
        have e2 : r.countP (fun n => decide (n ≤ a)) = 0 := by
          rw [List.countP_eq_zero]
          intro b hb
          have := h2.1 b hb
          simp; omega
        rw [e1, e2]
        simp
      · have := ih (pre ++ [a]) (by simpa using h)
        simpa using this
  intro h
  simpa using key ns [] (by simpa using h)
theorem upTo_perm {ns ms : List Int} (h : ns.Perm ms) (x : Int) : upTo ns x = upTo ms x := h.countP_eq _
/-- the keys of the cards -/
def keysFrom : Nat → List Nat → List Int
  | _, [] => []
  | i, c :: r => ((c * 8 + (1 + i) : Nat) : Int) :: keysFrom (i + 1) r
theorem keysFrom_length : ∀ (i : Nat) (cs : List Nat), (keysFrom i cs).length = cs.length
  | _, [] => rfl
  | i, _ :: r => by simp [keysFrom, keysFrom_length (i + 1) r]
theorem keysFrom_get : ∀ (cs : List Nat) (i k c : Nat), cs[k]? = some c → (keysFrom i cs)[k]? = some ((c * 8 + (1 + (i + k)) : Nat) : Int)
  | _ :: r, i, 0, c, h => by cases h; simp [keysFrom]
  | _ :: r, i, k + 1, c, h => by
    have := keysFrom_get r (i + 1) k c (by simpa using h)
    simp only [keysFrom, List.getElem?_cons_succ, this]
    congr 2; omega
theorem keysFrom_ge : ∀ (cs : List Nat) (i : Nat) (x : Int), x ∈ keysFrom i cs → ∃ c j, i ≤ j ∧ j < i + cs.length ∧ x = ((c * 8 + (1 + j) : Nat) : Int)
  | c :: r, i, x, h => by
    rcases List.mem_cons.mp h with rfl | h
    · exact ⟨c, i, Nat.le_refl _, by simp, rfl⟩
    · obtain ⟨c', j, h1, h2, h3⟩ := keysFrom_ge r (i + 1) x h
      exact ⟨c', j, by omega, by simp; omega, h3⟩
theorem keysFrom_nodup : ∀ (cs : List Nat) (i : Nat), i + cs.length < 8 → (keysFrom i cs).Pairwise (· ≠ ·)
  | [], _, _ => .nil
  | c :: r, i, h => by
    simp only [List.length_cons] at h
    refine .cons (fun x hx => ?_) (keysFrom_nodup r (i + 1) (by omega))
    obtain ⟨c', j, h1, h2, rfl⟩ := keysFrom_ge r (i + 1) x hx
    omega
/-- the rank that the law counts -/
def rankC (cs : List Nat) (k : Nat) : Nat := 1 + ((cs.filter fun c => decide (c < cs.getD k 0)).length + ((cs.take k).filter fun c => decide (c = cs.getD k 0)).length)
theorem upTo_keys (c k : Nat) (hk : k < 7) : ∀ (cs : List Nat) (i : Nat), i + cs.length < 8 → upTo (keysFrom i cs) ((c * 8 + (1 + k) : Nat) : Int) = cs.countP (fun a => decide (a < c)) + (cs.take (k + 1 - i)).countP (fun a => decide (a = c))
  | [], _, _ => by simp [keysFrom, upTo]
  | a :: r, i, h => by
    simp only [List.length_cons] at h
    have ih := upTo_keys c k hk r (i + 1) (by omega)
    unfold upTo at ih ⊢
    unfold keysFrom
    rw [List.countP_cons, ih, List.countP_cons]
    by_cases hik : i ≤ k
    · have e : k + 1 - i = (k + 1 - (i + 1)) + 1 := by omega
      rw [e, List.take_succ_cons, List.countP_cons]
      simp only [decide_eq_true_eq]
      by_cases h1 : a < c
      · rw [if_pos (by omega), if_pos h1, if_neg (by omega)]; omega
      · by_cases h2 : a = c
        · rw [if_pos (by omega), if_neg h1, if_pos h2]; omega
        · rw [if_neg (by omega), if_neg h1, if_neg h2]; omega
    · have e : k + 1 - i = 0 := by omega
      have e2 : k + 1 - (i + 1) = 0 := by omega
      rw [e, e2]
      simp only [decide_eq_true_eq, List.take_zero, List.countP_nil]
      by_cases h1 : a < c
      · rw [if_pos (by omega), if_pos h1]
      · rw [if_neg (by omega), if_neg h1]
theorem rank_is {cs : List Nat} {k : Nat} (hk : k < cs.length) (h : cs.length < 8) : upTo (keysFrom 0 cs) ((cs.getD k 0 * 8 + (1 + k) : Nat) : Int) = rankC cs k := by
  have hg : cs[k]? = some (cs.getD k 0) := by rw [List.getD_eq_getElem?_getD, List.getElem?_eq_getElem hk]; rfl
  rw [upTo_keys _ k (by omega) cs 0 (by omega), Nat.sub_zero, List.take_add_one, hg, List.countP_append]
  unfold rankC
  rw [List.countP_eq_length_filter, List.countP_eq_length_filter]
  simp
  omega

theorem off18 : FillK := by w_top off; rfl
/-- a card of the play: its letter's place, its turns -/
abbrev DC := Nat × Nat
def codeOf (d : DC) : Nat := if d.2 % 2 = 0 then 97 + d.1 else 65 + d.1
def turnD (d : DC) : DC := (d.1, d.2 + 1)
def stepD (rk : Nat → Nat) (l : List DC) : List DC := match l.getLast? with
  | some top => if rk top.1 > 1 then l.take (l.length - rk top.1) ++ ((l.drop (l.length - rk top.1)).reverse.map turnD) else l
  | none => l
def itD (rk : Nat → Nat) : Nat → List DC → List DC
  | 0, l => l
  | n + 1, l => itD rk n (stepD rk l)
theorem itD_succ (rk : Nat → Nat) : ∀ n l, itD rk (n + 1) l = stepD rk (itD rk n l)
  | 0, _ => rfl
  | n + 1, l => itD_succ rk n (stepD rk l)
theorem stepD_ranks (rk : Nat → Nat) (l : List DC) : (stepD rk l).map (fun d => rk d.1) = stepR (l.map (fun d => rk d.1)) := by
  unfold stepD stepR
  rw [List.getLast?_map]
  cases l.getLast? with
  | none => rfl
  | some top =>
    simp only [Option.map_some]
    split
    · rw [List.map_append, List.map_map, List.map_take, List.map_reverse, List.map_drop, List.length_map]
      rfl
    · rfl
theorem itD_ranks (rk : Nat → Nat) : ∀ n l, (itD rk n l).map (fun d => rk d.1) = itR_ stepR n (l.map (fun d => rk d.1))
  | 0, _ => rfl
  | n + 1, l => by
    show (itD rk n (stepD rk l)).map _ = itR_ stepR n (stepR _)
    rw [itD_ranks rk n, stepD_ranks]
theorem stepD_perm (rk : Nat → Nat) (l : List DC) : ((stepD rk l).map (·.1)).Perm (l.map (·.1)) := by
  unfold stepD
  cases l.getLast? with
  | none => exact .refl _
  | some top =>
    dsimp only
    split
    · rw [List.map_append, List.map_map]
      have e : ((fun d : DC => d.1) ∘ turnD) = fun d => d.1 := rfl
      rw [e]
      have h : ((l.drop (l.length - rk top.1)).reverse.map fun d : DC => d.1).Perm ((l.drop (l.length - rk top.1)).map fun d : DC => d.1) := (List.reverse_perm _).map _
      refine (h.append_left _).trans ?_
      rw [← List.map_append, List.take_append_drop]
    · exact .refl _
theorem itD_perm (rk : Nat → Nat) : ∀ n l, ((itD rk n l).map (·.1)).Perm (l.map (·.1))
  | 0, _ => .refl _
  | n + 1, l => (itD_perm rk n _).trans (stepD_perm rk l)
/-- the deck at the start -/
def deck0 (n : Nat) : List DC := (List.range n).map fun k => (k, 0)
theorem deck0_fst (n : Nat) : (deck0 n).map (·.1) = List.range n := by
  unfold deck0
  rw [List.map_map]
  exact List.map_id _
theorem ranks_perm {cs : List Nat} {ns : List Int} (hp : ns.Perm (keysFrom 0 cs)) (hs : ns.Pairwise (· ≤ ·)) (h : cs.length < 8) : ((deck0 cs.length).map fun d => rankC cs d.1).Perm (List.range' 1 cs.length) := by
  have hlt : ns.Pairwise (· < ·) := by
    have hne : ns.Pairwise (· ≠ ·) := (keysFrom_nodup cs 0 (by omega)).perm hp.symm (fun h => Ne.symm h)
    exact (hs.and hne).imp fun ⟨a, b⟩ => by omega
  have hl : ns.length = cs.length := by rw [hp.length_eq, keysFrom_length]
  have h1 := upTo_rising ns hlt
  rw [hl] at h1
  rw [← h1]
  refine List.Perm.trans ?_ (hp.symm.map _)
  have e : (fun n => upTo ns n) = fun n => upTo (keysFrom 0 cs) n := by funext n; exact upTo_perm hp n
  rw [e]
  refine List.Perm.of_eq (List.ext_getElem? fun k => ?_)
  unfold deck0
  rw [List.map_map, List.getElem?_map, List.getElem?_map]
  by_cases hk : k < cs.length
  · rw [List.getElem?_range hk, keysFrom_get cs 0 k (cs.getD k 0) (by rw [List.getD_eq_getElem?_getD, List.getElem?_eq_getElem hk]; rfl)]
    simp only [Option.map_some, Function.comp, Nat.zero_add]
    rw [rank_is hk h]
  · rw [List.getElem?_eq_none (by rw [List.length_range]; omega), List.getElem?_eq_none (by rw [keysFrom_length]; omega)]
    rfl
/-- the play ends with the number 1 on top -/
theorem play_ends {cs : List Nat} {ns : List Int} (hp : ns.Perm (keysFrom 0 cs)) (hs : ns.Pairwise (· ≤ ·)) {n : Nat} (h : (cs.length = 5 ∧ n = 7) ∨ (cs.length = 6 ∧ n = 12)) : ∃ d, (itD (rankC cs) n (deck0 cs.length)).getLast? = some d ∧ rankC cs d.1 = 1 := by
  have hr := ranks_perm hp hs (by omega)
  have key : ((itD (rankC cs) n (deck0 cs.length)).map fun d => rankC cs d.1).getLast? = some 1 := by
    rw [itD_ranks]
    rcases h with ⟨hl, rfl⟩ | ⟨hl, rfl⟩
    · rw [hl] at hr ⊢
      have := List.all_eq_true.mp topswops5 _ (mem_permsOf [1, 2, 3, 4, 5] _ hr)
      simpa using this
    · rw [hl] at hr ⊢
      have := List.all_eq_true.mp topswops6 _ (mem_permsOf [1, 2, 3, 4, 5, 6] _ hr)
      simpa using this
  rw [List.getLast?_map] at key
  cases e : (itD (rankC cs) n (deck0 cs.length)).getLast? with
  | none => rw [e] at key; cases key
  | some d => rw [e] at key; exact ⟨d, rfl, by simpa using key⟩
/-- these pairs of the table are this deck -/
def Bears (ld : Nat → Str) (cards : List Card) (d : List DC) : Prop := cards.map (fun c => (c.nm, c.ld)) = d.map (fun x => (sgn (codeOf x), ld x.1))
theorem Bears.nil {ld : Nat → Str} : Bears ld [] [] := rfl
theorem Bears.length {ld : Nat → Str} {cards : List Card} {d : List DC} (h : Bears ld cards d) : cards.length = d.length := by
  have := congrArg List.length h
  simpa using this
theorem Bears.names {ld : Nat → Str} {cards : List Card} {d : List DC} (h : Bears ld cards d) : cards.map (·.nm) = d.map (fun x => sgn (codeOf x)) := by
  have := congrArg (List.map Prod.fst) h
  rw [List.map_map, List.map_map] at this
  exact this
theorem Bears.cons {ld : Nat → Str} {c : Card} {cards : List Card} {x : DC} {d : List DC} (h1 : c.nm = sgn (codeOf x)) (h2 : c.ld = ld x.1) (h : Bears ld cards d) : Bears ld (c :: cards) (x :: d) := by
  unfold Bears at *
  rw [List.map_cons, List.map_cons, h, h1, h2]
theorem Bears.inv {ld : Nat → Str} {cards : List Card} {x : DC} {d : List DC} (h : Bears ld cards (x :: d)) : ∃ c r, cards = c :: r ∧ c.nm = sgn (codeOf x) ∧ c.ld = ld x.1 ∧ Bears ld r d := by
  unfold Bears at h
  rw [List.map_cons, List.map_eq_cons_iff] at h
  obtain ⟨c, r, rfl, h1, h2⟩ := h
  cases h1' : (c.nm, c.ld)
  have e := Prod.mk.inj h1
  exact ⟨c, r, rfl, e.1, e.2, h2⟩
theorem Bears.append {ld : Nat → Str} {c1 c2 : List Card} {d1 d2 : List DC} (h1 : Bears ld c1 d1) (h2 : Bears ld c2 d2) : Bears ld (c1 ++ c2) (d1 ++ d2) := by
  unfold Bears at *
  rw [List.map_append, List.map_append, h1, h2]
theorem lower_code (d : DC) (h : d.1 < 6) : Txt.lower (sgn (codeOf d)) = sgn (97 + d.1) := by
  have h1 : ∀ k < 6, Txt.lower (sgn (97 + k)) = sgn (97 + k) := by decide +kernel
  have h2 : ∀ k < 6, Txt.lower (sgn (65 + k)) = sgn (97 + k) := by decide +kernel
  unfold codeOf
  split
  · exact h1 _ h
  · exact h2 _ h
theorem sgn_ne {a b : Nat} (h : a ≠ b) : (sgn a == sgn b) = false := by
  rw [beq_eq_false_iff_ne]
  intro e
  unfold sgn at e
  injection e with e
  simp at e
  exact h e
theorem Bears.drop {ld : Nat → Str} {k : Nat} : ∀ {d : List DC} {cards : List Card}, (∀ x ∈ d, x.1 < 6) → Bears ld cards d → Bears ld (dropped cards (sgn (97 + k))) (d.filter fun x => decide (x.1 ≠ k))
  | [], cards, _, h => by
    have : cards = [] := List.length_eq_zero_iff.mp h.length
    subst this
    exact Bears.nil
  | x :: d, cards, hx, h => by
    obtain ⟨c, r, rfl, h1, h2, h3⟩ := h.inv
    have ih := Bears.drop (k := k) (fun y hy => hx y (List.mem_cons_of_mem _ hy)) h3
    unfold dropped at ih ⊢
    have hl : Txt.lower c.nm = sgn (97 + x.1) := by rw [h1]; exact lower_code x (hx x List.mem_cons_self)
    by_cases e : x.1 = k
    · rw [List.filter_cons_of_neg (by rw [hl, e]; simp), List.filter_cons_of_neg (by simp [e])]
      exact ih
    · rw [List.filter_cons_of_pos (by rw [hl, sgn_ne (by omega)]; rfl), List.filter_cons_of_pos (by simpa using e)]
      exact Bears.cons h1 h2 ih
theorem Bears.found {ld : Nat → Str} {k : Nat} : ∀ {d : List DC} {cards : List Card}, (∀ x ∈ d, x.1 < 6) → Bears ld cards d → k ∈ d.map (·.1) → ∃ c, found cards (sgn (97 + k)) = some c ∧ c.ld = ld k
  | [], _, _, _, hk => by simp at hk
  | x :: d, cards, hx, h, hk => by
    obtain ⟨c, r, rfl, h1, h2, h3⟩ := h.inv
    have hl : Txt.lower c.nm = sgn (97 + x.1) := by rw [h1]; exact lower_code x (hx x List.mem_cons_self)
    unfold Mine.found
    by_cases e : x.1 = k
    · exact ⟨c, by rw [List.find?_cons_of_pos (p := fun c : Card => Txt.lower c.nm == sgn (97 + k)) (by rw [hl, e]; simp)], by rw [h2, e]⟩
    · have hk' : k ∈ d.map (·.1) := by
        rcases List.mem_cons.mp hk with h | h
        · exact absurd h.symm e
        · exact h
      obtain ⟨c', hf, hl'⟩ := Bears.found (fun y hy => hx y (List.mem_cons_of_mem _ hy)) h3 hk'
      exact ⟨c', by rw [List.find?_cons_of_neg (p := fun c : Card => Txt.lower c.nm == sgn (97 + k)) (by rw [hl, sgn_ne (by omega)]; simp)]; exact hf, hl'⟩
theorem Bears.mem {ld : Nat → Str} {c : Card} : ∀ {d : List DC} {cards : List Card}, Bears ld cards d → c ∈ cards → ∃ x ∈ d, c.nm = sgn (codeOf x) ∧ c.ld = ld x.1
  | [], cards, h, hc => by
    have : cards = [] := List.length_eq_zero_iff.mp h.length
    subst this
    cases hc
  | x :: d, cards, h, hc => by
    obtain ⟨c', r, rfl, h1, h2, h3⟩ := h.inv
    rcases List.mem_cons.mp hc with rfl | hc
    · exact ⟨x, List.mem_cons_self, h1, h2⟩
    · obtain ⟨y, hy, h4⟩ := Bears.mem h3 hc
      exact ⟨y, List.mem_cons_of_mem _ hy, h4⟩
theorem Bears.short {ld : Nat → Str} {cards : List Card} {d : List DC} (h : Bears ld cards d) : Short cards := by
  intro c hc
  obtain ⟨x, _, e, _⟩ := h.mem hc
  rw [e]
  show 1 < 1000
  decide
/-- the deck between two turns of the inner loop -/
theorem filter_own {hd r pre : List DC} {a : DC} (hn : ((hd ++ (r.reverse ++ [a]) ++ pre).map (·.1)).Nodup) : (hd ++ (r.reverse ++ [a]) ++ pre).filter (fun x => decide (x.1 ≠ a.1)) = hd ++ r.reverse ++ pre := by
  have key : ∀ l : List DC, a.1 ∉ l.map (·.1) → l.filter (fun x => decide (x.1 ≠ a.1)) = l := by
    intro l hl
    rw [List.filter_eq_self]
    intro x hx
    rw [decide_eq_true_eq]
    intro e
    exact hl (List.mem_map.mpr ⟨x, hx, e⟩)
  have e1 : hd ++ (r.reverse ++ [a]) ++ pre = (hd ++ r.reverse) ++ a :: pre := by simp
  rw [e1] at hn ⊢
  rw [List.map_append, List.map_cons] at hn
  have h2 := List.nodup_append.mp hn
  have hna : a.1 ∉ (hd ++ r.reverse).map (·.1) := fun hm => h2.2.2 _ hm _ List.mem_cons_self rfl
  have hnb : a.1 ∉ pre.map (·.1) := (List.nodup_cons.mp h2.2.1).1
  rw [List.filter_append, List.filter_cons_of_neg (by simp), key _ hna, key _ hnb]
theorem codeOf_turn (d : DC) (h : d.1 < 6) : (codeOf d) ^^^ 32 = codeOf (turnD d) := by
  have h1 : ∀ k < 6, (97 + k) ^^^ 32 = 65 + k := by decide
  have h2 : ∀ k < 6, (65 + k) ^^^ 32 = 97 + k := by decide
  unfold codeOf turnD
  dsimp only
  by_cases e : d.2 % 2 = 0
  · rw [if_pos e, if_neg (by omega)]; exact h1 _ h
  · rw [if_neg e, if_pos (by omega)]; exact h2 _ h
theorem code_mod (d : DC) (h : d.1 < 6) : codeOf d % 32 = 1 + d.1 := by unfold codeOf; split <;> omega
theorem code_clean (d : DC) (h : d.1 < 6) : clean nameCode (sgn (codeOf d)) = true := by
  unfold codeOf
  split
  · exact low_clean _ h
  · exact upp_clean _ h
theorem code_low_clean (d : DC) (h : d.1 < 6) : clean nameCode (Txt.lower (sgn (codeOf d))) = true := by
  rw [lower_code d h]; exact low_clean _ h
/-- the lead of a number in the contracts' form -/
def nA (v : Int) : Nat := if ((v.fdiv 3).fmod 2).toNat = 1 then (v.fmod 3).toNat else (v.fmod 3).toNat + ((v.fdiv 6).fmod 4).toNat
def nT (v : Int) : Nat := ((v.fdiv 3).fmod 2).toNat
def nZ (v : Int) : Nat := if ((v.fdiv 3).fmod 2).toNat = 1 then ((v.fdiv 6).fmod 4).toNat else 0
/-- the column of a number's lead -/
def colN (size : Nat) (v : Int) : Nat := colW (nA v) (nT v) (nZ v) size

theorem off19 : FillK := by w_top off; rfl
/-- the lead of a number -/
def leadOf (v : Int) : Str := leadT (v.fmod 3).toNat ((v.fdiv 3).fmod 2).toNat ((v.fdiv 6).fmod 4).toNat
theorem mul_lead : ∀ a < 3, ∀ t < 2, ∀ b < 4, Txt.mul (Str.ofString " ") ((a : Nat) : Int) ++ Txt.mul (Str.ofString "\t") ((t : Nat) : Int) ++ Txt.mul (Str.ofString " ") ((b : Nat) : Int) = leadT a t b := by decide +kernel
theorem fmod_nat (n : Int) (k : Nat) (h : 0 < k) : n.fmod (k : Int) = (((n.fmod (k : Int)).toNat : Nat) : Int) ∧ (n.fmod (k : Int)).toNat < k := by
  rw [Int.fmod_eq_emod_of_nonneg _ (by omega)]
  have h1 := Int.emod_nonneg n (b := (k : Int)) (by omega)
  have h2 := Int.emod_lt_of_pos n (b := (k : Int)) (by omega)
  omega
theorem lead_text (n : Int) : Txt.mul (Str.ofString " ") (n.fmod 3) ++ Txt.mul (Str.ofString "\t") ((n.fdiv 3).fmod 2) ++ Txt.mul (Str.ofString " ") ((n.fdiv 6).fmod 4) = leadOf n := by
  have h1 : n.fmod 3 = (((n.fmod 3).toNat : Nat) : Int) ∧ (n.fmod 3).toNat < 3 := fmod_nat n 3 (by decide)
  have h2 : (n.fdiv 3).fmod 2 = ((((n.fdiv 3).fmod 2).toNat : Nat) : Int) ∧ ((n.fdiv 3).fmod 2).toNat < 2 := fmod_nat (n.fdiv 3) 2 (by decide)
  have h3 : (n.fdiv 6).fmod 4 = ((((n.fdiv 6).fmod 4).toNat : Nat) : Int) ∧ ((n.fdiv 6).fmod 4).toNat < 4 := fmod_nat (n.fdiv 6) 4 (by decide)
  have h := mul_lead _ h1.2 _ h2.2 _ h3.2
  rw [← h1.1, ← h2.1, ← h3.1] at h
  exact h
def AllNe (d : Nat) : List (Addr × Obj) → Prop
  | [] => True
  | p :: r => @Ne Nat p.1 d ∧ AllNe d r
theorem allNe_of {d : Addr} : ∀ {l : List (Addr × Obj)}, (∀ p ∈ l, p.1 ≠ d) → AllNe d l
  | [], _ => trivial
  | _ :: _, h => ⟨h _ (.head _), allNe_of fun q hq => h q (.tail _ hq)⟩
def numsOf (script : List Int) : List Int := List.take (5 + (script.length : Int).fmod 2).toNat (List.take 6 script ++ List.drop (script.length : Int).toNat [(23 : Int), 9, 1, 5, 4, 12])
theorem nums_len (script : List Int) : ((numsOf script).length = 5 ∨ (numsOf script).length = 6) ∧ 5 + (script.length : Int).fmod 2 = ((numsOf script).length : Int) := by
  unfold numsOf
  rw [Int.fmod_eq_emod_of_nonneg _ (by omega)]
  rw [List.length_take, List.length_append, List.length_take, List.length_drop]
  simp only [List.length_cons, List.length_nil, Int.toNat_natCast]
  omega
theorem size_is (s : Int) : ∃ sz : Nat, 2 + s.fmod 4 = (sz : Int) ∧ 2 ≤ sz ∧ sz ≤ 5 := by
  have h := fmod_nat s 4 (by decide)
  have h2 : (s.fmod 4).toNat < 4 := h.2
  refine ⟨2 + (s.fmod 4).toNat, ?_, by omega, by omega⟩
  have h1 : s.fmod 4 = (((s.fmod 4).toNat : Nat) : Int) := h.1
  omega
theorem fr_gen {h₀ h : Heap} {L : Addr} {m : Str → Option Value} (F : Fr h₀ L h m) : ∃ m', m' = m ∧ Fr h₀ L h m' := ⟨m, rfl, F⟩
theorem news_gen {h₀ h : Heap} {L : Addr} {n : List (Addr × Obj)} (N : News h₀ L h n) : ∃ n', n' = n ∧ News h₀ L h n' := ⟨n, rfl, N⟩
/-- the lead of the card k -/
def ldOf (nums : List Int) (k : Nat) : Str := leadOf (nums.getD k 0)
theorem deck0_succ (i : Nat) : deck0 (i + 1) = deck0 i ++ [(i, 0)] := by
  unfold deck0
  rw [List.range_succ, List.map_append]
  rfl
theorem cell_mem {a : Addr} {o : Obj} {d : Data} {l : List (Addr × Obj)} (_ : o.data = d) (h : (a, o) ∈ l) : (a, o) ∈ l := h

theorem off20 : FillK := by w_top off; rfl
theorem leadOf_parts (v : Int) : ∃ a t b, a < 3 ∧ t < 2 ∧ b < 4 ∧ leadOf v = leadT a t b ∧ a = (v.fmod 3).toNat ∧ t = ((v.fdiv 3).fmod 2).toNat ∧ b = ((v.fdiv 6).fmod 4).toNat := by
  have h1 : v.fmod 3 = (((v.fmod 3).toNat : Nat) : Int) ∧ (v.fmod 3).toNat < 3 := fmod_nat v 3 (by decide)
  have h2 : (v.fdiv 3).fmod 2 = ((((v.fdiv 3).fmod 2).toNat : Nat) : Int) ∧ ((v.fdiv 3).fmod 2).toNat < 2 := fmod_nat (v.fdiv 3) 2 (by decide)
  have h3 : (v.fdiv 6).fmod 4 = ((((v.fdiv 6).fmod 4).toNat : Nat) : Int) ∧ ((v.fdiv 6).fmod 4).toNat < 4 := fmod_nat (v.fdiv 6) 4 (by decide)
  exact ⟨_, _, _, h1.2, h2.2, h3.2, rfl, rfl, rfl, rfl⟩
theorem leadT_length (a t b : Nat) : (leadT a t b).length = a + (t + b) := by
  show (leadT a t b).cps.size = _
  unfold leadT
  simp
theorem leadOf_clean (v : Int) : clean valCode (leadOf v) = true := by
  obtain ⟨a, t, b, ha, ht, hb, e, _⟩ := leadOf_parts v
  rw [e]; exact lead_clean a ha t ht b hb
theorem leadOf_short (v : Int) : (leadOf v).length < 300 := by
  obtain ⟨a, t, b, ha, ht, hb, e, _⟩ := leadOf_parts v
  rw [e, leadT_length]; omega
/-- the lead in the form of the contracts -/
theorem leadOf_norm (v : Int) : leadOf v = leadT (nA v) (nT v) (nZ v) ∧ nA v < 6 ∧ nT v < 2 ∧ (nT v = 0 → nZ v = 0) ∧ (nT v = 1 → nA v < 3) ∧ nZ v < 4 := by
  obtain ⟨a, t, b, ha, ht, hb, e, ea, et, eb⟩ := leadOf_parts v
  unfold nA nT nZ
  rw [← ea, ← et, ← eb, e]
  have h : t = 0 ∨ t = 1 := by omega
  rcases h with rfl | rfl
  · refine ⟨?_, by rw [if_neg (by decide)]; omega, by decide, fun _ => rfl, fun h => absurd h (by decide), by rw [if_neg (by decide)]; decide⟩
    rw [if_neg (by decide), if_neg (by decide)]
    unfold leadT
    simp [List.replicate_append_replicate]
  · exact ⟨rfl, by rw [if_pos rfl]; omega, by decide, fun h => absurd h (by decide), fun _ => by rw [if_pos rfl]; exact ha, by rw [if_pos rfl]; exact hb⟩
theorem deck0_lt {n : Nat} {x : DC} (h : x ∈ deck0 n) : x.1 < n := by
  unfold deck0 at h
  obtain ⟨k, hk, rfl⟩ := List.mem_map.mp h
  exact List.mem_range.mp hk
theorem Bears.clean {nums : List Int} {cards : List Card} {d : List DC} (h : Bears (ldOf nums) cards d) (hd : ∀ x ∈ d, x.1 < 6) : CleanCards cards := by
  refine ⟨fun c hc => ?_, fun c hc => ?_, fun c hc => ?_, fun c hc => ?_⟩
  all_goals obtain ⟨x, hx, e1, e2⟩ := h.mem hc
  · rw [e1]; exact code_clean x (hd x hx)
  · rw [e2]; exact leadOf_clean _
  · rw [e1]; show 1 < 300; decide
  · rw [e2]; exact leadOf_short _
/-- the pairs of the cards in a ledger -/
def Tups (cards : List Card) (news : List (Addr × Obj)) : Prop := ∀ c ∈ cards, ∃ t1 t2, (c.at_, tupO (.str c.nm t1) (.str c.ld t2)) ∈ news
theorem Tups.mono {cards : List Card} {a b : List (Addr × Obj)} (h : Tups cards a) (s : ∀ p ∈ a, p ∈ b) : Tups cards b := fun c hc => by
  obtain ⟨t1, t2, ht⟩ := h c hc
  exact ⟨t1, t2, s _ ht⟩
theorem keysFrom_snoc : ∀ (l : List Nat) (i c : Nat), keysFrom i (l ++ [c]) = keysFrom i l ++ [((c * 8 + (1 + (i + l.length)) : Nat) : Int)]
  | [], i, c => by simp [keysFrom]
  | a :: r, i, c => by
    rw [List.cons_append, keysFrom, keysFrom_snoc r (i + 1) c, keysFrom]
    have e : i + 1 + r.length = i + (a :: r).length := by simp; omega
    rw [e]; rfl
theorem Bears.at {ld : Nat → Str} {pre r : List Card} {c : Card} {d : List DC} (h : Bears ld (pre ++ c :: r) d) : ∃ y, d[pre.length]? = some y ∧ c.nm = sgn (codeOf y) ∧ c.ld = ld y.1 := by
  have e := congrArg (fun l : List (Str × Str) => l[pre.length]?) h
  simp only [List.map_append, List.map_cons, List.getElem?_map] at e
  rw [List.getElem?_append_right (by simp), List.length_map, Nat.sub_self, List.getElem?_cons_zero] at e
  cases hd : d[pre.length]? with
  | none => rw [hd] at e; cases e
  | some y =>
    rw [hd] at e
    have e2 := Prod.mk.inj (Option.some.inj e)
    exact ⟨y, rfl, e2.1, e2.2⟩
theorem deck0_get {n k : Nat} {y : DC} (h : (deck0 n)[k]? = some y) : y = (k, 0) ∧ k < n := by
  unfold deck0 at h
  rw [List.getElem?_map] at h
  by_cases hk : k < n
  · rw [List.getElem?_range hk] at h
    exact ⟨(Option.some.inj h).symm, hk⟩
  · rw [List.getElem?_eq_none (by rw [List.length_range]; omega)] at h
    cases h
theorem ldOf_norm (nums : List Int) (k : Nat) : ldOf nums k = leadT (nA (nums.getD k 0)) (nT (nums.getD k 0)) (nZ (nums.getD k 0)) := (leadOf_norm _).1
theorem put_sub {n n3 : List (Addr × Obj)} {I l : Addr} {it o o0 : Obj} (hI : (I, it) ∈ n3) (hs : ∀ p ∈ n, p ∈ n3) (off : ∀ p ∈ n, p.1 ≠ I) (hl0 : (l, o0) ∈ n) :
    (∀ p ∈ (I, it) :: putN n l o, p ∈ putN n3 l o) ∧ ∀ p ∈ putN n l o, p.1 ≠ I := by
  refine ⟨fun p hp => ?_, fun p hp => ?_⟩
  · rcases List.mem_cons.mp hp with rfl | hp
    · exact mem_putN hI (Ne.symm (off _ hl0))
    · rcases of_mem_putN hp with rfl | ⟨hp, hne⟩
      · exact List.mem_cons_self
      · exact mem_putN (hs p hp) hne
  · rcases of_mem_putN hp with rfl | ⟨hp, _⟩
    · exact off (l, o0) hl0
    · exact off p hp
theorem LEnd.put {h₀ : Heap} {L : Addr} {s₁ : Shared} {I l : Addr} {it o o0 : Obj} {lp : Addr × Obj} {J : (Str → Option Value) → List (Addr × Obj) → Prop} {Q : Flow → Shared → Prop} {h' : Heap} {tk : Nat} {m' : Str → Option Value} {n n3 : List (Addr × Obj)}
    (F : Fr h₀ L h' m') (N : News h₀ L h' (putN n3 l o)) (hI : (I, it) ∈ n3) (hs : ∀ p ∈ n, p ∈ n3) (off : ∀ p ∈ n, p.1 ≠ I) (hl0 : (l, o0) ∈ n) (hlp : lp ∈ n) (hne : lp.1 ≠ l) (hj : J m' (putN n l o)) : LEnd h₀ L s₁ I it lp J Q .next { s₁ with heap := h', toks := tk } :=
  LEnd.next F N (put_sub hI hs off hl0).1 (put_sub hI hs off hl0).2 (mem_putN hlp hne) hj
theorem SEnd.put {h₀ : Heap} {L : Addr} {s₁ : Shared} {I l : Addr} {it o o0 : Obj} {J : (Str → Option Value) → List (Addr × Obj) → Prop} {Q : Flow → Shared → Prop} {h' : Heap} {tk : Nat} {m' : Str → Option Value} {n n3 : List (Addr × Obj)}
    (F : Fr h₀ L h' m') (N : News h₀ L h' (putN n3 l o)) (hI : (I, it) ∈ n3) (hs : ∀ p ∈ n, p ∈ n3) (off : ∀ p ∈ n, p.1 ≠ I) (hl0 : (l, o0) ∈ n) (hj : J m' (putN n l o)) : SEnd h₀ L s₁ I it (fun m n => J m n ∧ ∀ p ∈ n, p.1 ≠ I) Q .next { s₁ with heap := h', toks := tk } :=
  SEnd.next F N (put_sub hI hs off hl0).1 (put_sub hI hs off hl0).2 ⟨hj, (put_sub hI hs off hl0).2⟩
theorem sub_put {a n : List (Addr × Obj)} {l : Addr} {o : Obj} (hs : ∀ p ∈ a, p ∈ n) (hne : ∀ p ∈ a, p.1 ≠ l) : ∀ p ∈ a, p ∈ putN n l o := fun p hp => mem_putN (hs p hp) (hne p hp)
theorem row_step {nums : List Int} {sz : Nat} {pre : Nat} {ns : List Int} {x : Int} (hk : pre < nums.length) (hp : ns.Perm (keysFrom 0 ((nums.map (colN sz)).take pre))) (hx : x = ((colN sz (nums.getD pre 0) * 8 + (1 + pre) : Nat) : Int)) : (insNs ns x).Perm (keysFrom 0 ((nums.map (colN sz)).take (pre + 1))) := by
  refine (insNs_perm ns x).trans ?_
  have hg : (nums.map (colN sz))[pre]? = some (colN sz (nums.getD pre 0)) := by
    rw [List.getElem?_map, List.getD_eq_getElem?_getD, List.getElem?_eq_getElem hk]; rfl
  rw [List.take_add_one, hg]
  show (x :: ns).Perm (keysFrom 0 ((nums.map (colN sz)).take pre ++ [colN sz (nums.getD pre 0)]))
  rw [keysFrom_snoc, List.length_take, List.length_map, Nat.min_eq_left (by omega), Nat.zero_add, ← hx]
  exact (hp.cons x).trans (List.perm_append_singleton x _).symm
theorem key_is (d : DC) (h : d.1 < 6) (c : Nat) : (c : Int) * 8 + ((codeOf d : Nat) : Int).fmod 32 = ((c * 8 + (1 + d.1) : Nat) : Int) := by
  have e := code_mod d h
  rw [Int.fmod_eq_emod_of_nonneg _ (by omega)]
  omega
theorem size_is_ {a b : Int} (n : Nat) (h : b - a = (n : Int)) : Builtin.Range.rangeSize a b 1 = (n : Int) := by rw [rangeSize_one]; split <;> omega
/-- last and most -/
def fibP : Nat → Nat × Nat
  | 0 => (1, 1)
  | n + 1 => ((fibP n).2, (fibP n).1 + (fibP n).2)

theorem off21 : FillK := by w_top off; rfl
theorem top_is {nums : List Int} {sz : Nat} {y : DC} {ns : List Int} (hk : y.1 < nums.length) (hl : nums.length < 7) (hp : ns.Perm (keysFrom 0 (nums.map (colN sz)))) :
    upTo ns ((colW (nA (nums.getD y.1 0)) (nT (nums.getD y.1 0)) (nZ (nums.getD y.1 0)) sz * 8 + codeOf y % 32 : Nat) : Int) = rankC (nums.map (colN sz)) y.1 := by
  rw [upTo_perm hp, code_mod y (by omega)]
  have hg : (nums.map (colN sz)).getD y.1 0 = colN sz (nums.getD y.1 0) := by
    rw [List.getD_eq_getElem?_getD, List.getElem?_map, List.getElem?_eq_getElem hk, List.getD_eq_getElem?_getD, List.getElem?_eq_getElem hk]
    rfl
  have h := rank_is (cs := nums.map (colN sz)) (k := y.1) (by rw [List.length_map]; exact hk) (by rw [List.length_map]; omega)
  rw [hg] at h
  exact h
theorem deck_perm (rk : Nat → Nat) (i n : Nat) : ((itD rk i (deck0 n)).map (·.1)).Perm (List.range n) := by
  have := itD_perm rk i (deck0 n)
  rw [deck0_fst] at this
  exact this
theorem deck_lt {rk : Nat → Nat} {i n : Nat} {y : DC} (h : y ∈ itD rk i (deck0 n)) : y.1 < n :=
  List.mem_range.mp ((deck_perm rk i n).subset (List.mem_map.mpr ⟨y, h, rfl⟩))
theorem deck_nodup (rk : Nat → Nat) (i n : Nat) : ((itD rk i (deck0 n)).map (·.1)).Nodup := (deck_perm rk i n).nodup_iff.mpr List.nodup_range
theorem deck_length (rk : Nat → Nat) (i n : Nat) : (itD rk i (deck0 n)).length = n := by
  have := (deck_perm rk i n).length_eq
  rw [List.length_map, List.length_range] at this
  exact this
theorem deck_last {rk : Nat → Nat} {i n : Nat} (h : 0 < n) : ∃ dp y, itD rk i (deck0 n) = dp ++ [y] := by
  rcases List.eq_nil_or_concat (itD rk i (deck0 n)) with e | ⟨dp, y, e⟩
  · have := deck_length rk i n
    rw [e] at this
    simp at this
    omega
  · exact ⟨dp, y, by rw [e, List.concat_eq_append]⟩
theorem Bears.snoc {ld : Nat → Str} {cards : List Card} {dp : List DC} {y : DC} (h : Bears ld cards (dp ++ [y])) : ∃ cp c, cards = cp ++ [c] ∧ c.nm = sgn (codeOf y) ∧ c.ld = ld y.1 ∧ Bears ld cp dp := by
  unfold Bears at h
  rw [List.map_append, List.map_eq_append_iff] at h
  obtain ⟨cp, l2, rfl, h1, h2⟩ := h
  rw [List.map_cons, List.map_nil, List.map_eq_cons_iff] at h2
  obtain ⟨c, r, rfl, h3, h4⟩ := h2
  rw [List.map_eq_nil_iff] at h4
  subst h4
  have e := Prod.mk.inj h3
  exact ⟨cp, c, rfl, e.1, e.2, h1⟩
theorem stepD_last {rk : Nat → Nat} {dp : List DC} {y : DC} : stepD rk (dp ++ [y]) = if rk y.1 > 1 then (dp ++ [y]).take ((dp ++ [y]).length - rk y.1) ++ (((dp ++ [y]).drop ((dp ++ [y]).length - rk y.1)).reverse.map turnD) else dp ++ [y] := by
  unfold stepD
  rw [List.getLast?_concat]
theorem Tab.set {news : List (Addr × Obj)} {x dx l T : Addr} {cards : List Card} {ep ep' : Nat} {nm ld : Str} {t t2 : Tok} (tab : Tab news x dx l cards ep) (hT : ∀ p ∈ news, p.1 ≠ T) (hx : x ≠ l) (hdx : dx ≠ l) (hc : ∀ c ∈ cards, c.at_ ≠ l) :
    Tab (putN ((T, tupO (.str nm t) (.str ld t2)) :: news) l (listOf ((dropped cards (Txt.lower nm) ++ [Card.mk T nm ld]).map fun c => Value.ref c.at_).toArray ep')) x dx l (dropped cards (Txt.lower nm) ++ [Card.mk T nm ld]) ep' := by
  obtain ⟨th, tt, nd, hd⟩ := tab.dict
  refine ⟨mem_putN (List.mem_cons_of_mem _ tab.inst) hx, ⟨th, tt, nd, mem_putN (List.mem_cons_of_mem _ hd) hdx⟩, List.mem_cons_self, fun c h => ?_⟩
  rcases List.mem_append.mp h with h | h
  · have hcm : c ∈ cards := (List.mem_filter.mp h).1
    obtain ⟨t1, t3, ht⟩ := tab.tups c hcm
    exact ⟨t1, t3, mem_putN (List.mem_cons_of_mem _ ht) (hc c hcm)⟩
  · rw [List.mem_singleton.mp h]
    exact ⟨t, t2, mem_putN List.mem_cons_self (Ne.symm (hT _ tab.lst))⟩
theorem tab_apart {h₀ h : Heap} {L : Addr} {news : List (Addr × Obj)} {x dx l : Addr} {cards : List Card} {ep : Nat} (N : News h₀ L h news) (tab : Tab news x dx l cards ep) : x ≠ l ∧ dx ≠ l ∧ ∀ c ∈ cards, c.at_ ≠ l := by
  obtain ⟨th, tt, nd, hd⟩ := tab.dict
  refine ⟨ne_of_cls N tab.inst tab.lst (by intro e; cases e), ne_of_cls N hd tab.lst (by intro e; exact absurd (Value.type.inj e) (by decide)), fun c hc => ?_⟩
  obtain ⟨t1, t2, ht⟩ := tab.tups c hc
  exact ne_of_cls N ht tab.lst (by intro e; exact absurd (Value.type.inj e) (by decide))
/-- one storing anew: the card a of the packet goes to the end -/
theorem Bears.set {ld : Nat → Str} {cards : List Card} {hd rd pd : List DC} {a : DC} {T : Addr} (h : Bears ld cards (hd ++ (rd.reverse ++ [a]) ++ pd)) (h6 : ∀ x ∈ hd ++ (rd.reverse ++ [a]) ++ pd, x.1 < 6) (hn : ((hd ++ (rd.reverse ++ [a]) ++ pd).map (·.1)).Nodup) :
    Bears ld (dropped cards (Txt.lower (sgn (codeOf (turnD a)))) ++ [Card.mk T (sgn (codeOf (turnD a))) (ld a.1)]) (hd ++ rd.reverse ++ (pd ++ [turnD a])) := by
  have ha : a.1 < 6 := h6 a (by simp)
  rw [lower_code (turnD a) ha]
  have h2 := h.drop (k := a.1) h6
  rw [filter_own hn] at h2
  have e : hd ++ rd.reverse ++ (pd ++ [turnD a]) = (hd ++ rd.reverse ++ pd) ++ [turnD a] := by simp
  rw [e]
  exact Bears.append h2 (Bears.cons rfl rfl Bears.nil)
theorem rk_le {nums : List Int} {sz k : Nat} {ns : List Int} (hp : ns.Perm (keysFrom 0 (nums.map (colN sz)))) (hs : ns.Pairwise (· ≤ ·)) (hl : nums.length < 7) (hk : k < nums.length) : 1 ≤ rankC (nums.map (colN sz)) k ∧ rankC (nums.map (colN sz)) k ≤ nums.length := by
  have h := ranks_perm hp hs (by rw [List.length_map]; omega)
  have h2 : rankC (nums.map (colN sz)) k ∈ (deck0 (nums.map (colN sz)).length).map fun d => rankC (nums.map (colN sz)) d.1 := by
    refine List.mem_map.mpr ⟨(k, 0), ?_, rfl⟩
    unfold deck0
    exact List.mem_map.mpr ⟨k, List.mem_range.mpr (by rw [List.length_map]; exact hk), rfl⟩
  have h3 := h.subset h2
  rw [List.mem_range'_1, List.length_map] at h3
  omega
theorem pick_from {ys : List Value} {a : Int} (k : Nat) (h : a = (k : Int)) : (slicePick ys.toArray (some a) none none).toList = ys.drop k := by
  rw [h, slicePick_from']
theorem StrsAre.rev_ : ∀ {vs : List Value} {ss : List Str}, StrsAre vs ss → StrsAre vs.reverse ss.reverse
  | _, _, .nil => .nil
  | _, _, .cons x t h => by
    rw [List.reverse_cons, List.reverse_cons]
    exact (StrsAre.rev_ h).append' (.cons _ _ .nil)
/-- between two storings: the cards left in the packet are rd -/
def InnJ (x dx l I3 : Addr) (it3 : Obj) (nums : List Int) (d : List DC) (k : Nat) (n2 : List (Addr × Obj)) (r : List Value) (nw : List (Addr × Obj)) : Prop :=
  ∃ rd pd cards ep, pd ++ rd = (d.drop k).reverse ∧ StrsAre r (rd.map (fun z => sgn (codeOf z))) ∧ Tab nw x dx l cards ep ∧ Bears (ldOf nums) cards (d.take k ++ rd.reverse ++ pd.map turnD) ∧ (∀ c ∈ cards, c.at_ ≠ I3) ∧ (I3, it3) ∈ nw ∧ ∀ p ∈ n2, p.1 ≠ l → p ∈ nw
theorem inn_perm {d : List DC} {k : Nat} {rd pd : List DC} (h : pd ++ rd = (d.drop k).reverse) : ((d.take k ++ rd.reverse ++ pd.map turnD).map (·.1)).Perm (d.map (·.1)) := by
  have e : ((pd.map turnD).map fun z : DC => z.1) = pd.map fun z => z.1 := by rw [List.map_map]; rfl
  rw [List.map_append, List.map_append, e, ← List.map_append, ← List.map_append]
  refine List.Perm.map _ ?_
  have h2 : d = d.take k ++ (rd.reverse ++ pd.reverse) := by
    rw [← List.reverse_append, h, List.reverse_reverse, List.take_append_drop]
  have h3 : (d.take k ++ (rd.reverse ++ pd)).Perm (d.take k ++ (rd.reverse ++ pd.reverse)) := ((List.reverse_perm pd).symm.append_left _).append_left _
  rw [List.append_assoc]
  refine h3.trans ?_
  rw [← h2]
def offN (I : Addr) (n : List (Addr × Obj)) : List (Addr × Obj) := n.filter fun p => !(p.1 == I)
theorem mem_offN {I : Addr} {n : List (Addr × Obj)} {p : Addr × Obj} (h : p ∈ n) (hne : p.1 ≠ I) : p ∈ offN I n := List.mem_filter.mpr ⟨h, by simp [beq_false_of_ne hne]⟩
theorem of_offN {I : Addr} {n : List (Addr × Obj)} {p : Addr × Obj} (h : p ∈ offN I n) : p ∈ n ∧ p.1 ≠ I := by
  obtain ⟨h1, h2⟩ := List.mem_filter.mp h
  exact ⟨h1, by simpa using h2⟩
theorem Tab.off {news : List (Addr × Obj)} {x dx l I : Addr} {cards : List Card} {ep : Nat} (tab : Tab news x dx l cards ep) (hx : x ≠ I) (hdx : dx ≠ I) (hl : l ≠ I) (hc : ∀ c ∈ cards, c.at_ ≠ I) : Tab (offN I news) x dx l cards ep := by
  obtain ⟨th, tt, nd, hd⟩ := tab.dict
  refine ⟨mem_offN tab.inst hx, ⟨th, tt, nd, mem_offN hd hdx⟩, mem_offN tab.lst hl, fun c h => ?_⟩
  obtain ⟨t1, t3, ht⟩ := tab.tups c h
  exact ⟨t1, t3, mem_offN ht (hc c h)⟩
theorem xor_turn (d : DC) (h : d.1 < 6) : Builtin.bitXor ((codeOf d : Nat) : Int) 32 = ((codeOf (turnD d) : Nat) : Int) := by
  have h1 : ∀ k < 6, Builtin.bitXor ((97 + k : Nat) : Int) 32 = ((65 + k : Nat) : Int) := by decide +kernel
  have h2 : ∀ k < 6, Builtin.bitXor ((65 + k : Nat) : Int) 32 = ((97 + k : Nat) : Int) := by decide +kernel
  unfold codeOf turnD
  dsimp only
  by_cases e : d.2 % 2 = 0
  · rw [if_pos e, if_neg (by omega)]; exact h1 _ h
  · rw [if_neg e, if_pos (by omega)]; exact h2 _ h
theorem code_lt (d : DC) (h : d.1 < 6) : codeOf d < 128 := by unfold codeOf; split <;> omega
theorem gen_some2 {prog : Program} {w : World} {A : Around} {E : Value → Shared → Prop} {s : Shared} {h₀ : Heap} {env : Env} {D C : Addr} {h : Heap} {tk : Nat} {m m' : Str → Option Value} {ys : List Value} {news : List (Addr × Obj)} {y : Str} {py : Pos} {Q : Shared → Prop} (hy : env.kindOf y = some .local) (hp : (env.scope.kind == .class || (env.scope.kind == .module && env.locals != env.globals)) = false)
    (F : Fr h₀ env.locals h m) (N : News h₀ env.locals h ((D, LCg.lst ys) :: news)) (hn : h.Ns C m') (hC₀ : h₀.get? C = none) (hCL : C ≠ env.locals) (hDC : D ≠ C) (off : ∀ p ∈ news, p.1 ≠ C)
    (k : ∀ h'' tk'', Fr h₀ env.locals h'' (fun z => if z = y then some (.ref D) else m z) → News h₀ env.locals h'' ((D, LCg.lst ys) :: news) → Q { s with heap := h'', toks := tk'' }) :
    compPost (model prog w) A E (some (assign (.Name y py) env)) (fun _ s' => Q s') (.ref D) C (.ok .next) { s with heap := h, toks := tk } :=
  gen_some (Q := fun _ s' => Q s') hy hp F N hn hC₀ hCL hDC off k

theorem off22 : FillK := by w_top off; rfl
section
variable {prog : Program} {w : World} {A : Around} {E : Value → Shared → Prop} {s : Shared} {env : Env} {h₀ : Heap}
/-- how a turn of a for over enumerate ends -/
def EEnd (h₀ : Heap) (L : Addr) (s₁ : Shared) (I1 : Addr) (o1 : Obj) (I2 : Addr) (o2 : Obj) (lp : Addr × Obj) (J : (Str → Option Value) → List (Addr × Obj) → Prop) (Q : Flow → Shared → Prop) (f : Flow) (s₂ : Shared) : Prop :=
  match f with
  | .ret v => Q (.ret v) s₂
  | .brk => Q .next s₂
  | _ => ∃ h' tk m' news', s₂ = { s₁ with heap := h', toks := tk } ∧ Fr h₀ L h' m' ∧ News h₀ L h' ((I1, o1) :: (I2, o2) :: news') ∧ (∀ p ∈ news', p.1 ≠ I1 ∧ p.1 ≠ I2) ∧ lp ∈ news' ∧ J m' news'
theorem EEnd.next {L : Addr} {s₁ : Shared} {I1 I2 : Addr} {o1 o2 : Obj} {lp : Addr × Obj} {J : (Str → Option Value) → List (Addr × Obj) → Prop} {Q : Flow → Shared → Prop} {h' : Heap} {tk : Nat} {m' : Str → Option Value} {news' all : List (Addr × Obj)}
    (F : Fr h₀ L h' m') (N : News h₀ L h' all) (h1 : (I1, o1) ∈ all) (h2 : (I2, o2) ∈ all) (hs : ∀ p ∈ news', p ∈ all) (off : ∀ p ∈ news', p.1 ≠ I1 ∧ p.1 ≠ I2) (hl : lp ∈ news') (hj : J m' news') : EEnd h₀ L s₁ I1 o1 I2 o2 lp J Q .next { s₁ with heap := h', toks := tk } :=
  ⟨h', tk, m', news', rfl, F, fun p hp => N p (by
    rcases List.mem_cons.mp hp with rfl | hp
    · exact h1
    rcases List.mem_cons.mp hp with rfl | hp
    · exact h2
    · exact hs p hp), off, hl, hj⟩
theorem loop_enum {elts : List Expr} {k : Nat} {pos : Pos} {body : List Stmt} {Q : Flow → Shared → Prop} {l : Addr} {vs : List Value} {n : Nat} {m₀ : Str → Option Value} {news : List (Addr × Obj)}
    (J : Nat → (Str → Option Value) → List (Addr × Obj) → Prop) (hh : A.handled = none) (F : Fr h₀ env.locals s.heap m₀) (N : News h₀ env.locals s.heap news) (hm : (l, listOf vs.toArray n) ∈ news) (hj : J 0 m₀ news)
    (turn : ∀ i v m news I1 o1 I2 o2 T t h tk, vs[i]? = some v → J i m news → (l, listOf vs.toArray n) ∈ news → IsTup h T #[.int (i : Int) t, v] → Fr h₀ env.locals h m → News h₀ env.locals h ((I1, o1) :: (I2, o2) :: news) → (∀ p ∈ news, p.1 ≠ I1 ∧ p.1 ≠ I2) →
      wpAny (model prog w) A (assign (.Tuple elts k pos) env (.ref T)) (fun _ s₂ => wpAny (model prog w) A (execs body env) (EEnd h₀ env.locals { s with heap := h, toks := tk } I1 o1 I2 o2 (l, listOf vs.toArray n) (J (i + 1)) Q) E s₂) E { s with heap := h, toks := tk })
    (done : ∀ m news h tk, J vs.length m news → (l, listOf vs.toArray n) ∈ news → Fr h₀ env.locals h m → News h₀ env.locals h news → Q .next { s with heap := h, toks := tk }) :
    wpAny (model prog w) A (call (.type "enumerate") [.ref l]) (fun xv s₁ => wpAny (model prog w) A (pyIter xv) (fun it s₂ => TurnsAt prog w A h₀ env (.Tuple elts k pos) body Q E it s₂) E s₁) E s := by
  refine ktu_enum (lo := listOf vs.toArray n) (vs := vs) (n := n) hh F N hm rfl rfl rfl fun I hI => ?_
  have key : ∀ (r : List Value) (i : Nat) (m : Str → Option Value) (nw : List (Addr × Obj)), vs.drop i = r → i + r.length = vs.length → J i m nw → (l, listOf vs.toArray n) ∈ nw → (∀ p ∈ nw, p.1 ≠ I + 1 ∧ p.1 ≠ I) →
      ItemsRest prog w A E h₀ env (.Tuple elts k pos) body Q s [(I + 1, "enumerate"), (I, "list_iterator")] [(l, listOf vs.toArray n)] (enumItems i r) m nw := by
    intro r
    induction r with
    | nil =>
      intro i m nw _ hlen hj hmem _
      have e : i = vs.length := by simpa using hlen
      subst e
      exact fun h tk F' N' => done m nw h tk hj hmem F' N'
    | cons a r ih =>
      intro i m nw hdr hlen hj hmem hoff
      have hi : vs[i]? = some a := by
        have := congrArg (fun l : List Value => l[0]?) hdr
        simpa using this
      refine ItemsRest.pair fun T t h tk hT F' => AllObj.cons fun o1 _ => AllObj.cons fun o2 _ => AllObj.nil fun N' => ?_
      refine wpAny_mono (turn i a m nw (I + 1) o1 I o2 T t h tk hi hj hmem hT F' N' hoff) (fun _ s₂ h₂ => wpAny_mono h₂ (fun fl s₃ h₃ => ?_) fun _ _ e => e) fun _ _ e => e
      have hdr2 : vs.drop (i + 1) = r := by rw [← List.drop_drop, hdr]; rfl
      have up : (∃ h' tk' m' news', s₃ = { ({ s with heap := h, toks := tk } : Shared) with heap := h', toks := tk' } ∧ Fr h₀ env.locals h' m' ∧ News h₀ env.locals h' ((I + 1, o1) :: (I, o2) :: news') ∧ (∀ p ∈ news', p.1 ≠ I + 1 ∧ p.1 ≠ I) ∧ (l, listOf vs.toArray n) ∈ news' ∧ J (i + 1) m' news') →
          UnrEndW h₀ env.locals { s with heap := h, toks := tk } [(I + 1, o1), (I, o2)] (fun m' n' => SubL [(l, listOf vs.toArray n)] n' ∧ ItemsRest prog w A E h₀ env (.Tuple elts k pos) body Q s [(I + 1, "enumerate"), (I, "list_iterator")] [(l, listOf vs.toArray n)] (enumItems (i + 1) r) m' n') s₃ := by
        rintro ⟨h', tk', m', news', e, F₂, N₂, off₂, hl₂, hj₂⟩
        refine ⟨h', tk', m', news', e, F₂, N₂, fun p hp q hq => ?_, ⟨hl₂, trivial⟩, ih (i + 1) m' news' hdr2 (by rw [← hlen, List.length_cons]; omega) hj₂ hl₂ off₂⟩
        rcases List.mem_cons.mp hq with rfl | hq
        · exact (off₂ p hp).1
        · rw [List.mem_singleton.mp hq]; exact (off₂ p hp).2
      cases fl with
      | ret v => exact h₃
      | brk => exact h₃
      | next => exact up h₃
      | cont => exact up h₃
  exact key vs 0 m₀ news rfl (by simp) hj hm fun p hp => ⟨Nat.ne_of_lt (Nat.lt_succ_of_lt (hI p hp)), Nat.ne_of_lt (hI p hp)⟩
end
/-- a cell of the frame is written -/
theorem storeX_P {M : Model} {A : Around} {E : Value → Shared → Prop} {s : Shared} {h₀ : Heap} {L a : Addr} {m : Str → Option Value} {cn : Str} {cs : Scope} {ccd : Value} {cl : List (Str × Addr)}
    {x : Str} {v : Value} {Q : Unit → Shared → Prop} {news : List (Addr × Obj)} {c : Addr} {o : Obj} {v₀ : Option Value} (F : Fr h₀ L s.heap m) (N : News h₀ L s.heap news) (hc : cl.lookup x = some c) (hm : (c, o) ∈ news) (hd : o.data = .cell v₀)
    (h : ∀ h' o', Fr h₀ L h' m → News h₀ L h' (putN news c o') → o'.data = .cell (some v) → Q () { s with heap := h' })
    (hk : cs.kind = .function := by rfl) (hx : (envX cn cs L a ccd cl).kindOf x = some .cell := by rfl) : wpAny M A (storeName (envX cn cs L a ccd cl) x v) Q E s := by
  have hmem := N (c, o) hm
  refine wpAny_storeName_cell hk hx hc ⟨o, hmem.1, hd⟩ fun h' hv hs => ?_
  obtain ⟨o', ho', hd'⟩ := hv
  have z := news_put F N hm hs ho'
  exact h h' o' z.1 z.2 hd'
theorem cell_ne {h₀ h : Heap} {L : Addr} {news : List (Addr × Obj)} {a b : Addr} {o o' : Obj} {v₀ : Option Value} (N : News h₀ L h news) (ha : (a, o) ∈ news) (hd : o.data = .cell v₀) (hb : (b, o') ∈ news) (hn : ∀ v, o'.data ≠ .cell v) : b ≠ a := by
  intro e
  subst e
  have := Option.some.inj ((N _ ha).1.symm.trans (N _ hb).1)
  have e : o = o' := this
  rw [e] at hd
  exact hn _ hd
/-- a card of the plain list -/
structure Trip where
  at_ : Addr
  n : Nat
  k : Nat
  t : Nat
abbrev tup3 (u v w : Value) : Obj := { cls := .type "tuple", data := .seq #[u, v, w] }
def Trips (ts : List Trip) (news : List (Addr × Obj)) : Prop := ∀ c ∈ ts, ∃ u1 u2 u3, (c.at_, tup3 (.int (c.n : Int) u1) (.int (c.k : Int) u2) (.int (c.t : Int) u3)) ∈ news
theorem Trips.mono {ts : List Trip} {a b : List (Addr × Obj)} (h : Trips ts a) (s : ∀ p ∈ a, p ∈ b) : Trips ts b := fun c hc => by
  obtain ⟨t1, t2, t3, ht⟩ := h c hc
  exact ⟨t1, t2, t3, s _ ht⟩
def TBears (rk : Nat → Nat) (ts : List Trip) (d : List DC) : Prop := ts.map (fun c => (c.n, (c.k, c.t))) = d.map (fun x => (rk x.1, x))
theorem TBears.length {rk : Nat → Nat} {ts : List Trip} {d : List DC} (h : TBears rk ts d) : ts.length = d.length := by
  have := congrArg List.length h
  simpa using this
theorem TBears.append {rk : Nat → Nat} {a b : List Trip} {c d : List DC} (h1 : TBears rk a c) (h2 : TBears rk b d) : TBears rk (a ++ b) (c ++ d) := by
  unfold TBears at *
  rw [List.map_append, List.map_append, h1, h2]
/-- the rank that the law counts, in ints -/
theorem rank_ints (cs : List Nat) (k : Nat) : (((cs.map fun c => ((c : Nat) : Int)).filter fun c => decide (c < ((cs.getD k 0 : Nat) : Int))) ++ (((cs.map fun c => ((c : Nat) : Int)).take k).filter fun c => decide (c = ((cs.getD k 0 : Nat) : Int)))).length + 1 = rankC cs k := by
  unfold rankC
  rw [List.length_append, ← List.map_take, List.filter_map, List.filter_map, List.length_map, List.length_map]
  have e1 : ((fun c : Int => decide (c < ((cs.getD k 0 : Nat) : Int))) ∘ fun c : Nat => (c : Int)) = fun c => decide (c < cs.getD k 0) := by
    funext c; simp
  have e2 : ((fun c : Int => decide (c = ((cs.getD k 0 : Nat) : Int))) ∘ fun c : Nat => (c : Int)) = fun c => decide (c = cs.getD k 0) := by
    funext c; exact decide_eq_decide.mpr (by simp only [Function.comp]; omega)
  rw [e1, e2]
  omega
theorem col_at {nums : List Int} {sz i : Nat} {n : Int} (h : ((nums.map (colN sz)).map (fun c => ((c : Nat) : Int)))[i]? = some n) : n = (((nums.map (colN sz)).getD i 0 : Nat) : Int) ∧ i < nums.length := by
  rw [List.getElem?_map] at h
  cases e : (nums.map (colN sz))[i]? with
  | none => rw [e] at h; cases h
  | some c =>
    rw [e] at h
    have h2 : ((c : Nat) : Int) = n := Option.some.inj h
    rw [List.getD_eq_getElem?_getD, e, ← h2]
    refine ⟨rfl, ?_⟩
    have := (List.getElem?_eq_some_iff.mp e).1
    rwa [List.length_map] at this
theorem ints_pairs : ∀ {vs : List Value} {ns : List Int}, IntsAre vs ns → ∃ xs : List (Int × Tok), vs = xs.map (fun p => Value.int p.1 p.2) ∧ xs.map (·.1) = ns
  | _, _, .nil => ⟨[], rfl, rfl⟩
  | _, _, .cons n t h => by
    obtain ⟨xs, e1, e2⟩ := ints_pairs h
    exact ⟨(n, t) :: xs, by rw [e1]; rfl, by rw [← e2]; rfl⟩
theorem filt_yes {p : Int → Bool} {pre : List (Int × Tok)} {c : Int} {t : Tok} {ys : List Value} (h : IntsAre ys ((pre.map (·.1)).filter p)) (hp : p c = true) : IntsAre (ys ++ [Value.int c t]) (((pre ++ [(c, t)]).map (·.1)).filter p) := by
  have e : ([(c, t)].map (·.1)).filter p = [c] := by simp [hp]
  rw [List.map_append, List.filter_append, e]
  exact intsAre_append h (.cons _ _ .nil)
theorem filt_no {p : Int → Bool} {pre : List (Int × Tok)} {c : Int} {t : Tok} {ys : List Value} (h : IntsAre ys ((pre.map (·.1)).filter p)) (hp : p c = false) : IntsAre ys (((pre ++ [(c, t)]).map (·.1)).filter p) := by
  have e : ([(c, t)].map (·.1)).filter p = [] := by simp [hp]
  rw [List.map_append, List.filter_append, e, List.append_nil]
  exact h
theorem allLt_at {d : Nat} {l : List (Addr × Obj)} (h : AllLt d l) : ∀ p ∈ l, @LT.lt Nat _ p.1 d := by
  induction l with
  | nil => intro p hp; cases hp
  | cons a r ih =>
    intro p hp
    rcases List.mem_cons.mp hp with rfl | hp
    · exact h.1
    · exact ih h.2 p hp
theorem put_mono {a b : List (Addr × Obj)} {l : Addr} {o : Obj} (h : ∀ p ∈ a, p ∈ b) : ∀ p ∈ putN a l o, p ∈ putN b l o := fun p hp => by
  rcases of_mem_putN hp with rfl | ⟨hp, hne⟩
  · exact List.mem_cons_self
  · exact mem_putN (h p hp) hne
theorem put_in {a b : List (Addr × Obj)} {l : Addr} {o : Obj} (hl : (l, o) ∈ b) (h : ∀ p ∈ a, p.1 ≠ l → p ∈ b) : ∀ p ∈ putN a l o, p ∈ b := fun p hp => by
  rcases of_mem_putN hp with rfl | ⟨hp, hne⟩
  · exact hl
  · exact h p hp hne
theorem put_off {a : List (Addr × Obj)} {l I : Addr} {o : Obj} (hl : l ≠ I) (h : ∀ p ∈ a, p.1 ≠ I) : ∀ p ∈ putN a l o, p.1 ≠ I := fun p hp => by
  rcases of_mem_putN hp with rfl | ⟨hp, _⟩
  · exact hl
  · exact h p hp
theorem push_trip (ts : List Trip) (c : Trip) : (ts.map fun c : Trip => Value.ref c.at_).toArray.push (Value.ref c.at_) = ((ts ++ [c]).map fun c : Trip => Value.ref c.at_).toArray := by simp
theorem TBears.snoc {rk : Nat → Nat} {ts : List Trip} {dp : List DC} {y : DC} (h : TBears rk ts (dp ++ [y])) : ∃ tp c, ts = tp ++ [c] ∧ c.n = rk y.1 ∧ c.k = y.1 ∧ c.t = y.2 ∧ TBears rk tp dp := by
  unfold TBears at h
  rw [List.map_append, List.map_eq_append_iff] at h
  obtain ⟨cp, l2, rfl, h1, h2⟩ := h
  rw [List.map_cons, List.map_nil, List.map_eq_cons_iff] at h2
  obtain ⟨c, r, rfl, h3, h4⟩ := h2
  rw [List.map_eq_nil_iff] at h4
  subst h4
  have e := Prod.mk.inj h3
  have e2 : c.k = y.1 ∧ c.t = y.2 := by
    have := congrArg Prod.fst e.2
    have h5 := congrArg Prod.snd e.2
    exact ⟨this, h5⟩
  exact ⟨cp, c, rfl, e.1, e2.1, e2.2, h1⟩
theorem pick_upto {ys : List Value} {a : Int} (k : Nat) (h : a = (k : Int)) : (slicePick ys.toArray none (some a) none).toList = ys.take k := by
  rw [h, slicePick_upto']
theorem TBears.take {rk : Nat → Nat} {ts : List Trip} {d : List DC} (h : TBears rk ts d) (k : Nat) : TBears rk (ts.take k) (d.take k) := by
  unfold TBears at *
  rw [List.map_take, List.map_take, h]
theorem TBears.dropRev {rk : Nat → Nat} {ts : List Trip} {d : List DC} (h : TBears rk ts d) (k : Nat) : TBears rk (ts.drop k).reverse (d.drop k).reverse := by
  unfold TBears at *
  rw [List.map_reverse, List.map_reverse, List.map_drop, List.map_drop, h]
theorem TBears.at {rk : Nat → Nat} {ts : List Trip} {d : List DC} {i : Nat} {c : Trip} (h : TBears rk ts d) (hc : ts[i]? = some c) : ∃ x, d[i]? = some x ∧ c.n = rk x.1 ∧ c.k = x.1 ∧ c.t = x.2 := by
  have e := congrArg (fun l : List (Nat × (Nat × Nat)) => l[i]?) h
  simp only [List.getElem?_map, hc] at e
  cases hd : d[i]? with
  | none => rw [hd] at e; cases e
  | some x =>
    rw [hd] at e
    have e2 := Prod.mk.inj (Option.some.inj e)
    exact ⟨x, rfl, e2.1, congrArg Prod.fst e2.2, congrArg Prod.snd e2.2⟩
theorem trip_vals (ts : List Trip) (k : Nat) : ((ts.map fun c : Trip => Value.ref c.at_).drop k).toArray.toList.reverse = ((ts.drop k).reverse).map fun c : Trip => Value.ref c.at_ := by simp
theorem trip_join (ts us : List Trip) (k : Nat) : ((ts.map fun c : Trip => Value.ref c.at_).take k).toArray.toList ++ (us.map fun c : Trip => Value.ref c.at_).toArray.toList = (ts.take k ++ us).map fun c : Trip => Value.ref c.at_ := by simp

theorem off23 : FillK := by w_top off; rfl
/-- a pair of the table as plain data, and all of them -/
def pairD (c : Card) : PyData := .tuple [.str c.nm, .str c.ld]
def cardsD (cards : List Card) : PyData := .list (cards.map pairD)
theorem reads_listN {h₀ : Heap} {a : Addr} {news : List (Addr × Obj)} {vs : List Value} {ds : List PyData} {n : Nat} (hm : (a, listOf vs.toArray n) ∈ news) (r : ReadsViaAll h₀ news vs ds) : ReadsVia h₀ news (.ref a) (.list ds) := fun h hk hn => by
  obtain ⟨as, ra⟩ := r h hk hn
  exact ⟨a :: as, .list (hn _ hm) rfl rfl (by rw [List.toList_toArray]; exact ra)⟩
theorem reads_all {h₀ : Heap} {news : List (Addr × Obj)} : ∀ {cards : List Card}, Tups cards news → ReadsViaAll h₀ news (cards.map fun c => Value.ref c.at_) (cards.map pairD)
  | [], _ => ReadsViaAll.nil
  | c :: r, h => by
    obtain ⟨t1, t2, ht⟩ := h c List.mem_cons_self
    exact ReadsViaAll.cons (ReadsVia.tuple (vs := [.str c.nm t1, .str c.ld t2]) ht (ReadsViaAll.cons (ReadsVia.str _ _) (ReadsViaAll.cons (ReadsVia.str _ _) ReadsViaAll.nil))) (reads_all fun c0 h0 => h c0 (List.mem_cons_of_mem _ h0))
theorem reads_cards {h₀ : Heap} {a : Addr} {news : List (Addr × Obj)} {cards : List Card} {n : Nat} (hm : (a, listOf (cards.map fun c => Value.ref c.at_).toArray n) ∈ news) (h : Tups cards news) : ReadsVia h₀ news (.ref a) (cardsD cards) := reads_listN hm (reads_all h)
theorem cardsD_eq {ld : Nat → Str} {a b : List Card} {d : List DC} (h1 : Bears ld a d) (h2 : Bears ld b d) : cardsD a = cardsD b := by
  have e : ∀ l : List Card, l.map pairD = (l.map fun c => (c.nm, c.ld)).map fun p => PyData.tuple [.str p.1, .str p.2] := fun l => by rw [List.map_map]; rfl
  unfold cardsD
  rw [e a, e b]
  unfold Bears at h1 h2
  rw [h1, h2]
theorem cards_showable (cards : List Card) : (cardsD cards).showable = true := by
  unfold cardsD
  simp only [PyData.showable]
  induction cards with
  | nil => rfl
  | cons c r ih => simp only [List.map_cons, PyData.showableAll, ih, pairD, PyData.showable, Bool.and_true]
theorem cards_noDict (cards : List Card) : (cardsD cards).hasDict = false := by
  unfold cardsD
  simp only [PyData.hasDict]
  induction cards with
  | nil => rfl
  | cons c r ih => simp only [List.map_cons, PyData.hasDictAll, ih, pairD, PyData.hasDict, Bool.or_false]
theorem cards_depth (cards : List Card) : (cardsD cards).depth ≤ 5 := by
  unfold cardsD
  simp only [PyData.depth]
  have h : PyData.depthAll (cards.map pairD) ≤ 3 := by
    induction cards with
    | nil => simp [PyData.depthAll]
    | cons c r ih =>
      simp only [List.map_cons, PyData.depthAll, pairD, PyData.depth]
      omega
  omega
theorem small_sgn {d : DC} (h : d.1 < 6) : ∀ c ∈ (sgn (codeOf d)).cps.toList, c < 16 ^ 8 := fun c hc => by
  have e : c = codeOf d := by simpa [sgn] using hc
  have := code_lt d h
  rw [e]; omega
theorem small_lead (v : Int) : ∀ c ∈ (leadOf v).cps.toList, c < 16 ^ 8 := fun c hc => by
  obtain ⟨a, t, b, ha, ht, hb, e, _⟩ := leadOf_parts v
  rw [e] at hc
  have h2 : c = 32 ∨ c = 9 := by
    simp [leadT] at hc
    omega
  omega
theorem cards_short {nums : List Int} {cards : List Card} {d : List DC} (h : Bears (ldOf nums) cards d) (hd : ∀ x ∈ d, x.1 < 6) (hl : cards.length ≤ 6) : (cardsD cards).shown.length ≤ sizeLine := by
  rw [sizeLine_eq]
  unfold cardsD
  simp only [PyData.shown]
  rw [shownAll_eq_map]
  refine Nat.le_trans (listText_len_le _) ?_
  have key : ∀ c ∈ cards, (pairD c).shown.length ≤ 10000 := fun c hc => by
    obtain ⟨x, hx, e1, e2⟩ := h.mem hc
    unfold pairD
    simp only [PyData.shown, PyData.shownAll]
    refine Nat.le_trans (tupleText_len_le _) ?_
    have h1 : (reprText c.nm).length ≤ 12 := by
      rw [e1]
      refine Nat.le_trans (StrLaws.reprText_len _ (small_sgn (hd x hx))) ?_
      show 10 * 1 + 2 ≤ 12
      omega
    have h2 : (reprText c.ld).length ≤ 3002 := by
      rw [e2]
      have h3 := leadOf_short (nums.getD x.1 0)
      refine Nat.le_trans (StrLaws.reprText_len _ (small_lead _)) ?_
      unfold ldOf
      omega
    simp only [List.map_cons, List.map_nil, List.sum_cons, List.sum_nil, List.length_cons, List.length_nil]
    omega
  have hs : ∀ l : List Card, (∀ c ∈ l, (pairD c).shown.length ≤ 10000) → (((l.map pairD).map PyData.shown).map (·.length)).sum ≤ 10000 * l.length := by
    intro l
    induction l with
    | nil => intro _; simp
    | cons c r ih =>
      intro hk
      have h1 := hk c List.mem_cons_self
      have h2 := ih fun c hc => hk c (List.mem_cons_of_mem _ hc)
      simp only [List.map_cons, List.sum_cons, List.length_cons]
      omega
  have := hs cards key
  rw [List.length_map, List.length_map]
  omega

local macro_rules | `(tactic| walk_at "eval Name") => `(tactic| (k_here; (with_reducible show wpAny _ _ (eval (Expr.Name _ _) (envOfC _ _ _ _ _)) _ _ _); k_dflt (refine' nameX_L ?F ?v ?_ ?a ?b; (case F => k_asm); (case a => rfl); (case b => rfl); (case v => assumption); k_whole)))
set_option maxHeartbeats 0 in
theorem whole : PySem.Challenge.rw_pg0320_01.Holds := Mine.hd (by
  w_strict (
    w_top off
    k_go0; (all_goals try k_fold); (have hMk9 : FillK := rfl)
    (rename IntsAre _ _ => hI0)
    (rename List Int => script)
    iterate 56 walk_at "S"
    (rename Fr _ _ _ _ => F1); (rename News _ _ _ _ => N1)
    k_dflt (refine kba_turn (value' := PySem.Expr.Name (PySem.Str.ofString "_") ⟨0, 0, 0, 0⟩) (fun _ => rfl) ?_)
    k_dflt (refine kmk_slice_ints F1 N1 (News.isList N1 (by k_mem)) (IsPart.int _ _) IsPart.none (.cons _ _ (.cons _ _ (.cons _ _ (.cons _ _ (.cons _ _ (.cons _ _ .nil)))))) (kmk_from (.cons _ _ (.cons _ _ (.cons _ _ (.cons _ _ (.cons _ _ (.cons _ _ .nil)))))) (Int.natCast_nonneg _)) rfl (fun D1 ws1 h1 F2 N2 l2 hI1 hc1 hle1 => ?_) (by with_unfolding_all rfl) (by intro _; with_unfolding_all rfl) (by show 6 ≤ sizeLine; decide))
    clear F1 N1
    k_lt l2
    dsimp only
    iterate 6 walk_at "S"
    (rename Fr _ _ _ _ => F3); (rename News _ _ _ _ => N3); (rename IntsAre _ _ => hI3)
    k_dflt (refine kba_turn (value' := PySem.Expr.Name (PySem.Str.ofString "_") ⟨0, 0, 0, 0⟩) (fun _ => rfl) ?_)
    k_dflt (refine kmk_slice_ints F3 N3 (News.isList N3 (by k_mem)) IsPart.none (IsPart.int _ _) hI3 (kmk_upto hI3 (by rw [Int.fmod_eq_emod_of_nonneg _ (by decide)]; omega)) rfl (fun D3 ws3 h3 F4 N4 l4 hI4 hc4 hle4 => ?_) (by with_unfolding_all rfl) (by intro _; with_unfolding_all rfl) (by rw [List.size_toArray, IntsAre.length hI3, List.length_append, List.length_take]; have : (List.drop (script.length : Int).toNat [(23 : Int), 9, 1, 5, 4, 12]).length ≤ 6 := (by simp); have : (6:Nat) + 6 ≤ sizeLine := (by decide); omega))
    clear F3 N3
    k_lt l4
    dsimp only
    iterate 27 walk_at "S"
    refine wpAny_Assign_Name ?_ (by rfl)
    k_dflt (refine gen_comp (by with_unfolding_all rfl) (by rfl) (by decide) ?_)
    iterate 1 walk_at "S"
    (rename Fr _ _ _ _ => F5); (rename News _ _ _ _ => N5)
    k_dflt (refine gen_list (fun i ys nw => nw = _ ∧ StrsAre ys ((List.take i (List.take (5 + (script.length : Int).fmod 2).toNat (List.take 6 script ++ List.drop (script.length : Int).toNat [(23 : Int), 9, 1, 5, 4, 12]))).map leadOf)) (fun i m₂ => ∃ n t, (List.take (5 + (script.length : Int).fmod 2).toNat (List.take 6 script ++ List.drop (script.length : Int).toNat [(23 : Int), 9, 1, 5, 4, 12]))[i]? = some n ∧ m₂ (Str.ofString "v") = some (.int n t)) (by rfl) F5 N5 (by k_mem) ?_ (by decide) (by rfl) ?_ ⟨rfl, StrsAre.nil⟩ ?_ ?_)
    · rw [List.size_toArray, IntsAre.length hI4, List.length_take, List.length_append, List.length_take]
      have : (List.drop (script.length : Int).toNat [(23 : Int), 9, 1, 5, 4, 12]).length ≤ 6 := (by simp)
      have : (6:Nat) + 6 ≤ sizeLine := (by decide)
      omega
    · rintro i v C g h tk m₁ Q' E' hv hn _ k
      obtain ⟨n, t, rfl, hn'⟩ := IntsAre.at hI4 i v (by simpa using hv)
      exact asg_name (by rfl) (by rfl) hn (fun h' tk' m₂ hm => k h' tk' m₂ ⟨n, t, hn', hm⟩)
    · rintro i g hi ys nw all C oC m₂ h tk E' ⟨rfl, hys⟩ ⟨n, t, hn, hm2⟩ hC hCall hsub F9 N9
      clear F5 N5
      iterate 31 walk_at "S"
      refine ⟨_, _, [], rfl, F9, N9, fun p hp => absurd hp List.not_mem_nil, rfl, ?_⟩
      rw [lead_text, List.take_add_one, hn, List.map_append]
      exact hys.append' (.cons _ _ .nil)
    · rintro ys nw D5 C h tk m' ⟨rfl, hys⟩ F6 N6 off6 c1 c2 c3 c4 c5
      clear F5 N5
      k_dflt (refine gen_none F6 N6 c1 c2 c3 c4 c5 (fun h7 F7 N7 => ?_))
      clear F6 N6
      replace off6 := allNe_of off6
      simp only [AllNe, and_true] at off6
      w_top off
      iterate 1 walk_at "S"
      iterate 6 walk_at "S"
      (rename Fr _ _ _ _ => F8); (rename News _ _ _ _ => N8)
      (rename Obj.data _ = Data.cell (some (Value.ref _)) => dL)
      (rename Obj.data _ = Data.cell (some (Value.int _ _)) => dS)
      obtain ⟨nums, hnums⟩ : ∃ x, x = numsOf script := ⟨_, rfl⟩
      obtain ⟨hlen, hmany⟩ := nums_len script
      obtain ⟨sz, hsz, hsz2, hsz5⟩ := size_is (List.take 6 script).sum
      rw [← hnums] at hlen hmany
      have hys2 : StrsAre ys (nums.map leadOf) := by
        have hl : ws3.toArray.size = nums.length := by rw [hnums, List.size_toArray]; exact IntsAre.length hI4
        rw [hl] at hys
        have : StrsAre ys ((List.take nums.length (numsOf script)).map leadOf) := hys
        rw [← hnums, List.take_length] at this
        exact this
      rw [hsz] at dS
      obtain ⟨m9, hm9, F9⟩ := fr_gen F8
      obtain ⟨base, hbase, N9⟩ := news_gen N8
      have hmD : (D5, LCg.lst ys) ∈ base := by rw [hbase]; exact List.mem_cons_self
      have hmL := cell_mem (l := base) dL (by rw [hbase]; walk_at "MEM")
      have hmS := cell_mem (l := base) dS (by rw [hbase]; walk_at "MEM")
      (rename Shared => s1)
      obtain ⟨oCol, vCol, hmC, dCol⟩ : ∃ oC v0, ((s1.heap.objs.size + 1 + 1 + 1 : Nat), oC) ∈ base ∧ oC.data = Data.cell v0 := by
        rw [hbase]
        exact ⟨_, _, by walk_at "MEM", by assumption⟩
      have hmm : ∃ t, m9 (Str.ofString "many") = some (.int (nums.length : Int) t) := by
        rw [hmany] at hm9
        rw [hm9]
        exact ⟨_, rfl⟩
      obtain ⟨tm, hmm⟩ := hmm
      clear N8 F8
      w_top off
      k_dflt (refine gen_comp (by with_unfolding_all rfl) (by rfl) (by decide) ?_)
      iterate 4 walk_at "S"
      k_dflt (refine nameX_C N9 (by rfl) hmL dL ?_ (by rfl) (by rfl))
      iterate 1 walk_at "S"
      k_dflt (refine gen_enum (fun i ys nw => ∃ cards, (∀ p ∈ base, p ∈ nw) ∧ ys = cards.map (fun c => Value.ref c.at_) ∧ Bears (ldOf nums) cards (deck0 i) ∧ ∀ c ∈ cards, ∃ t1 t2, (c.at_, tupO (.str c.nm t1) (.str c.ld t2)) ∈ nw) (by rfl) F9 N9 hmD ?_ (by decide) (by rfl) (by rfl) (by rfl) (by decide) ⟨[], fun p hp => hp, rfl, rfl, fun c hc => absurd hc List.not_mem_nil⟩ ?_ ?_)
      · rw [List.size_toArray, StrsAre.len_eq hys2, List.length_map]
        have : (6:Nat) ≤ sizeLine := (by decide)
        omega
      · rintro i g hi ys3 nw all C2 oC m₂ h tk E' ⟨cards, hsub0, rfl, hb, htup⟩ ⟨t, v, hv, hm2, hm3⟩ hC hCall hsub F10 N10
        clear F9 N9
        rw [List.size_toArray, StrsAre.len_eq hys2, List.length_map] at hi
        obtain ⟨tl, hvl⟩ := StrsAre.at hys2 (j := i) (y := ldOf nums i) (by rw [List.getElem?_map]; unfold ldOf; rw [List.getD_eq_getElem?_getD, List.getElem?_eq_getElem hi]; rfl)
        have hv2 : v = Value.str (ldOf nums i) tl := by
          have : ys.toArray[i]? = ys[i]? := by simp
          rw [this, hvl] at hv
          exact (Option.some.inj hv).symm
        subst hv2
        iterate 17 walk_at "S"
        (rename Fr _ _ _ _ => F12); (rename News _ _ _ _ => N12); (rename ∀ p, p ∈ all → p.1 < _ => l12)
        have htx : (⟨#[(97 + (i : Int)).toNat]⟩ : Str) = sgn (codeOf (i, 0)) := by
          have e : (97 + (i : Int)).toNat = 97 + i := by omega
          rw [e]; rfl
        refine ⟨_, _, [_], rfl, F12, N12, fun p hp q hq => ?_, cards ++ [Card.mk _ (sgn (codeOf (i, 0))) (ldOf nums i)], fun p hp => List.mem_cons_of_mem _ (hsub0 p hp), by rw [List.map_append]; rfl, ?_, fun c hc => ?_⟩
        · rw [List.mem_singleton.mp hp]; exact Nat.ne_of_gt (l12 q hq)
        · rw [deck0_succ]; exact hb.append (Bears.cons rfl rfl Bears.nil)
        · rcases List.mem_append.mp hc with hc | hc
          · obtain ⟨t1, t2, ht⟩ := htup c hc
            exact ⟨t1, t2, List.mem_cons_of_mem _ ht⟩
          · rw [List.mem_singleton.mp hc, ← htx]
            exact ⟨_, _, List.mem_cons_self⟩
      · rintro ys3 nw D6 C2 h tk m2 ⟨cards, hsub0, rfl, hb, htup⟩ F10 N10 off10 d1 d2 d3 d4 d5
        clear F9 N9
        k_dflt (refine gen_none F10 N10 d1 d2 d3 d4 d5 (fun h11 F11 N11 => ?_))
        clear F10 N10
        w_top off
        iterate 2 walk_at "S"
        rw [List.size_toArray, StrsAre.len_eq hys2, List.length_map] at hb
        have hdk : ∀ x ∈ deck0 nums.length, x.1 < 6 := fun x hx => by have := deck0_lt hx; omega
        have hcl : cards.length = nums.length := by rw [hb.length]; simp [deck0]
        k_dflt (refine Says.use (init_says (l := D6) (ep := (List.map (fun c => Value.ref c.at_) cards).length) (cards := cards) List.mem_cons_self (Tups.mono htup fun p hp => List.mem_cons_of_mem _ hp) (hb.clean hdk)) (by k_asm) (by k_asm) (by k_asm) (by exact N11) (by k_asm) (by first | exact rfl | assumption) (by walk_at "ROOM") (by walk_at "ROOM") ?_)
        rintro _ _ h12 tk12 F12 N12 ⟨x, dx, th, tt, nd, rfl, rfl, offx, hxdx⟩
        clear N11 F11
        dsimp only
        obtain ⟨base2, hbase2, N13⟩ := news_gen N12
        have tab0 : Tab base2 x dx D6 cards (List.map (fun c => Value.ref c.at_) cards).length := by
          rw [hbase2]
          exact ⟨List.mem_cons_self, ⟨th, tt, nd, List.mem_cons_of_mem _ List.mem_cons_self⟩, List.mem_cons_of_mem _ (List.mem_cons_of_mem _ List.mem_cons_self), Tups.mono htup fun p hp => List.mem_cons_of_mem _ (List.mem_cons_of_mem _ (List.mem_cons_of_mem _ hp))⟩
        have hsub2 : ∀ p ∈ base, p ∈ base2 := by
          rw [hbase2]
          exact fun p hp => List.mem_cons_of_mem _ (List.mem_cons_of_mem _ (List.mem_cons_of_mem _ (hsub0 p hp)))
        clear N12 htup
        have hinst := tab0.inst
        obtain ⟨th2, tt2, nd2, hdict⟩ := tab0.dict
        have hlst := tab0.lst
        iterate 6 walk_at "S"
        (k_dflt (refine' newList_K ?k1 ?k2 ?_; (case k1 => k_asm); (case k2 => k_asm); k_whole))
        intro rowA hrw Frw Nrw lrow
        try k_sweep
        iterate 3 walk_at "S"
        (rename Fr _ _ _ _ => F13)
        (with_unfolding_all refine For_turns F13 ?_)
        iterate 4 walk_at "S"
        (rename News _ _ _ _ => N14)
        k_dflt (refine Says.use (items_says (tab0.mono fun p hp => List.mem_cons_of_mem _ hp) (by omega)) (by k_asm) (by k_asm) (by k_asm) (by exact N14) (by k_asm) (by first | exact rfl | assumption) (by walk_at "ROOM") (by walk_at "ROOM") ?_)
        rintro _ _ h14 tk14 F14 N15 ⟨Di, ki, rfl, rfl, offi⟩
        clear N14 F13
        dsimp only
        k_dflt (refine loop_list (xs := cards) (f := fun c => Value.ref c.at_) (fun r m nw => ∃ pre vs ns er, cards = pre ++ r ∧ IntsAre vs ns ∧ (rowA, listOf vs.toArray er) ∈ nw ∧ ns.Pairwise (· ≤ ·) ∧ ns.Perm (keysFrom 0 ((nums.map (colN sz)).take pre.length)) ∧ (∀ p ∈ base2, p ∈ nw) ∧ m (Str.ofString "row") = some (.ref rowA) ∧ m (Str.ofString "table") = some (.ref x) ∧ m (Str.ofString "many") = some (.int (nums.length : Int) tm)) (by rfl) F14 N15 List.mem_cons_self ⟨[], [], [], _, rfl, .nil, List.mem_cons_of_mem _ List.mem_cons_self, .nil, .refl _, fun p hp => List.mem_cons_of_mem _ (List.mem_cons_of_mem _ hp), rfl, rfl, hmm⟩ ?_ ?_)
        · rintro c r m n I it h tk _ ⟨pre, vs, ns, er, hpre, hi, hrow, hsrt, hprm, hsb, hm1, hm2, hm3⟩ hDi hit F15 N16 off15
          w_top off
          have hcm : c ∈ cards := by rw [hpre]; simp
          obtain ⟨t1, t2, hc⟩ := tab0.tups c hcm
          have hc2 := hsb _ hc
          rw [hpre] at hb
          obtain ⟨y, hy, hnm, hld⟩ := hb.at
          obtain ⟨rfl, hk⟩ := deck0_get hy
          rw [← hpre] at hb
          rw [hnm, hld, ldOf_norm] at hc2
          obtain ⟨-, hA6, hT2, hTZ, hTA, hZ4⟩ := leadOf_norm (nums.getD pre.length 0)
          (try dsimp only [envOfC] at F15 N16)
          k_dflt (refine unpackN_ (by k_asm) (by k_asm) (News.isTup (by k_asm) (List.mem_cons_of_mem _ hc2)) (by exact rfl) (by exact rfl) (by exact rfl) ?_)
          intro h2 F2 N2
          (try dsimp only)
          clear F15 N16
          iterate 26 walk_at "S"
          (rename News _ _ _ _ => N3)
          k_dflt (refine Says.use (ws_says hA6 hT2 hTZ hTA hZ4) (by k_asm) (by k_asm) (by k_asm) (by exact N3) (by k_asm) (by first | exact rfl | assumption) (by walk_at "ROOM") (by walk_at "ROOM") ?_)
          rintro _ n3 h3 tk3 F3 N4 ⟨xw, rfl, hws, hsub3⟩
          clear N3
          dsimp only
          have hws0 := hws
          obtain ⟨dw, ew, Dw, Tw, vw, q1, q2, q3, q4, q5, k1, k2, k3, k4, k5, t3, t4, v1, v2, v5, winst, wdict, wD, wT, wi⟩ := hws
          iterate 3 walk_at "S"
          k_dflt (refine nameX_C N4 (by rfl) (hsub3 _ (List.mem_cons_of_mem _ (hsb _ (hsub2 _ hmS)))) dS ?_ (by rfl) (by rfl))
          iterate 2 walk_at "S"
          k_dflt (refine Says.use (indent_says hws0 hA6 hT2 hTA hsz2 hsz5) (by k_asm) (by k_asm) (by k_asm) (by exact N4) (by k_asm) (by first | exact rfl | assumption) (by walk_at "ROOM") (by walk_at "ROOM") ?_)
          rintro _ _ h4 tk4 F4 N5 ⟨⟨ti, rfl⟩, rfl⟩
          clear N4 F3
          dsimp only
          iterate 15 walk_at "S"
          (rename News _ _ _ _ => N6)
          k_dflt (refine Says.use (insort_says (hsub3 _ (List.mem_cons_of_mem _ hrow)) hi hsrt (by rw [hprm.length_eq, keysFrom_length, List.length_take, List.length_map]; omega)) (by k_asm) (by k_asm) (by k_asm) (by exact N6) (by k_asm) (by first | exact rfl | assumption) (by walk_at "ROOM") (by walk_at "ROOM") ?_)
          rintro _ _ h5 tk5 F6 N7 ⟨rfl, vs2, ep2, hi2, rfl⟩
          clear N6
          dsimp only
          iterate 1 walk_at "S"
          have hx := key_is (pre.length, 0) (by show pre.length < 6; omega) (colW (nA (nums.getD pre.length 0)) (nT (nums.getD pre.length 0)) (nZ (nums.getD pre.length 0)) sz)
          k_dflt (exact LEnd.put F6 N7 (hsub3 _ List.mem_cons_self) (fun p hp => hsub3 p (List.mem_cons_of_mem _ hp)) off15 hrow hDi (Ne.symm (offi (rowA, _) List.mem_cons_self)) ⟨pre ++ [c], vs2, _, ep2, by rw [hpre]; simp, hi2, List.mem_cons_self, insNs_sorted _ hsrt, by rw [List.length_append, List.length_singleton]; exact row_step hk hprm hx, sub_put hsb fun p hp => Nat.ne_of_lt (lrow p hp), hm1, hm2, hm3⟩)
        · rintro m n h tk ⟨pre, vs, ns, er, hpre, hi, hrow, hsrt, hprm, hsb, hm1, hm2, hm3⟩ F15 N16
          w_top off
          rw [List.append_nil] at hpre
          rw [← hpre, hcl, List.take_of_length_le (by rw [List.length_map]; exact Nat.le_refl _)] at hprm
          clear N15 F14
          iterate 20 walk_at "S"
          iterate 10 walk_at "S"
          (rename Fr _ _ _ _ => F17); (rename News _ _ _ _ => N17); (rename IsRange _ _ _ _ _ _ _ _ => R17)
          k_dflt (refine loop_range (fun i m nw => (∀ p ∈ n, p ∈ nw) ∧ (∃ t1, m (Str.ofString "last") = some (.int (((fibP i).1 : Nat) : Int) t1)) ∧ (∃ t1, m (Str.ofString "most") = some (.int (((fibP i).2 : Nat) : Int) t1)) ∧ m (Str.ofString "row") = some (.ref rowA) ∧ m (Str.ofString "table") = some (.ref x) ∧ m (Str.ofString "many") = some (.int (nums.length : Int) tm)) (n := nums.length - 1) rfl R17 (small_of (by omega) (by omega)) (size_is_ _ (by omega)) F17 N17 ⟨fun p hp => List.mem_cons_of_mem _ hp, ⟨_, rfl⟩, ⟨_, rfl⟩, hm1, hm2, hm3⟩ ?_ ?_)
          · rintro i m2 n2 I2 it2 h5 tk5 u hin ⟨hsb2, ⟨t1, hl⟩, ⟨t2, hmo⟩, hm12, hm22, hm32⟩ F18 N18 off18
            clear F17 N17 R17
            iterate 22 walk_at "S"
            (rename Fr _ _ _ _ => F19); (rename News _ _ _ _ => N19)
            k_dflt (exact SEnd.next F19 N19 (fun p hp => List.mem_cons_of_mem _ hp) off18 ⟨⟨hsb2, ⟨_, rfl⟩, ⟨_, congrArg (fun z => some (Value.int z _)) (Int.natCast_add _ _).symm⟩, hm12, hm22, hm32⟩, off18⟩)
          · rintro m2 n2 h5 tk5 ⟨hsb2, ⟨t1, hl⟩, ⟨t2, hmo⟩, hm12, hm22, hm32⟩ F18 N18
            clear F17 N17 R17
            w_top off
            clear hm9
            obtain ⟨K, hK, hKn⟩ : ∃ K : Nat, (((fibP (nums.length - 1)).2 : Nat) : Int) - 1 - 0 = (K : Int) ∧ ((nums.length = 5 ∧ K = 7) ∨ (nums.length = 6 ∧ K = 12)) := by
              rcases hlen with h | h
              · rw [h]; exact ⟨7, by decide, .inl ⟨rfl, rfl⟩⟩
              · rw [h]; exact ⟨12, by decide, .inr ⟨rfl, rfl⟩⟩
            obtain ⟨rk, hrk⟩ : ∃ r, r = rankC (nums.map (colN sz)) := ⟨_, rfl⟩
            iterate 12 walk_at "S"
            (rename Fr _ _ _ _ => F19); (rename News _ _ _ _ => N19); (rename IsRange _ _ _ _ _ _ _ _ => R19)
            have hxl : x ≠ D6 := (tab_apart N19 (tab0.mono fun p hp => hsb2 p (hsb p hp))).1
            have hrl : rowA ≠ D6 := Ne.symm (Nat.ne_of_lt (lrow _ hlst))
            k_dflt (refine loop_range (fun i m nw => (∃ cards ep, Tab nw x dx D6 cards ep ∧ Bears (ldOf nums) cards (itD rk i (deck0 nums.length))) ∧ (∀ p ∈ n2, p.1 ≠ D6 → p ∈ nw) ∧ (∃ t1, m (Str.ofString "most") = some (.int (((fibP (nums.length - 1)).2 : Nat) : Int) t1)) ∧ m (Str.ofString "row") = some (.ref rowA) ∧ m (Str.ofString "table") = some (.ref x) ∧ m (Str.ofString "many") = some (.int (nums.length : Int) tm)) (n := K) rfl R19 (small_of (by omega) (by omega)) (size_is_ _ hK) F19 N19 ⟨⟨cards, _, tab0.mono fun p hp => hsb2 p (hsb p hp), hb⟩, fun p hp _ => hp, ⟨_, hmo⟩, hm12, hm22, hm32⟩ ?_ ?_)
            · rintro i m3 n3 I3 it3 h6 tk6 u hin ⟨⟨cards3, ep3, tab3, hb3⟩, hsb3, ⟨t3, hmo3⟩, hm13, hm23, hm33⟩ F20 N20 off20
              clear F19 N19 R19
              w_top off
              obtain ⟨dp, y, hdy⟩ := deck_last (rk := rk) (i := i) (n := nums.length) (by omega)
              rw [hdy] at hb3
              obtain ⟨cp, c, rfl, hnm, hld, hbp⟩ := hb3.snoc
              have hyl : y.1 < nums.length := deck_lt (rk := rk) (i := i) (by rw [hdy]; simp)
              have hd6 : ∀ z ∈ dp ++ [y], z.1 < 6 := fun z hz => by
                have := deck_lt (rk := rk) (i := i) (n := nums.length) (by rw [hdy]; exact hz)
                omega
              have hrow3 := hsb3 _ (hsb2 _ hrow) hrl
              have hS3 := hsb3 _ (hsb2 _ (hsb _ (hsub2 _ hmS))) (off10 _ (hsub0 _ hmS))
              obtain ⟨-, hA6, hT2, hTZ, hTA, hZ4⟩ := leadOf_norm (nums.getD y.1 0)
              iterate 10 walk_at "S"
              k_dflt (refine nameX_C N20 (by rfl) (List.mem_cons_of_mem _ hS3) dS ?_ (by rfl) (by rfl))
              iterate 2 walk_at "S"
              (rename News _ _ _ _ => N21)
              obtain ⟨cf, hcf, hcfl⟩ := hb3.found hd6 (k := y.1) (by simp)
              k_dflt (refine Says.use (number_says (tab3.mono fun p hp => List.mem_cons_of_mem _ hp) hb3.short (by rw [hb3.length, ← hdy, deck_length]; omega) hnm (code_low_clean y (by omega)) ⟨cf, by rw [lower_code y (by omega)]; exact hcf, by rw [hcfl]; exact ldOf_norm nums y.1⟩ (List.mem_cons_of_mem _ hrow3) hi hsrt (by rw [hprm.length_eq, keysFrom_length, List.length_map]; omega) hA6 hT2 hTZ hTA hZ4 hsz2 hsz5) (by k_asm) (by k_asm) (by k_asm) (by exact N21) (by k_asm) (by first | exact rfl | assumption) (by walk_at "ROOM") (by walk_at "ROOM") ?_)
              rintro _ _ h7 tk7 F22 N22 ⟨⟨ti, rfl⟩, rfl⟩
              clear N21
              rw [top_is hyl (by omega) hprm, ← hrk]
              dsimp only
              iterate 10 walk_at "S"
              · (rename 1 < _ => hgt)
                w_top off
                have hinst3 := tab3.inst
                obtain ⟨th3, tt3, nd3, hdict3⟩ := tab3.dict
                have hlst3 := tab3.lst
                iterate 1 walk_at "S"
                (rename Fr _ _ _ _ => F23)
                (with_unfolding_all refine For_turns F23 ?_)
                iterate 6 walk_at "S"
                (rename News _ _ _ _ => N23)
                k_dflt (refine Says.use (keys_says (tab3.mono fun p hp => List.mem_cons_of_mem _ hp) (by rw [hb3.length, ← hdy, deck_length]; omega)) (by k_asm) (by k_asm) (by k_asm) (by exact N23) (by k_asm) (by first | exact rfl | assumption) (by walk_at "ROOM") (by walk_at "ROOM") ?_)
                rintro _ _ h8 tk8 F24 N24 ⟨Dk, ys8, rfl, rfl, offk, hys8⟩
                dsimp only
                have hrkl := rk_le hprm hsrt (by omega) hyl
                rw [← hrk] at hrkl
                have hyl8 : ys8.length = nums.length := by
                  rw [StrsAre.len_eq hys8, List.length_map, hb3.length, ← hdy, deck_length]
                have hsl : (6 : Nat) ≤ sizeLine := by decide
                iterate 8 walk_at "S"
                k_dflt (refine kba_turn (value' := PySem.Expr.Name (PySem.Str.ofString "_") ⟨0, 0, 0, 0⟩) (fun _ => rfl) ?_)
                k_dflt (refine kmk_slice_lit F24 N24 (News.isList N24 List.mem_cons_self) (IsPart.int _ _) IsPart.none (pick_from (nums.length - rk y.1) (by omega)) (fun D9 h9 F25 N25 l25 => ?_) (by with_unfolding_all rfl) (by intro _; with_unfolding_all rfl) (by rw [List.size_toArray]; omega))
                clear F24 N24
                iterate 7 walk_at "S"
                k_dflt (refine kba_turn (value' := PySem.Expr.Name (PySem.Str.ofString "_") ⟨0, 0, 0, 0⟩) (fun _ => rfl) ?_)
                k_dflt (refine krv_lit F25 N25 (News.isList N25 List.mem_cons_self) (IsPart.int _ _) rfl (fun D10 h10 F26 N26 l26 => ?_) (by with_unfolding_all rfl) (by intro _; with_unfolding_all rfl) (by rw [List.size_toArray, List.length_drop]; omega))
                clear F25 N25
                have hDl : D10 ≠ D6 := Ne.symm (Nat.ne_of_lt (l26 _ (List.mem_cons_of_mem _ (List.mem_cons_of_mem _ (List.mem_cons_of_mem _ hlst3)))))
                have hI3l : I3 ≠ D6 := Ne.symm (off20 _ hlst3)
                have hzs : StrsAre (List.drop (nums.length - rk y.1) ys8).toArray.toList.reverse ((((dp ++ [y]).drop (nums.length - rk y.1)).reverse).map (fun z => sgn (codeOf z))) := by
                  rw [hb3.names] at hys8
                  have := StrsAre.rev_ (hys8.drop' (nums.length - rk y.1))
                  rw [← List.map_drop, ← List.map_reverse] at this
                  exact this
                k_dflt (refine loop_list (xs := (List.drop (nums.length - rk y.1) ys8).toArray.toList.reverse) (f := id) (ax := D10) (n := 0) (fun r m nw => InnJ x dx D6 I3 it3 nums (dp ++ [y]) (nums.length - rk y.1) n2 r nw ∧ (∃ t1, m (Str.ofString "most") = some (.int (((fibP (nums.length - 1)).2 : Nat) : Int) t1)) ∧ m (Str.ofString "row") = some (.ref rowA) ∧ m (Str.ofString "table") = some (.ref x) ∧ m (Str.ofString "many") = some (.int (nums.length : Int) tm)) (by rfl) F26 N26 (by rw [List.map_id]; exact List.mem_cons_self) ⟨⟨((dp ++ [y]).drop (nums.length - rk y.1)).reverse, [], cp ++ [c], ep3, rfl, hzs, tab3.mono fun p hp => List.mem_cons_of_mem _ (List.mem_cons_of_mem _ (List.mem_cons_of_mem _ (List.mem_cons_of_mem _ hp))), by rw [List.reverse_reverse, List.take_append_drop, List.map_nil, List.append_nil]; exact hb3, fun c0 hc0 => by obtain ⟨t1, t2, ht⟩ := tab3.tups c0 hc0; exact off20 _ ht, List.mem_cons_of_mem _ (List.mem_cons_of_mem _ (List.mem_cons_of_mem _ List.mem_cons_self)), fun p hp hne => List.mem_cons_of_mem _ (List.mem_cons_of_mem _ (List.mem_cons_of_mem _ (List.mem_cons_of_mem _ (hsb3 p hp hne))))⟩, ⟨_, hmo3⟩, hm13, hm23, hm33⟩ ?_ ?_)
                · rintro v r m4 n4 I4 it4 h11_ tk11 ⟨pr, hpr⟩ ⟨⟨rd, pd, cards4, ep4, hpd, hrs, tab4, hb4, hcI, hI3, hsb4⟩, ⟨t4, hmo4⟩, hm14, hm24, hm34⟩ hD10 hit4 F27 N27 off27
                  clear F26 N26
                  w_top off
                  rcases rd with _ | ⟨a, rd⟩
                  · cases hrs
                  cases hrs with | cons _ ta hrs2 =>
                  have hpm := inn_perm hpd
                  rw [List.reverse_cons] at hb4 hpm
                  have ham : a ∈ dp ++ [y] := by
                    have h1 : a ∈ ((dp ++ [y]).drop (nums.length - rk y.1)).reverse := by rw [← hpd]; simp
                    exact List.mem_of_mem_drop (List.mem_reverse.mp h1)
                  have ha6 : a.1 < 6 := hd6 a ham
                  have h46 : ∀ z ∈ (dp ++ [y]).take (nums.length - rk y.1) ++ (rd.reverse ++ [a]) ++ pd.map turnD, z.1 < 6 := fun z hz => by
                    have h1 := hpm.subset (List.mem_map.mpr ⟨z, hz, rfl⟩)
                    obtain ⟨z2, hz2, e⟩ := List.mem_map.mp h1
                    rw [← e]
                    exact hd6 z2 hz2
                  have h4n : (((dp ++ [y]).take (nums.length - rk y.1) ++ (rd.reverse ++ [a]) ++ pd.map turnD).map (·.1)).Nodup := hpm.nodup_iff.mpr (by rw [← hdy]; exact deck_nodup _ _ _)
                  have hlen4 : cards4.length = nums.length := by
                    rw [hb4.length, ← List.length_map (f := fun z : DC => z.1), hpm.length_eq, List.length_map, ← hdy, deck_length]
                  obtain ⟨ca, hca, hcal⟩ := hb4.found h46 (k := a.1) (by simp)
                  have hinst4 := tab4.inst
                  obtain ⟨th4, tt4, nd4, hdict4⟩ := tab4.dict
                  have hlst4 := tab4.lst
                  k_dflt (show wpAny _ _ (assign _ _ (Value.str (sgn (codeOf a)) ta)) _ _ _)
                  iterate 13 walk_at "S"
                  (rename News _ _ _ _ => N28)
                  k_dflt (refine Says.use (get_says (tab4.mono fun p hp => List.mem_cons_of_mem _ hp) hb4.short (code_low_clean a ha6) (by show 1 < 300; decide)) (by k_asm) (by k_asm) (by k_asm) (by exact N28) (by k_asm) (by first | exact rfl | assumption) (by walk_at "ROOM") (by walk_at "ROOM") ?_)
                  rintro v2 _ h29 tk29 F29 N29 ⟨hf, rfl⟩
                  clear N28
                  have hv2 : ∃ tv, v2 = .str (ldOf nums a.1) tv := by
                    unfold FoundIs at hf
                    rw [lower_code a ha6, hca] at hf
                    obtain ⟨tv, hf⟩ := hf
                    exact ⟨tv, by rw [hf, hcal]⟩
                  obtain ⟨tv, rfl⟩ := hv2
                  (try dsimp only)
                  iterate 16 walk_at "S"
                  rw [xor_turn a ha6]
                  have hcl4 := code_lt (turnD a) ha6
                  iterate 2 walk_at "S"
                  rw [Int.toNat_natCast]
                  k_dflt (refine Says.use (set_says (nm := sgn (codeOf (turnD a))) (ld := ldOf nums a.1) (tab4.mono fun p hp => List.mem_cons_of_mem (I4, it4) hp) hb4.short (by rw [hlen4]; omega) (code_low_clean (turnD a) ha6) (code_clean (turnD a) ha6) (leadOf_clean _) (by show 1 < 300; decide) (leadOf_short _)) (by k_asm) (by k_asm) (by k_asm) (by exact N29) (by k_asm) (by first | exact rfl | assumption) (by walk_at "ROOM") (by walk_at "ROOM") ?_)
                  rintro _ _ h30 tk30 F30 N30 ⟨rfl, Tn, ep5, offT, rfl⟩
                  obtain ⟨hap1, hap2, hap3⟩ := tab_apart (fun p hp => N29 p (List.mem_cons_of_mem _ hp)) tab4
                  clear N29 F29
                  (try dsimp only)
                  iterate 1 walk_at "S"
                  (rename Fr _ _ _ _ => F31); (rename News _ _ _ _ => N31)
                  have hb5 := hb4.set (T := Tn) h46 h4n
                  have hb6 : Bears (ldOf nums) (dropped cards4 (Txt.lower (sgn (codeOf (turnD a)))) ++ [Card.mk Tn (sgn (codeOf (turnD a))) (ldOf nums a.1)]) ((dp ++ [y]).take (nums.length - rk y.1) ++ rd.reverse ++ (pd ++ [a]).map turnD) := by
                    rw [List.map_append]; exact hb5
                  have hTI3 : Tn ≠ I3 := Ne.symm (offT (I3, it3) (List.mem_cons_of_mem _ hI3))
                  have hcI5 : ∀ c ∈ dropped cards4 (Txt.lower (sgn (codeOf (turnD a)))) ++ [Card.mk Tn (sgn (codeOf (turnD a))) (ldOf nums a.1)], c.at_ ≠ I3 := fun c0 h0 => by
                    rcases List.mem_append.mp h0 with h0 | h0
                    · exact hcI c0 (List.mem_filter.mp h0).1
                    · rw [List.mem_singleton.mp h0]; exact hTI3
                  k_dflt (exact LEnd.put (l := D6) (o0 := listOf (List.map (fun c => Value.ref c.at_) cards4).toArray ep4) (n := (Tn, _) :: n4) F31 N31 (List.mem_cons_of_mem _ List.mem_cons_self) (fun p hp => by rcases List.mem_cons.mp hp with rfl | hp <;> first | exact List.mem_cons_self | exact List.mem_cons_of_mem _ (List.mem_cons_of_mem _ hp)) (fun p hp => by rcases List.mem_cons.mp hp with rfl | hp <;> first | exact Ne.symm (offT (I4, it4) List.mem_cons_self) | exact off27 p hp) (List.mem_cons_of_mem _ hlst4) (List.mem_cons_of_mem _ hD10) hDl ⟨⟨rd, pd ++ [a], _, ep5, by rw [List.append_assoc]; exact hpd, hrs2, tab4.set (fun p hp => offT p (List.mem_cons_of_mem _ hp)) hap1 hap2 hap3, hb6, hcI5, mem_putN (List.mem_cons_of_mem _ hI3) hI3l, fun p hp hne => mem_putN (List.mem_cons_of_mem _ (hsb4 p hp hne)) hne⟩, ⟨_, hmo4⟩, hm14, hm24, hm34⟩)
                · rintro m4 n4 h11_ tk11 ⟨⟨rd, pd, cards4, ep4, hpd, hrs, tab4, hb4, hcI, hI3, hsb4⟩, ⟨t4, hmo4⟩, hm14, hm24, hm34⟩ F27 N27
                  clear F26 N26
                  w_top off
                  have hrd : rd = [] := by
                    have := StrsAre.len_eq hrs
                    simpa using this.symm
                  subst hrd
                  rw [List.append_nil] at hpd
                  subst hpd
                  iterate 2 walk_at "S"
                  (rename Fr _ _ _ _ => F28); (rename News _ _ _ _ => N28)
                  have hdl : (dp ++ [y]).length = nums.length := by rw [← hdy, deck_length]
                  k_dflt (exact SEnd.next (news' := offN I3 n4) F28 N28 (fun p hp => by rcases List.mem_cons.mp hp with rfl | hp <;> first | exact hI3 | exact (of_offN hp).1) (fun p hp => (of_offN hp).2) ⟨⟨⟨cards4, ep4, tab4.off (off20 _ hinst3) (off20 _ hdict3) (off20 _ hlst3) hcI, by rw [itD_succ, hdy, stepD_last, if_pos (by omega), hdl]; rw [List.reverse_nil, List.append_nil] at hb4; exact hb4⟩, fun p hp hne => mem_offN (hsb4 p hp hne) (off20 p (hsb3 p hp hne)), ⟨_, hmo4⟩, hm14, hm24, hm34⟩, fun p hp => (of_offN hp).2⟩)
              · (rename ¬ 1 < _ => hgt)
                iterate 3 walk_at "S"
                (rename Fr _ _ _ _ => F23); (rename News _ _ _ _ => N23)
                k_dflt (exact SEnd.next F23 N23 (fun p hp => hp) off20 ⟨⟨⟨cp ++ [c], ep3, tab3, by rw [itD_succ, hdy, stepD_last, if_neg (by omega)]; exact hb3⟩, hsb3, ⟨_, hmo3⟩, hm13, hm23, hm33⟩, off20⟩)
            · rintro m3 n3 h6 tk6 ⟨⟨cards3, ep3, tab3, hb3⟩, hsb3, ⟨t3, hmo3⟩, hm13, hm23, hm33⟩ F20 N20
              clear F19 N19 R19
              w_top off
              have hD5 := hsb3 _ (hsb2 _ (hsb _ (hsub2 _ hmD))) (off10 _ (hsub0 _ hmD))
              have hL3 := hsb3 _ (hsb2 _ (hsb _ (hsub2 _ hmL))) (off10 _ (hsub0 _ hmL))
              have hS3 := hsb3 _ (hsb2 _ (hsb _ (hsub2 _ hmS))) (off10 _ (hsub0 _ hmS))
              have hyl : ys.length = nums.length := by rw [StrsAre.len_eq hys2, List.length_map]
              have hsl : (6 : Nat) + 6 ≤ sizeLine := by decide
              iterate 1 walk_at "S"
              k_dflt (refine gen_assign (by with_unfolding_all rfl) (by with_unfolding_all rfl) (by rfl) (by decide) ?_)
              k_dflt (refine nameX_C N20 (by rfl) hL3 dL ?_ (by rfl) (by rfl))
              k_dflt (refine gen_list (fun i vs nw => nw = n3 ∧ IntsAre vs ((nums.take i).map (fun v => ((colN sz v : Nat) : Int)))) (fun i m₂ => ∃ v t, nums[i]? = some v ∧ m₂ (Str.ofString "lead") = some (.str (leadT (nA v) (nT v) (nZ v)) t)) (by rfl) F20 N20 hD5 (by rw [List.size_toArray]; omega) (by decide) (by rfl) ?_ ⟨rfl, .nil⟩ ?_ ?_)
              · rintro i v C g h tk m₁ Q' E' hv hn _ k
                have hil : i < nums.length := by
                  rw [← hyl]
                  by_cases h9 : i < ys.length
                  · exact h9
                  · rw [Array.getElem?_eq_none (by rw [List.size_toArray]; omega)] at hv; cases hv
                obtain ⟨tl, hvl⟩ := StrsAre.at hys2 (j := i) (y := leadOf (nums[i])) (by rw [List.getElem?_map, List.getElem?_eq_getElem hil]; rfl)
                have hv2 : v = Value.str (leadOf nums[i]) tl := by
                  have : ys.toArray[i]? = ys[i]? := by simp
                  rw [this, hvl] at hv
                  exact (Option.some.inj hv).symm
                subst hv2
                exact asg_name (by rfl) (by rfl) hn (fun h' tk' m₂ hm => k h' tk' m₂ ⟨nums[i], tl, List.getElem?_eq_getElem hil, by rw [← (leadOf_norm _).1]; exact hm⟩)
              · rintro i g hi2 vs2 nw all C oC m₂ h tk E' ⟨rfl, hvs⟩ ⟨v, t, hv, hm2⟩ hC hCall hsub F21 N21
                clear F20 N20
                obtain ⟨-, hA6, hT2, hTZ, hTA, hZ4⟩ := leadOf_norm v
                iterate 7 walk_at "S"
                k_dflt (refine lcf_cell N21 (by rfl) (hsub _ hS3) dS ?_ (by rfl) (by rfl))
                iterate 2 walk_at "S"
                k_dflt (refine Says.use (column_says hA6 hT2 hTZ hZ4 hsz2 hsz5) (by k_asm) (by exact F21) (by k_asm) (by exact N21) (by k_asm) (by first | exact rfl | assumption) (by walk_at "ROOM") (by walk_at "ROOM") ?_)
                rintro _ _ h22 tk22 F22 N22 ⟨⟨tc, rfl⟩, rfl⟩
                refine ⟨h22, tk22, [], rfl, F22, N22, fun p hp => absurd hp List.not_mem_nil, rfl, ?_⟩
                rw [List.take_add_one, hv, List.map_append]
                exact intsAre_append hvs (.cons _ _ .nil)
              · rintro vs2 nw D7 C h tk m' ⟨rfl, hvs⟩ F21 N21 off21 c1 c2 c3 c4 c5
                clear F20 N20
                rw [List.size_toArray, hyl, List.take_length] at hvs
                k_dflt (refine gen_some2 (y := Str.ofString "columns") (by with_unfolding_all rfl) (by with_unfolding_all rfl) F21 N21 c1 c2 c3 c4 c5 (fun h23 tk23 F23 N23 => ?_))
                clear F21 N21
                w_top off
                have hcs : nums.map (fun v => ((colN sz v : Nat) : Int)) = (nums.map (colN sz)).map (fun c => ((c : Nat) : Int)) := by rw [List.map_map]; rfl
                rw [hcs] at hvs
                have hC3 := hsb3 _ (hsb2 _ (hsb _ (hsub2 _ hmC))) (off10 _ (hsub0 _ hmC))
                have hkeep : ∀ (a : Addr) (o : Obj), (a, o) ∈ nw → (∀ v, o.data ≠ .cell v) → a ≠ s1.heap.objs.size + 1 + 1 + 1 := fun a o h hn => cell_ne N23 (List.mem_cons_of_mem _ hC3) dCol (List.mem_cons_of_mem _ h) hn
                have hvl : vs2.length = nums.length := by rw [IntsAre.length hvs, List.length_map, List.length_map]
                iterate 4 walk_at "S"
                (k_dflt (refine' newList_K ?k1 ?k2 ?_; (case k1 => k_asm); (case k2 => k_asm); k_whole))
                intro cA hcw Fcw Ncw lcA
                try k_sweep
                iterate 3 walk_at "S"
                (rename Fr _ _ _ _ => F24)
                (with_unfolding_all refine For_turns F24 ?_)
                iterate 6 walk_at "S"
                (rename News _ _ _ _ => N24)
                have hcAne : cA ≠ s1.heap.objs.size + 1 + 1 + 1 := Ne.symm (Nat.ne_of_lt (lcA _ (List.mem_cons_of_mem _ hC3)))
                have hD7ne : D7 ≠ s1.heap.objs.size + 1 + 1 + 1 := Ne.symm (off21 _ hC3)
                k_dflt (refine loop_enum (vs := vs2) (n := vs2.length) (fun i m nw2 => ∃ ts ep, (cA, listOf (ts.map (fun c : Trip => Value.ref c.at_)).toArray ep) ∈ nw2 ∧ Trips ts nw2 ∧ TBears rk ts (deck0 i) ∧ (∃ oC v0, ((s1.heap.objs.size + 1 + 1 + 1 : Nat), oC) ∈ nw2 ∧ oC.data = Data.cell v0) ∧ (∀ p ∈ nw, p.1 ≠ s1.heap.objs.size + 1 + 1 + 1 → p ∈ nw2) ∧ m (Str.ofString "cards") = some (.ref cA) ∧ m (Str.ofString "columns") = some (.ref D7) ∧ (∃ t1, m (Str.ofString "most") = some (.int (((fibP (nums.length - 1)).2 : Nat) : Int) t1)) ∧ m (Str.ofString "row") = some (.ref rowA) ∧ m (Str.ofString "table") = some (.ref x) ∧ m (Str.ofString "many") = some (.int (nums.length : Int) tm)) (by rfl) F24 N24 (List.mem_cons_of_mem _ List.mem_cons_self) ⟨[], 0, List.mem_cons_self, fun c hc => absurd hc List.not_mem_nil, rfl, ⟨oCol, vCol, List.mem_cons_of_mem _ (List.mem_cons_of_mem _ hC3), dCol⟩, fun p hp _ => List.mem_cons_of_mem _ (List.mem_cons_of_mem _ hp), rfl, rfl, ⟨_, hmo3⟩, hm13, hm23, hm33⟩ ?_ ?_)
                · rintro i v m4 n4 I1 o1 I2 o2 Tp t h4 tk4 hv ⟨ts, ep4, hcA, htr, htb, ⟨oC, v0, hC4, dC⟩, hsb4, hm41, hm42, ⟨t4, hmo4⟩, hm43, hm44, hm45⟩ hD7 hT F25 N25 off25
                  clear F24 N24
                  obtain ⟨n, tc, rfl, hn⟩ := IntsAre.at hvs i v hv
                  obtain ⟨rfl, hil⟩ := col_at hn
                  w_top off
                  k_dflt (refine unpackN_ F25 N25 hT (by exact rfl) (by exact rfl) (by exact rfl) ?_)
                  intro h26 F26 N26
                  clear F25 N25
                  have htsC : ∀ c ∈ ts, c.at_ ≠ s1.heap.objs.size + 1 + 1 + 1 := fun c hc => by
                    obtain ⟨u1, u2, u3, hu⟩ := htr c hc
                    exact cell_ne N26 (List.mem_cons_of_mem _ (List.mem_cons_of_mem _ hC4)) dC (List.mem_cons_of_mem _ (List.mem_cons_of_mem _ hu)) (by intro v e; cases e)
                  have htsA : ∀ c ∈ ts, c.at_ ≠ cA := fun c hc => by
                    obtain ⟨u1, u2, u3, hu⟩ := htr c hc
                    exact ne_of_cls N26 (List.mem_cons_of_mem _ (List.mem_cons_of_mem _ hu)) (List.mem_cons_of_mem _ (List.mem_cons_of_mem _ hcA)) (by intro e; exact absurd (Value.type.inj e) (by decide))
                  (try dsimp only)
                  iterate 5 walk_at "S"
                  (rename Fr _ _ _ _ => F27); (rename News _ _ _ _ => N27)
                  k_dflt (refine storeX_P F27 N27 (by rfl) (List.mem_cons_of_mem _ (List.mem_cons_of_mem _ hC4)) dC (fun h28 oX F28 N28 dX => ?_) (by rfl) (by rfl))
                  obtain ⟨n5, hn5, N29⟩ := news_gen N28
                  have hI1 : (I1, o1) ∈ n5 := by rw [hn5]; exact mem_putN List.mem_cons_self (Ne.symm (off25 _ hC4).1)
                  have hI2 : (I2, o2) ∈ n5 := by rw [hn5]; exact mem_putN (List.mem_cons_of_mem _ List.mem_cons_self) (Ne.symm (off25 _ hC4).2)
                  have hX : ((s1.heap.objs.size + 1 + 1 + 1 : Nat), oX) ∈ n5 := by rw [hn5]; exact List.mem_cons_self
                  have hsb5 : ∀ p ∈ n4, p.1 ≠ s1.heap.objs.size + 1 + 1 + 1 → p ∈ n5 := fun p hp hne => by rw [hn5]; exact mem_putN (List.mem_cons_of_mem _ (List.mem_cons_of_mem _ hp)) hne
                  have hD75 := hsb5 _ hD7 hD7ne
                  have hcA5 := hsb5 _ hcA hcAne
                  clear F27 N27 F26 N26 N28 hn5
                  (try dsimp only)
                  iterate 5 walk_at "S"
                  obtain ⟨xs, hxs, hxn⟩ := ints_pairs hvs
                  k_dflt (refine LCt.ListComp_T (F₀ := F28) (by with_unfolding_all rfl) (by decide) (by rfl) (by decide) (by rfl) ?_)
                  iterate 1 walk_at "S"
                  have hD76 : (D7, listOf (xs.map (fun p : Int × Tok => Value.int p.1 p.2)).toArray vs2.length) ∈ n5 := by rw [← hxs]; exact hD75
                  k_dflt (refine LCt.CompSrcT.ledger (by rfl) F28 N29 hD76 (by rw [← hxs, List.size_toArray]; omega) fun g => comp_test (xs := xs) (f := fun p : Int × Tok => Value.int p.1 p.2) (fun r ys nw => nw = n5 ∧ ∃ pre, xs = pre ++ r ∧ IntsAre ys ((pre.map (·.1)).filter fun c => decide (c < (((nums.map (colN sz)).getD i 0 : Nat) : Int)))) ⟨rfl, [], rfl, .nil⟩ ?_ ?_)
                  · rintro ⟨c, tcc⟩ r ys nw I oI C oC D m2 h tk E2 _ ⟨rfl, pre, hpre, hys⟩ hCo hx1 F9 N9 off9 ne9
                    dsimp only
                    dsimp only at hx1
                    iterate 2 walk_at "S"
                    k_dflt (refine lcf_cell N9 (by rfl) (List.mem_cons_of_mem _ (List.mem_cons_of_mem _ (List.mem_cons_of_mem _ hX))) dX ?_ (by rfl) (by rfl))
                    iterate 3 walk_at "S"
                    · (rename c < _ => hlt)
                      iterate 1 walk_at "S"
                      k_dflt (exact compEnd_same F9 N9 off9 (.inr ⟨_, hD76, rfl, _, rfl⟩) ⟨rfl, pre ++ [(c, tcc)], by rw [hpre]; simp, filt_yes hys (decide_eq_true hlt)⟩)
                    · (rename ¬ c < _ => hlt)
                      k_dflt (exact compEnd_same F9 N9 off9 (.inr ⟨_, hD76, rfl, _, rfl⟩) ⟨rfl, pre ++ [(c, tcc)], by rw [hpre]; simp, filt_no hys (decide_eq_false hlt)⟩)
                  · rintro ys nw ⟨rfl, pre, hpre, hys⟩ D h tk F9 N9 off9
                    dsimp only
                    w_top off
                    rw [List.append_nil] at hpre
                    subst hpre
                    rw [hxn] at hys
                    clear F28 N29
                    k_dflt (refine LCt.ListComp_T (F₀ := F9) (by with_unfolding_all rfl) (by decide) (by rfl) (by decide) (by rfl) ?_)
                    iterate 7 walk_at "S"
                    k_dflt (refine kmk_slice_ints F9 N9 (News.isList N9 (List.mem_cons_of_mem _ hD75)) IsPart.none (IsPart.int _ _) hvs (kmk_upto hvs (Int.natCast_nonneg i)) rfl (fun D8 ws8 h8 F10 N10 l8 hI8 hc8 hle8 => ?_) (by with_unfolding_all rfl) (by intro _; with_unfolding_all rfl) (by rw [List.size_toArray]; omega))
                    clear F9 N9
                    rw [Int.toNat_natCast] at hI8
                    obtain ⟨xs8, hxs8, hxn8⟩ := ints_pairs hI8
                    have hD8 : (D8, listOf (xs8.map (fun p : Int × Tok => Value.int p.1 p.2)).toArray 0) ∈ (D8, listOf ws8.toArray 0) :: (D, LCg.lst ys) :: nw := by rw [← hxs8]; exact List.mem_cons_self
                    have hw8 : ws8.length ≤ nums.length := by rw [IntsAre.length hI8, List.length_take, List.length_map, List.length_map]; omega
                    k_dflt (refine LCt.CompSrcT.ledger (by rfl) F10 N10 hD8 (by rw [← hxs8, List.size_toArray]; omega) fun g => comp_test (xs := xs8) (f := fun p : Int × Tok => Value.int p.1 p.2) (fun r ys2 nw2 => nw2 = (D8, listOf ws8.toArray 0) :: (D, LCg.lst ys) :: nw ∧ ∃ pre, xs8 = pre ++ r ∧ IntsAre ys2 ((pre.map (·.1)).filter fun c => decide (c = (((nums.map (colN sz)).getD i 0 : Nat) : Int)))) ⟨rfl, [], rfl, .nil⟩ ?_ ?_)
                    · rintro ⟨c, tcc⟩ r ys2 nw2 I oI C oC D9 m2 h tk E2 _ ⟨rfl, pre, hpre, hys2_⟩ hCo hx1 F9 N9 off9 ne9
                      clear F10 N10
                      dsimp only
                      dsimp only at hx1
                      iterate 2 walk_at "S"
                      k_dflt (refine lcf_cell N9 (by rfl) (List.mem_cons_of_mem _ (List.mem_cons_of_mem _ (List.mem_cons_of_mem _ (List.mem_cons_of_mem _ (List.mem_cons_of_mem _ hX))))) dX ?_ (by rfl) (by rfl))
                      iterate 3 walk_at "S"
                      · (rename c = _ => hlt)
                        iterate 1 walk_at "S"
                        k_dflt (exact compEnd_same F9 N9 off9 (.inr ⟨_, hD8, rfl, _, rfl⟩) ⟨rfl, pre ++ [(c, tcc)], by rw [hpre]; simp, filt_yes hys2_ (decide_eq_true hlt)⟩)
                      · (rename ¬ c = _ => hlt)
                        k_dflt (exact compEnd_same F9 N9 off9 (.inr ⟨_, hD8, rfl, _, rfl⟩) ⟨rfl, pre ++ [(c, tcc)], by rw [hpre]; simp, filt_no hys2_ (decide_eq_false hlt)⟩)
                    · rintro ys2 nw2 ⟨rfl, pre, hpre, hys2_⟩ D9 h tk F9 N9 off9
                      clear F10 N10
                      rw [List.append_nil] at hpre
                      subst hpre
                      rw [hxn8] at hys2_
                      dsimp only
                      have hl1 : ys.length ≤ nums.length := by
                        rw [IntsAre.length hys]
                        refine Nat.le_trans (List.length_filter_le _ _) ?_
                        rw [List.length_map, List.length_map]
                        exact Nat.le_refl _
                      have hl2 : ys2.length ≤ nums.length := by
                        rw [IntsAre.length hys2_]
                        refine Nat.le_trans (List.length_filter_le _ _) ?_
                        rw [List.length_take, List.length_map, List.length_map]
                        omega
                      k_dflt (refine kmk_add_ints F9 N9 (News.isList N9 (List.mem_cons_of_mem _ (List.mem_cons_of_mem _ List.mem_cons_self))) (News.isList N9 List.mem_cons_self) hys hys2_ (fun Da wsa ha Fa Na la hIa => ?_) (by rw [← IntsAre.length hys, ← IntsAre.length hys2_]; omega))
                      clear F9 N9
                      have hla := IntsAre.length hIa
                      w_top off
                      have hrk1 : wsa.length + 1 = rk i := by rw [hla, hrk]; exact rank_ints _ _
                      have hwl : wsa.length ≤ 2 * nums.length := by
                        rw [hla, List.length_append, ← IntsAre.length hys, ← IntsAre.length hys2_]; omega
                      iterate 8 walk_at "S"
                      iterate 11 walk_at "S"
                      (rename News _ _ _ _ => Nb)
                      k_dflt (refine call_len_list (items := wsa.toArray) ?_ ?_ ?_)
                      · exact News.isList Nb List.mem_cons_self
                      · rw [List.size_toArray]; omega
                      dsimp only
                      iterate 8 walk_at "S"
                      have hval : (1 + (wsa.toArray.size : Int)) = ((rk i : Nat) : Int) := by rw [List.size_toArray]; omega
                      (rename Fr _ _ _ _ => Fc); (rename News _ _ _ _ => Nc); (rename _ < _ ∧ _ < _ ∧ _ < _ ∧ _ < _ ∧ AllLt _ _ => lTn)
                      have hlts : ts.length = i := by rw [htb.length]; simp [deck0]
                      k_dflt (refine append_put Fc Nc (List.mem_cons_of_mem _ (List.mem_cons_of_mem _ (List.mem_cons_of_mem _ (List.mem_cons_of_mem _ (List.mem_cons_of_mem _ hcA5))))) (by rw [List.size_toArray, List.length_map]; omega) (fun hz Fz Nz => ?_))
                      clear Fc Nc
                      rw [hval] at Nz
                      iterate 2 walk_at "S"
                      obtain ⟨-, -, -, -, lT5⟩ := lTn
                      have key : ∃ (Tn : Addr) (u1 u2 u3 : Tok), News s1.heap s1.heap.objs.size hz (putN ((Tn, tup3 (.int ((rk i : Nat) : Int) u1) (.int (i : Int) u2) (.int ((0 : Nat) : Int) u3)) :: (Da, listOf wsa.toArray 0) :: (D9, LCg.lst ys2) :: (D8, listOf ws8.toArray 0) :: (D, LCg.lst ys) :: nw) cA (listOf ((ts.map fun c : Trip => Value.ref c.at_).toArray.push (Value.ref Tn)) (ep4 + 1))) ∧ (∀ p ∈ nw, @LT.lt Nat _ p.1 Tn) := by
                        k_dflt exact ⟨_, _, _, _, Nz, allLt_at lT5⟩
                      obtain ⟨Tn, u1, u2, u3, Nw, lT⟩ := key
                      clear Nz
                      have epush := push_trip ts (Trip.mk Tn (rk i) i 0)
                      rw [show (Value.ref Tn) = Value.ref (Trip.mk Tn (rk i) i 0).at_ from rfl, epush] at Nw
                      have hin4 : ∀ p ∈ putN n4 (s1.heap.objs.size + 1 + 1 + 1) oX, p ∈ nw := put_in hX hsb5
                      have hsub6 : ∀ p ∈ (Tn, tup3 (.int ((rk i : Nat) : Int) u1) (.int (i : Int) u2) (.int ((0 : Nat) : Int) u3)) :: putN n4 (s1.heap.objs.size + 1 + 1 + 1) oX, p ∈ (Tn, tup3 (.int ((rk i : Nat) : Int) u1) (.int (i : Int) u2) (.int ((0 : Nat) : Int) u3)) :: (Da, listOf wsa.toArray 0) :: (D9, LCg.lst ys2) :: (D8, listOf ws8.toArray 0) :: (D, LCg.lst ys) :: nw := fun p hp => by
                        rcases List.mem_cons.mp hp with rfl | hp
                        · exact List.mem_cons_self
                        · exact List.mem_cons_of_mem _ (List.mem_cons_of_mem _ (List.mem_cons_of_mem _ (List.mem_cons_of_mem _ (List.mem_cons_of_mem _ (hin4 p hp)))))
                      have up5 : ∀ p ∈ nw, p ∈ (Tn, tup3 (.int ((rk i : Nat) : Int) u1) (.int (i : Int) u2) (.int ((0 : Nat) : Int) u3)) :: (Da, listOf wsa.toArray 0) :: (D9, LCg.lst ys2) :: (D8, listOf ws8.toArray 0) :: (D, LCg.lst ys) :: nw := fun p hp => List.mem_cons_of_mem _ (List.mem_cons_of_mem _ (List.mem_cons_of_mem _ (List.mem_cons_of_mem _ (List.mem_cons_of_mem _ hp))))
                      have hTcA : Tn ≠ cA := Nat.ne_of_gt (lT _ hcA5)
                      have hDA : D7 ≠ cA := Nat.ne_of_lt (lcA _ List.mem_cons_self)
                      have off6 : ∀ p ∈ (Tn, tup3 (.int ((rk i : Nat) : Int) u1) (.int (i : Int) u2) (.int ((0 : Nat) : Int) u3)) :: putN n4 (s1.heap.objs.size + 1 + 1 + 1) oX, p.1 ≠ I1 ∧ p.1 ≠ I2 := fun p hp => by
                        rcases List.mem_cons.mp hp with rfl | hp
                        · exact ⟨Nat.ne_of_gt (lT _ hI1), Nat.ne_of_gt (lT _ hI2)⟩
                        · exact ⟨put_off (off25 _ hC4).1 (fun p hp => (off25 p hp).1) p hp, put_off (off25 _ hC4).2 (fun p hp => (off25 p hp).2) p hp⟩
                      have trips6 : Trips (ts ++ [Trip.mk Tn (rk i) i 0]) (putN ((Tn, tup3 (.int ((rk i : Nat) : Int) u1) (.int (i : Int) u2) (.int ((0 : Nat) : Int) u3)) :: putN n4 (s1.heap.objs.size + 1 + 1 + 1) oX) cA (listOf ((ts ++ [Trip.mk Tn (rk i) i 0]).map fun c : Trip => Value.ref c.at_).toArray (ep4 + 1))) := fun c hc => by
                        rcases List.mem_append.mp hc with hc | hc
                        · obtain ⟨w1, w2, w3, hw⟩ := htr c hc
                          exact ⟨w1, w2, w3, mem_putN (List.mem_cons_of_mem _ (mem_putN hw (htsC c hc))) (htsA c hc)⟩
                        · rw [List.mem_singleton.mp hc]
                          exact ⟨u1, u2, u3, mem_putN List.mem_cons_self hTcA⟩
                      have tb6 : TBears rk (ts ++ [Trip.mk Tn (rk i) i 0]) (deck0 (i + 1)) := by rw [deck0_succ]; exact htb.append rfl
                      k_dflt (exact EEnd.next (news' := putN ((Tn, tup3 (.int ((rk i : Nat) : Int) u1) (.int (i : Int) u2) (.int ((0 : Nat) : Int) u3)) :: putN n4 (s1.heap.objs.size + 1 + 1 + 1) oX) cA (listOf ((ts ++ [Trip.mk Tn (rk i) i 0]).map fun c : Trip => Value.ref c.at_).toArray (ep4 + 1))) Fz Nw (mem_putN (up5 _ hI1) (Ne.symm (off25 _ hcA).1)) (mem_putN (up5 _ hI2) (Ne.symm (off25 _ hcA).2)) (put_mono hsub6) (fun p hp => ⟨put_off (off25 _ hcA).1 (fun p hp => (off6 p hp).1) p hp, put_off (off25 _ hcA).2 (fun p hp => (off6 p hp).2) p hp⟩) (mem_putN (List.mem_cons_of_mem _ (mem_putN hD7 hD7ne)) hDA) ⟨_, ep4 + 1, List.mem_cons_self, trips6, tb6, ⟨oX, _, mem_putN (List.mem_cons_of_mem _ List.mem_cons_self) (Ne.symm hcAne), dX⟩, fun p hp hne => mem_putN (List.mem_cons_of_mem _ (mem_putN (hsb4 p hp hne) hne)) (Nat.ne_of_lt (lcA p (List.mem_cons_of_mem _ hp))), hm41, hm42, ⟨_, hmo4⟩, hm43, hm44, hm45⟩)
                · rintro m4 n4 h4 tk4 ⟨ts, ep4, hcA, htr, htb, ⟨oC, v0, hC4, dC⟩, hsb4, hm41, hm42, ⟨t4, hmo4⟩, hm43, hm44, hm45⟩ hD7 F25 N25
                  clear F24 N24
                  rw [hvl] at htb
                  w_top off
                  iterate 12 walk_at "S"
                  (rename Fr _ _ _ _ => F30); (rename News _ _ _ _ => N30); (rename IsRange _ _ _ _ _ _ _ _ => R30)
                  k_dflt (refine loop_range (fun i m nw5 => (∃ ts cB ep, m (Str.ofString "cards") = some (.ref cB) ∧ (cB, listOf (ts.map fun c : Trip => Value.ref c.at_).toArray ep) ∈ nw5 ∧ Trips ts nw5 ∧ TBears rk ts (itD rk i (deck0 nums.length))) ∧ (∀ p ∈ n4, p ∈ nw5) ∧ m (Str.ofString "row") = some (.ref rowA) ∧ m (Str.ofString "table") = some (.ref x) ∧ m (Str.ofString "many") = some (.int (nums.length : Int) tm)) (n := K) rfl R30 (small_of (by omega) (by omega)) (size_is_ _ hK) F30 N30 ⟨⟨ts, cA, ep4, hm41, hcA, htr, htb⟩, fun p hp => hp, hm43, hm44, hm45⟩ ?_ ?_)
                  · rintro i m5 n5 I5 it5 h31 tk31 u hin ⟨⟨ts5, cB, ep5, hmB, hcB, htr5, htb5⟩, hsb5, hm51, hm52, hm53⟩ F31 N31 off31
                    clear F30 N30 R30
                    w_top off
                    obtain ⟨dp, y, hdy⟩ := deck_last (rk := rk) (i := i) (n := nums.length) (by omega)
                    rw [hdy] at htb5
                    have hdl : (dp ++ [y]).length = nums.length := by rw [← hdy, deck_length]
                    have hyl : y.1 < nums.length := deck_lt (rk := rk) (i := i) (by rw [hdy]; simp)
                    obtain ⟨tp, c, rfl, hcn, hck, hct, htbp⟩ := htb5.snoc
                    have htl : tp.length + 1 = nums.length := by
                      have := htb5.length
                      rw [List.length_append, hdl] at this
                      exact this
                    iterate 8 walk_at "S"
                    k_dflt (refine kde_neg (vs := (tp ++ [c]).map fun c : Trip => Value.ref c.at_) (j := tp.length) (v := .ref c.at_) ?_ (by decide) (by decide) ?_ (by simp) ?_)
                    · exact News.isList N31 (List.mem_cons_of_mem _ hcB)
                    · rw [List.length_map, List.length_append]; unfold seqIndex?; simp; omega
                    obtain ⟨u1, u2, u3, hct3⟩ := htr5 c (by simp)
                    rw [hcn, hck, hct] at hct3
                    iterate 1 walk_at "S"
                    k_dflt (refine kba_turn (value' := PySem.Expr.Name (PySem.Str.ofString "_") ⟨0, 0, 0, 0⟩) (fun _ => rfl) ?_)
                    k_dflt (refine item_tupleT (News.isTup N31 (List.mem_cons_of_mem _ hct3)) (by decide) (by decide) (by rfl) (by rfl) ?_ (by with_unfolding_all rfl))
                    iterate 9 walk_at "S"
                    · (rename 1 < _ => hgt)
                      w_top off
                      have hrkl := rk_le hprm hsrt (by omega) hyl
                      rw [← hrk] at hrkl
                      iterate 4 walk_at "S"
                      iterate 9 walk_at "S"
                      (rename Fr _ _ _ _ => F32); (rename News _ _ _ _ => N32)
                      have htpl : ((tp ++ [c]).map fun c : Trip => Value.ref c.at_).length = nums.length := by rw [List.length_map, htb5.length, hdl]
                      k_dflt (refine kmk_slice_lit F32 N32 (News.isList N32 (List.mem_cons_of_mem _ hcB)) IsPart.none (IsPart.int _ _) (pick_upto (nums.length - rk y.1) (by omega)) (fun D1 h1 F33 N33 l33 => ?_) (by with_unfolding_all rfl) (by intro _; with_unfolding_all rfl) (by rw [List.size_toArray, htpl]; omega))
                      clear F32 N32
                      k_dflt (refine gen_comp (by with_unfolding_all rfl) (by rfl) (by decide) ?_)
                      iterate 11 walk_at "S"
                      k_dflt (refine kmk_slice_lit F33 N33 (News.isList N33 (List.mem_cons_of_mem _ (List.mem_cons_of_mem _ hcB))) (IsPart.int _ _) IsPart.none (pick_from (nums.length - rk y.1) (by omega)) (fun D2 h2 F34 N34 l34 => ?_) (by with_unfolding_all rfl) (by intro _; with_unfolding_all rfl) (by rw [List.size_toArray, htpl]; omega))
                      clear F33 N33
                      iterate 7 walk_at "S"
                      k_dflt (refine kba_turn (value' := PySem.Expr.Name (PySem.Str.ofString "_") ⟨0, 0, 0, 0⟩) (fun _ => rfl) ?_)
                      k_dflt (refine krv_lit F34 N34 (News.isList N34 List.mem_cons_self) (IsPart.int _ _) (trip_vals _ _) (fun D3 h3 F35 N35 l35 => ?_) (by with_unfolding_all rfl) (by intro _; with_unfolding_all rfl) (by rw [List.size_toArray, List.length_drop, htpl]; omega))
                      clear F34 N34
                      have hq := htb5.dropRev (nums.length - rk y.1)
                      obtain ⟨q, hqe⟩ : ∃ q, q = ((tp ++ [c]).drop (nums.length - rk y.1)).reverse := ⟨_, rfl⟩
                      obtain ⟨dq, hdq⟩ : ∃ q, q = ((dp ++ [y]).drop (nums.length - rk y.1)).reverse := ⟨_, rfl⟩
                      rw [← hqe] at N35 hq
                      rw [← hdq] at hq
                      have hqt : Trips q n5 := fun c0 hc0 => htr5 c0 (by rw [hqe] at hc0; exact List.mem_of_mem_drop (List.mem_reverse.mp hc0))
                      have hql : q.length ≤ nums.length := by rw [hqe, List.length_reverse, List.length_drop]; rw [List.length_map] at htpl; omega
                      obtain ⟨base5, hb5e, N36⟩ := news_gen N35
                      have hup5 : ∀ p ∈ n5, p ∈ base5 := fun p hp => by rw [hb5e]; exact List.mem_cons_of_mem _ (List.mem_cons_of_mem _ (List.mem_cons_of_mem _ (List.mem_cons_of_mem _ hp)))
                      have hD3 : (D3, listOf (q.map fun c : Trip => Value.ref c.at_).toArray 0) ∈ base5 := by rw [hb5e]; exact List.mem_cons_self
                      clear N35
                      have hI5b : (I5, it5) ∈ base5 := by rw [hb5e]; exact List.mem_cons_of_mem _ (List.mem_cons_of_mem _ (List.mem_cons_of_mem _ List.mem_cons_self))
                      have hD1b : (D1, listOf (List.take (nums.length - rk y.1) ((tp ++ [c]).map fun c : Trip => Value.ref c.at_)).toArray 0) ∈ base5 := by rw [hb5e]; exact List.mem_cons_of_mem _ (List.mem_cons_of_mem _ List.mem_cons_self)
                      k_dflt (refine gen_list (ax := D3) (kk := 0) (its := (q.map fun c : Trip => Value.ref c.at_).toArray) (fun i ys nw => ∃ ts, (∀ p ∈ base5, p ∈ nw) ∧ ys = (ts.map fun c : Trip => Value.ref c.at_) ∧ Trips ts nw ∧ TBears rk ts ((dq.take i).map turnD) ∧ ∀ c ∈ ts, c.at_ ≠ I5) (fun i m₂ => ∃ d u1 u2 u3, dq[i]? = some d ∧ m₂ (Str.ofString "n") = some (.int ((rk d.1 : Nat) : Int) u1) ∧ m₂ (Str.ofString "k") = some (.int ((d.1 : Nat) : Int) u2) ∧ m₂ (Str.ofString "turns") = some (.int ((d.2 : Nat) : Int) u3)) (by rfl) F35 N36 hD3 (by rw [List.size_toArray, List.length_map]; omega) (by decide) (by rfl) ?_ ⟨[], fun p hp => hp, rfl, fun c hc => absurd hc List.not_mem_nil, rfl, fun c hc => absurd hc List.not_mem_nil⟩ ?_ ?_)
                      · rintro j v C g h tk m₁ Q' E' hv hn ⟨ysj, nwj, ⟨tsj, hbj, -, -, -, -⟩, Nj⟩ k
                        have hv' : (q.map fun c : Trip => Value.ref c.at_)[j]? = some v := by simpa using hv
                        rw [List.getElem?_map] at hv'
                        cases hqj : q[j]? with
                        | none => rw [hqj] at hv'; cases hv'
                        | some cj =>
                          rw [hqj] at hv'
                          have hvr : Value.ref cj.at_ = v := Option.some.inj hv'
                          subst hvr
                          obtain ⟨d, hd, e1, e2, e3⟩ := hq.at hqj
                          obtain ⟨w1, w2, w3, hw⟩ := hqt cj (List.mem_of_getElem? hqj)
                          rw [e1, e2, e3] at hw
                          exact asg_three (by rfl) (by rfl) (by rfl) (by rfl) (by rfl) (by decide) (by decide) (by decide) hn (News.isTup Nj (hbj _ (hup5 _ hw))) (fun h' tk' m₂ hm => k h' tk' m₂ ⟨d, w1, w2, w3, hd, hm⟩)
                      · rintro j g hj ysj nwj all C oC m₂ h tk E' ⟨tsj, hbj, rfl, htrj, htbj, hI5j⟩ ⟨d, w1, w2, w3, hd, hmn, hmk, hmt⟩ hC hCall hsub F36 N37
                        clear F35 N36
                        iterate 12 walk_at "S"
                        (rename Fr _ _ _ _ => F40); (rename News _ _ _ _ => N40); (rename ∀ p, p ∈ all → p.1 < _ => l40)
                        have hcast : ((d.2 : Nat) : Int) + 1 = ((d.2 + 1 : Nat) : Int) := rfl
                        rw [hcast] at N40
                        refine ⟨_, _, [_], rfl, F40, N40, fun p hp q hq => ?_, tsj ++ [Trip.mk _ (rk d.1) d.1 (d.2 + 1)], fun p hp => List.mem_cons_of_mem _ (hbj p hp), by rw [List.map_append]; rfl, fun c0 hc0 => ?_, ?_, fun c0 hc0 => ?_⟩
                        · rw [List.mem_singleton.mp hp]; exact Nat.ne_of_gt (l40 q hq)
                        · rcases List.mem_append.mp hc0 with hc0 | hc0
                          · obtain ⟨z1, z2, z3, hz⟩ := htrj c0 hc0
                            exact ⟨z1, z2, z3, List.mem_cons_of_mem _ hz⟩
                          · rw [List.mem_singleton.mp hc0]
                            exact ⟨_, _, _, List.mem_cons_self⟩
                        · rw [List.take_add_one, hd, List.map_append]
                          exact htbj.append rfl
                        · rcases List.mem_append.mp hc0 with hc0 | hc0
                          · exact hI5j c0 hc0
                          · rw [List.mem_singleton.mp hc0]
                            exact Nat.ne_of_gt (l40 _ (hsub _ (hbj _ hI5b)))
                      · rintro ysj nwj D4 C h tk m' ⟨tsj, hbj, rfl, htrj, htbj, hI5j⟩ F36 N37 off37 c1 c2 c3 c4 c5
                        clear F35 N36
                        rw [List.size_toArray, List.length_map] at htbj
                        k_dflt (refine gen_none F36 N37 c1 c2 c3 c4 c5 (fun h38 F38 N38 => ?_))
                        clear F36 N37
                        w_top off
                        have hqd : dq.length = q.length := by rw [hq.length]
                        rw [← hqd, List.take_length] at htbj
                        have htjl : tsj.length = q.length := by rw [htbj.length, List.length_map, hqd]
                        k_dflt (refine kmk_add_lit F38 N38 (News.isList N38 (List.mem_cons_of_mem _ (hbj _ hD1b))) (News.isList N38 List.mem_cons_self) (trip_join _ _ _) (fun D7_ h39 F39 N39 l39 => ?_) (by show (List.take (nums.length - rk y.1) ((tp ++ [c]).map fun c : Trip => Value.ref c.at_)).length + (tsj.map fun c : Trip => Value.ref c.at_).length ≤ sizeLine; rw [List.length_take, htpl, List.length_map]; omega))
                        clear F38 N38
                        iterate 3 walk_at "S"
                        (rename Fr _ _ _ _ => F41); (rename News _ _ _ _ => N41)
                        have hI5n : (I5, it5) ∈ nwj := hbj _ hI5b
                        have hD7I : D7_ ≠ I5 := Nat.ne_of_gt (l39 _ (List.mem_cons_of_mem _ hI5n))
                        have htI5 : ∀ c0 ∈ (tp ++ [c]).take (nums.length - rk y.1) ++ tsj, c0.at_ ≠ I5 := fun c0 hc0 => by
                          rcases List.mem_append.mp hc0 with hc0 | hc0
                          · obtain ⟨z1, z2, z3, hz⟩ := htr5 c0 (List.mem_of_mem_take hc0)
                            exact off31 _ hz
                          · exact hI5j c0 hc0
                        have htr6 : Trips ((tp ++ [c]).take (nums.length - rk y.1) ++ tsj) nwj := fun c0 hc0 => by
                          rcases List.mem_append.mp hc0 with hc0 | hc0
                          · obtain ⟨z1, z2, z3, hz⟩ := htr5 c0 (List.mem_of_mem_take hc0)
                            exact ⟨z1, z2, z3, hbj _ (hup5 _ hz)⟩
                          · exact htrj c0 hc0
                        have htr7 : Trips ((tp ++ [c]).take (nums.length - rk y.1) ++ tsj) (offN I5 ((D7_, listOf (((tp ++ [c]).take (nums.length - rk y.1) ++ tsj).map fun c : Trip => Value.ref c.at_).toArray 0) :: (D4, LCg.lst (tsj.map fun c : Trip => Value.ref c.at_)) :: nwj)) := fun c0 hc0 => by
                          obtain ⟨z1, z2, z3, hz⟩ := htr6 c0 hc0
                          exact ⟨z1, z2, z3, mem_offN (List.mem_cons_of_mem _ (List.mem_cons_of_mem _ hz)) (htI5 c0 hc0)⟩
                        have htb8 : TBears rk ((tp ++ [c]).take (nums.length - rk y.1) ++ tsj) (itD rk (i + 1) (deck0 nums.length)) := by
                          rw [itD_succ, hdy, stepD_last, if_pos (by omega), hdl, ← hdq]
                          exact (htb5.take _).append htbj
                        k_dflt (exact SEnd.next (news' := offN I5 ((D7_, listOf (((tp ++ [c]).take (nums.length - rk y.1) ++ tsj).map fun c : Trip => Value.ref c.at_).toArray 0) :: (D4, LCg.lst (tsj.map fun c : Trip => Value.ref c.at_)) :: nwj)) F41 N41 (fun p hp => by rcases List.mem_cons.mp hp with rfl | hp <;> first | exact List.mem_cons_of_mem _ (List.mem_cons_of_mem _ hI5n) | exact (of_offN hp).1) (fun p hp => (of_offN hp).2) ⟨⟨⟨_, D7_, 0, rfl, mem_offN List.mem_cons_self hD7I, htr7, htb8⟩, fun p hp => mem_offN (List.mem_cons_of_mem _ (List.mem_cons_of_mem _ (hbj _ (hup5 _ (hsb5 p hp))))) (off31 _ (hsb5 p hp)), hm51, hm52, hm53⟩, fun p hp => (of_offN hp).2⟩)
                    · (rename ¬ 1 < _ => hgt)
                      iterate 3 walk_at "S"
                      (rename Fr _ _ _ _ => F33); (rename News _ _ _ _ => N33)
                      k_dflt (exact SEnd.next F33 N33 (fun p hp => hp) off31 ⟨⟨⟨tp ++ [c], cB, ep5, hmB, hcB, htr5, by rw [itD_succ, hdy, stepD_last, if_neg (by omega)]; exact htb5⟩, hsb5, hm51, hm52, hm53⟩, off31⟩)
                  · rintro m5 n5 h31 tk31 ⟨⟨ts5, cB, ep5, hmB, hcB, htr5, htb5⟩, hsb5, hm51, hm52, hm53⟩ F31 N31
                    clear F30 N30 R30
                    w_top off
                    have hL5 := hsb5 _ (hsb4 _ (hsb3 _ (hsb2 _ (hsb _ (hsub2 _ hmL))) (off10 _ (hsub0 _ hmL))) (Nat.ne_of_lt (Nat.lt_succ_self _)))
                    have hD55 := hsb5 _ (hsb4 _ hD5 (hkeep _ _ hD5 (by intro v e; cases e)))
                    have hts5 : ts5.length = nums.length := by rw [htb5.length, deck_length]
                    iterate 1 walk_at "S"
                    k_dflt (refine gen_assign (by with_unfolding_all rfl) (by with_unfolding_all rfl) (by rfl) (by decide) ?_)
                    iterate 1 walk_at "S"
                    k_dflt (refine gen_list (ax := cB) (kk := ep5) (its := (ts5.map fun c : Trip => Value.ref c.at_).toArray) (fun i ys nw => ∃ tc, (∀ p ∈ n5, p ∈ nw) ∧ ys = (tc.map fun c : Card => Value.ref c.at_) ∧ Tups tc nw ∧ Bears (ldOf nums) tc ((itD rk K (deck0 nums.length)).take i)) (fun i m₂ => ∃ d u1 u2 u3, (itD rk K (deck0 nums.length))[i]? = some d ∧ m₂ (Str.ofString "n") = some (.int ((rk d.1 : Nat) : Int) u1) ∧ m₂ (Str.ofString "k") = some (.int ((d.1 : Nat) : Int) u2) ∧ m₂ (Str.ofString "turns") = some (.int ((d.2 : Nat) : Int) u3)) (by rfl) F31 N31 hcB (by rw [List.size_toArray, List.length_map]; omega) (by decide) (by rfl) ?_ ⟨[], fun p hp => hp, rfl, fun c hc => absurd hc List.not_mem_nil, rfl⟩ ?_ ?_)
                    · rintro j v C g h tk m₁ Q' E' hv hn ⟨ysj, nwj, ⟨tsj, hbj, -, -, -⟩, Nj⟩ k
                      have hv' : (ts5.map fun c : Trip => Value.ref c.at_)[j]? = some v := by simpa using hv
                      rw [List.getElem?_map] at hv'
                      cases hqj : ts5[j]? with
                      | none => rw [hqj] at hv'; cases hv'
                      | some cj =>
                        rw [hqj] at hv'
                        have hvr : Value.ref cj.at_ = v := Option.some.inj hv'
                        subst hvr
                        obtain ⟨d, hd, e1, e2, e3⟩ := htb5.at hqj
                        obtain ⟨w1, w2, w3, hw⟩ := htr5 cj (List.mem_of_getElem? hqj)
                        rw [e1, e2, e3] at hw
                        exact asg_three (by rfl) (by rfl) (by rfl) (by rfl) (by rfl) (by decide) (by decide) (by decide) hn (News.isTup Nj (hbj _ hw)) (fun h' tk' m₂ hm => k h' tk' m₂ ⟨d, w1, w2, w3, hd, hm⟩)
                    · rintro j g hj ysj nwj all C oC m₂ h tk E' ⟨tsj, hbj, rfl, htrj, htbj⟩ ⟨d, w1, w2, w3, hd, hmn, hmk, hmt⟩ hC hCall hsub F36 N37
                      clear F31 N31
                      have hdn : d.1 < nums.length := deck_lt (List.mem_of_getElem? hd)
                      iterate 20 walk_at "S"
                      (rename News _ _ _ _ => N40); (rename ∀ p, p ∈ all → p.1 < _ => l40)
                      k_dflt (refine kba_turn (value' := PySem.Expr.Name (PySem.Str.ofString "_") ⟨0, 0, 0, 0⟩) (fun _ => rfl) ?_)
                      obtain ⟨tz, hz⟩ : ∃ t, ([Value.int 97 tk, Value.int 65 (tk + 1)] : List Value)[d.2 % 2]? = some (Value.int (if d.2 % 2 = 0 then 97 else 65 : Nat) t) := by
                        have hp : d.2 % 2 = 0 ∨ d.2 % 2 = 1 := by omega
                        rcases hp with hp | hp
                        · rw [hp]; exact ⟨_, rfl⟩
                        · rw [hp]; exact ⟨_, rfl⟩
                      have efm : ((d.2 : Nat) : Int).fmod 2 = ((d.2 % 2 : Nat) : Int) := by rw [Int.fmod_eq_emod_of_nonneg _ (by decide)]; omega
                      have ec : ((if d.2 % 2 = 0 then 97 else 65 : Nat) : Int) + ((d.1 : Nat) : Int) = ((codeOf d : Nat) : Int) := by unfold codeOf; split <;> omega
                      have hcl := code_lt d (by omega)
                      rw [efm]
                      k_dflt (refine item_litK (vs := [Value.int 97 tk, Value.int 65 (tk + 1)]) (v := Value.int (if d.2 % 2 = 0 then 97 else 65 : Nat) tz) (News.isList N40 List.mem_cons_self) (Int.natCast_nonneg _) (by omega) (by rw [Int.toNat_natCast]; exact hz) ?_)
                      iterate 2 walk_at "S"
                      rw [ec]
                      iterate 4 walk_at "S"
                      k_dflt (refine lcf_cell N40 (by rfl) (List.mem_cons_of_mem _ (hsub _ (hbj _ hL5))) dL ?_ (by rfl) (by rfl))
                      iterate 1 walk_at "S"
                      obtain ⟨tq, hq⟩ := StrsAre.at hys2 (j := d.1) (y := ldOf nums d.1) (by rw [List.getElem?_map]; unfold ldOf; rw [List.getD_eq_getElem?_getD, List.getElem?_eq_getElem hdn]; rfl)
                      k_dflt (refine item_litK (vs := ys) (v := Value.str (ldOf nums d.1) tq) (News.isList N40 (List.mem_cons_of_mem _ (hsub _ (hbj _ hD55)))) (Int.natCast_nonneg _) (by omega) (by rw [Int.toNat_natCast]; exact hq) ?_)
                      iterate 2 walk_at "S"
                      (rename Fr _ _ _ _ => F42); (rename News _ _ _ _ => N42); (rename _ < _ ∧ AllLt _ all => l42)
                      rw [Int.toNat_natCast] at N42
                      refine ⟨_, _, [_, _], rfl, F42, N42, fun p hp q hq => ?_, tsj ++ [Card.mk _ (sgn (codeOf d)) (ldOf nums d.1)], fun p hp => List.mem_cons_of_mem _ (List.mem_cons_of_mem _ (hbj p hp)), by rw [List.map_append]; rfl, fun c0 hc0 => ?_, ?_⟩
                      · rcases List.mem_cons.mp hp with rfl | hp
                        · exact Nat.ne_of_gt (allLt_at l42.2 q hq)
                        · rw [List.mem_singleton.mp hp]; exact Nat.ne_of_gt (l40 q hq)
                      · rcases List.mem_append.mp hc0 with hc0 | hc0
                        · obtain ⟨z1, z2, hz⟩ := htrj c0 hc0
                          exact ⟨z1, z2, List.mem_cons_of_mem _ (List.mem_cons_of_mem _ hz)⟩
                        · rw [List.mem_singleton.mp hc0]
                          exact ⟨_, _, List.mem_cons_self⟩
                      · rw [List.take_add_one, hd]
                        exact htbj.append (Bears.cons rfl rfl Bears.nil)
                    · rintro ysj nwj D4 C h tk m' ⟨tc, hbj, rfl, htrj, htbj⟩ F36 N37 off37 c1 c2 c3 c4 c5
                      clear F31 N31
                      rw [List.size_toArray, List.length_map, hts5] at htbj
                      k_dflt (refine gen_some2 (y := Str.ofString "told") (by with_unfolding_all rfl) (by with_unfolding_all rfl) F36 N37 c1 c2 c3 c4 c5 (fun h38 tk38 F38 N38 => ?_))
                      clear F36 N37
                      w_top off
                      have hnj : ∀ p ∈ nw, p.1 ≠ s1.heap.objs.size + 1 + 1 + 1 → p ∈ nwj := fun p hp hne => hbj _ (hsb5 _ (hsb4 p hp hne))
                      obtain ⟨th9, tt9, nd9, hd9⟩ := tab3.dict
                      have tabJ : Tab nwj x dx D6 cards3 ep3 := ⟨hnj _ tab3.inst (hkeep _ _ tab3.inst (by intro v e; cases e)), ⟨th9, tt9, nd9, hnj _ hd9 (hkeep _ _ hd9 (by intro v e; cases e))⟩, hnj _ tab3.lst (hkeep _ _ tab3.lst (by intro v e; cases e)), fun c hc => by
                        obtain ⟨t1, t2, ht⟩ := tab3.tups c hc
                        exact ⟨t1, t2, hnj _ ht (hkeep _ _ ht (by intro v e; cases e))⟩⟩
                      have hrow0 := hsb3 _ (hsb2 _ hrow) hrl
                      have hrowJ := hnj _ hrow0 (hkeep _ _ hrow0 (by intro v e; cases e))
                      have hSJ := hnj _ hS3 (Nat.ne_of_lt (by omega))
                      obtain ⟨dp, y, hdy⟩ := deck_last (rk := rk) (i := K) (n := nums.length) (by omega)
                      have hyl : y.1 < nums.length := deck_lt (rk := rk) (i := K) (by rw [hdy]; simp)
                      have hd6 : ∀ z ∈ dp ++ [y], z.1 < 6 := fun z hz => by
                        have := deck_lt (rk := rk) (i := K) (n := nums.length) (by rw [hdy]; exact hz)
                        omega
                      have hone : rk y.1 = 1 := by
                        obtain ⟨d9, h1, h2⟩ := play_ends hprm hsrt (n := K) (by rw [List.length_map]; exact hKn)
                        rw [List.length_map, ← hrk, hdy, List.getLast?_concat] at h1
                        rw [Option.some.inj h1, hrk]
                        exact h2
                      have hto : Bears (ldOf nums) tc (itD rk K (deck0 nums.length)) := by
                        rw [List.take_of_length_le (by rw [deck_length]; exact Nat.le_refl _)] at htbj
                        exact htbj
                      have hsame : cardsD tc = cardsD cards3 := cardsD_eq hto hb3
                      rw [hdy] at hb3 hto
                      obtain ⟨cp, c, rfl, hnm, hld, hbp⟩ := hb3.snoc
                      obtain ⟨-, hA6, hT2, hTZ, hTA, hZ4⟩ := leadOf_norm (nums.getD y.1 0)
                      obtain ⟨cf, hcf, hcfl⟩ := hb3.found hd6 (k := y.1) (by simp)
                      iterate 12 walk_at "S"
                      (rename News _ _ _ _ => N43)
                      k_dflt (refine nameX_C N43 (by rfl) (List.mem_cons_of_mem _ hSJ) dS ?_ (by rfl) (by rfl))
                      iterate 2 walk_at "S"
                      k_dflt (refine Says.use (number_says (tabJ.mono fun p hp => List.mem_cons_of_mem _ hp) hb3.short (by rw [hb3.length, ← hdy, deck_length]; omega) hnm (code_low_clean y (by omega)) ⟨cf, by rw [lower_code y (by omega)]; exact hcf, by rw [hcfl]; exact ldOf_norm nums y.1⟩ (List.mem_cons_of_mem _ hrowJ) hi hsrt (by rw [hprm.length_eq, keysFrom_length, List.length_map]; omega) hA6 hT2 hTZ hTA hZ4 hsz2 hsz5) (by k_asm) (by k_asm) (by k_asm) (by exact N43) (by k_asm) (by first | exact rfl | assumption) (by walk_at "ROOM") (by walk_at "ROOM") ?_)
                      rintro _ _ h44 tk44 F44 N44 ⟨⟨ti, rfl⟩, rfl⟩
                      clear N43
                      rw [top_is hyl (by omega) hprm, ← hrk, hone]
                      dsimp only
                      have hinstJ := tabJ.inst
                      obtain ⟨thj, ttj, ndj, hdictJ⟩ := tabJ.dict
                      have hlstJ := tabJ.lst
                      iterate 10 walk_at "S"
                      iterate 4 walk_at "S"
                      k_dflt (refine Says.use (items_says (tabJ.mono fun p hp => List.mem_cons_of_mem _ hp) (by rw [hb3.length, ← hdy, deck_length]; omega)) (by k_asm) (by k_asm) (by k_asm) (by exact N44) (by k_asm) (by first | exact rfl | assumption) (by walk_at "ROOM") (by walk_at "ROOM") ?_)
                      rintro _ _ h45 tk45 F45 N45 ⟨Di2, ki2, rfl, rfl, offi2⟩
                      clear N44 F44
                      dsimp only
                      iterate 1 walk_at "S"
                      have hcl3 : (cp ++ [c]).length ≤ 6 := by rw [hb3.length, ← hdy, deck_length]; omega
                      have htl3 : tc.length ≤ 6 := by rw [hto.length, ← hdy, deck_length]; omega
                      k_dflt (refine str_via (reads_cards (cards := cp ++ [c]) List.mem_cons_self (fun c0 hc0 => by obtain ⟨t1, t2, ht⟩ := tabJ.tups c0 hc0; exact ⟨t1, t2, List.mem_cons_of_mem _ (List.mem_cons_of_mem _ ht)⟩)) F45 N45 (cards_showable _) (cards_noDict _) rfl (by with_unfolding_all rfl) (by refine Nat.lt_of_le_of_lt (Nat.add_le_add_left (Nat.add_le_add_right (cards_depth _) 3) _) ?_; walk_at "ROOM") (fun h46 u46 tk46 F46 N46 => ?_) (cards_short hb3 hd6 hcl3))
                      clear F45 N45
                      iterate 6 walk_at "S"
                      k_dflt (refine str_via (reads_cards (cards := tc) (n := (List.map (fun c : Card => Value.ref c.at_) tc).length) (List.mem_cons_of_mem _ List.mem_cons_self) (htrj.mono fun p hp => List.mem_cons_of_mem _ (List.mem_cons_of_mem _ hp))) F46 N46 (cards_showable _) (cards_noDict _) rfl (by with_unfolding_all rfl) (by refine Nat.lt_of_le_of_lt (Nat.add_le_add_left (Nat.add_le_add_right (cards_depth _) 3) _) ?_; walk_at "ROOM") (fun h47 u47 tk47 F47 N47 => ?_) (cards_short hto hd6 htl3))
                      clear F46 N46
                      rw [hsame]
                      iterate 1 walk_at "S"
                      rw [show ((cardsD (cp ++ [c])).shown == (cardsD (cp ++ [c])).shown) = true from by simp]
                      iterate 1 walk_at "S"
                      k_end
                      wrow_close))
end Mine
theorem PySem.Challenge.cw_pg0320_01_holds : PySem.Challenge.rw_pg0320_01.Holds :=
  Mine.whole
