import PyProof.Rows.All
import Wide.All
import OpenK.AllK
import Wide.FinOn
import PySem.Challenge.RW_sw0071_01
open PySem PySem.Calls PySem.W PyProof.Rows PyProof.V PySem.Spec
set_option Elab.async false
set_option maxRecDepth 100000
set_option maxHeartbeats 8000000
namespace Mine
set_option synthInstance.maxSize 1 in
open_top hd for PySem.Challenge.rw_sw0071_01
end Mine
local macro_rules | `(tactic| omega) => `(tactic| lia)
local macro_rules | `(tactic| walk_at $s:str) => `(tactic| k_extra $s)
local macro_rules | `(tactic| walk_at "mine step") => `(tactic| first | (k_unfold; (try dsimp only)) | (k_end; wrow_close) | walk1 | (dsimp only; walk1) | (leave1; walk_say "STEP leave1"; try dsimp only) | fail "no step")
local macro_rules | `(tactic| k_room) => `(tactic| ((try simp only [ktrTop, depth_under_make, depth_under_kw, depth_in1, depth_deeper, depth_caller]); omega))
namespace Mine
noncomputable abbrev PR : PySem.Program := RowW.prog (OpenRow.toRowW (OpenLaw.row PySem.Challenge.rw_sw0071_01))
noncomputable abbrev LOO : List Str := looseW hd.view_39 [Str.ofString "insort_right", Str.ofString "bisect_right", Str.ofString "bisect_left", Str.ofString "Whitespace"]
noncomputable abbrev Led := List (Addr × Obj)
/-- a call of the def at f with these arguments, over this ledger: it ends, and hands back a value and a ledger of which Post is so -/
noncomputable abbrev Claim (lvl : Nat) (w : World) (f : Addr) (news : Led) (vs : List Value) (Post : Value → Led → Prop) : Prop :=
  ∀ (mean : ExcName → Option Value) (mg mb : Str → Option Value) (dp un : Nat) (gd : Option (List Code)) (cn : Str) (cs : Scope) (a : Addr) (ccd : Value) (cl : List (Str × Addr)) (outer : List Env) (A₀ : Around) (base h₀ : Heap) (L : Addr) (m : Str → Option Value) (s : Shared) (Q E : Value → Shared → Prop),
    Below A₀ base outer h₀ → Fr h₀ L s.heap m → (hd.heap_39 w.params).In h₀ → News h₀ L s.heap news → Top hd.view_39 LOO mean mg mb h₀ → cs.kind = .function →
    dp + lvl < recursionLimit → un + 20 * lvl < cLine →
    (∀ (r : Value) (news' : Led) (h' : Heap) (tk' : Nat), Post r news' → Fr h₀ L h' m → News h₀ L h' news' → Q r { s with heap := h', toks := tk' }) →
      wpAny (model PR w) (ktrTop dp un gd cn cs L a ccd cl outer) (call (.ref f) vs) Q E s
theorem fill : PySem.Challenge.rw_sw0071_01.Holds → (hd.heap_39 = hd.heap_39) := by
  k_fill
  intro _; rfl
theorem news_add {h₀ h : Heap} {L : Addr} {news : Led} {p : Addr × Obj} (N : News h₀ L h news) (hp : p ∈ news) : News h₀ L h (p :: news) :=
  fun q hq => (List.mem_cons.mp hq).elim (fun e => e ▸ N p hp) (N q)
noncomputable def bl (ns : List Int) (x : Int) : Nat := ns.countP (fun a => decide (a < x))
end Mine
namespace Mine
theorem bl_le (ns : List Int) (x : Int) : bl ns x ≤ ns.length := List.countP_le_length
theorem bl_lt {ns : List Int} {x : Int} (hs : ns.Pairwise (· ≤ ·)) : ∀ k : Nat, k < ns.length → ns.getD k 0 < x → k + 1 ≤ bl ns x := by
  induction ns with
  | nil => intro k h; exact absurd h (Nat.not_lt_zero _)
  | cons a r ih =>
    intro k hk h
    rw [List.pairwise_cons] at hs
    unfold bl at ih ⊢
    rw [List.countP_cons]
    cases k with
    | zero =>
      simp only [List.getD_cons_zero] at h
      rw [if_pos (by simpa using h)]
      omega
    | succ k =>
      simp only [List.getD_cons_succ] at h
      have hk' : k < r.length := by simpa using hk
      have := ih hs.2 k hk' h
      have ha : a ≤ r.getD k 0 := by
        rw [List.getD_eq_getElem?_getD, List.getElem?_eq_getElem hk']
        exact hs.1 _ (List.getElem_mem hk')
      rw [if_pos (by simp only [decide_eq_true_eq]; omega)]
      omega
theorem bl_ge {ns : List Int} {x : Int} (hs : ns.Pairwise (· ≤ ·)) : ∀ k : Nat, ¬ ns.getD k 0 < x → k < ns.length → bl ns x ≤ k := by
  induction ns with
  | nil => intro k _ h; exact absurd h (Nat.not_lt_zero _)
  | cons a r ih =>
    intro k h hk
    rw [List.pairwise_cons] at hs
    cases k with
    | zero =>
      simp only [List.getD_cons_zero] at h
      have : bl (a :: r) x = 0 := by
        unfold bl
        rw [List.countP_eq_zero]
        intro b hb
        simp only [decide_eq_true_eq]
        rcases List.mem_cons.mp hb with rfl | hb
        · exact h
        · have := hs.1 b hb; omega
      omega
    | succ k =>
      simp only [List.getD_cons_succ] at h
      have := ih hs.2 k h (by simpa using hk)
      unfold bl at this ⊢
      rw [List.countP_cons]
      split <;> omega
theorem bl_turn1 {ns : List Int} {x lo hi : Int} (hs : ns.Pairwise (· ≤ ·)) (h1 : 0 ≤ lo) (h3 : hi ≤ (ns.length : Int)) (h5 : (bl ns x : Int) ≤ hi) (hlt : lo < hi) (h : ns.getD ((lo + hi).fdiv 2).toNat 0 < x) :
    0 ≤ (lo + hi).fdiv 2 + 1 ∧ (lo + hi).fdiv 2 + 1 ≤ hi ∧ hi ≤ (ns.length : Int) ∧ (lo + hi).fdiv 2 + 1 ≤ (bl ns x : Int) ∧ (bl ns x : Int) ≤ hi := by
  have e := Int.fdiv_eq_ediv_of_nonneg (lo + hi) (b := 2) (by omega)
  rw [e] at h ⊢
  have := bl_lt hs ((lo + hi) / 2).toNat (by omega) h
  omega
theorem bl_turn2 {ns : List Int} {x lo hi : Int} (hs : ns.Pairwise (· ≤ ·)) (h1 : 0 ≤ lo) (h3 : hi ≤ (ns.length : Int)) (h4 : lo ≤ (bl ns x : Int)) (h5 : (bl ns x : Int) ≤ hi) (hlt : lo < hi) (h : ¬ ns.getD ((lo + hi).fdiv 2).toNat 0 < x) :
    0 ≤ lo ∧ lo ≤ (lo + hi).fdiv 2 ∧ (lo + hi).fdiv 2 ≤ (ns.length : Int) ∧ lo ≤ (bl ns x : Int) ∧ (bl ns x : Int) ≤ (lo + hi).fdiv 2 := by
  have e := Int.fdiv_eq_ediv_of_nonneg (lo + hi) (b := 2) (by omega)
  rw [e] at h ⊢
  have := bl_ge hs ((lo + hi) / 2).toNat h (by omega)
  omega
theorem bl_meas1 {lo hi : Int} (hlt : lo < hi) : (hi - ((lo + hi).fdiv 2 + 1)).toNat < (hi - lo).toNat := by
  have e := Int.fdiv_eq_ediv_of_nonneg (lo + hi) (b := 2) (by omega)
  rw [e]; omega
theorem bl_meas2 {lo hi : Int} (hlt : lo < hi) : ((lo + hi).fdiv 2 - lo).toNat < (hi - lo).toNat := by
  have e := Int.fdiv_eq_ediv_of_nonneg (lo + hi) (b := 2) (by omega)
  rw [e]; omega
theorem news_tail {h₀ h : Heap} {L : Addr} {news : Led} {p : Addr × Obj} (N : News h₀ L h (p :: news)) : News h₀ L h news := fun q hq => N q (.tail _ hq)
theorem bl_ret {Q : Value → Shared → Prop} {h₀ : Heap} {L : Addr} {m : Str → Option Value} {s : Shared} {news : Led} {p : Addr × Obj} {k i : Int} {t : Tok} {h' : Heap} {tk : Nat}
    (hret : ∀ (r : Value) (news' : Led) (h' : Heap) (tk' : Nat), (news' = news ∧ ∃ t, r = .int k t) → Fr h₀ L h' m → News h₀ L h' news' → Q r { s with heap := h', toks := tk' })
    (F : Fr h₀ L h' m) (N : News h₀ L h' (p :: news)) (e : i = k) : Q (.int i t) { s with heap := h', toks := tk } := e ▸ hret _ _ _ _ ⟨rfl, _, rfl⟩ F (news_tail N)
theorem bl_spec {w : World} {news : Led} {l : Addr} {n : Nat} {vs : List Value} {ns : List Int} {x : Int} {tx : Tok} (hm : (l, W.listOf vs.toArray n) ∈ news) (hi : IntsAre vs ns) (hl : ns.length ≤ 8) (hs : ns.Pairwise (· ≤ ·)) :
    Claim 3 w 48 news [.ref l, .int x tx] (fun r news' => news' = news ∧ ∃ t, r = .int (bl ns x) t) := by
  intro mean mg mb dp un gd cn cs a ccd cl outer A₀ base h₀ L m s Q E B F X N T hk hdp hun hret
  obtain ⟨ck, c2, c3, c4, c5⟩ := cs
  cases hk
  replace N := news_add N hm
  have hble := bl_le ns x
  (k_with "state" => first | exact bl_turn1 (by assumption) (by assumption) (by assumption) (by assumption) (by assumption) (by assumption) | exact bl_turn2 (by assumption) (by assumption) (by assumption) (by assumption) (by assumption) (by assumption) (by assumption))
  (k_with "measure" => first | exact bl_meas1 (by assumption) | exact bl_meas2 (by assumption))
  (repeat ((fail_if_success (first | with_reducible show wpAny _ _ (exec (PySem.Stmt.While ..) _) _ _ _)); walk_at "mine step"))
  k_while_given ["a", "x"] (fun xs x script lo hi => 0 ≤ lo ∧ lo ≤ hi ∧ hi ≤ (xs.length : Int) ∧ lo ≤ (bl xs x : Int) ∧ (bl xs x : Int) ≤ hi) (fun xs x script lo hi => (hi - lo).toNat) "lo" "hi"
  k_steps
  all_goals (refine bl_ret hret (by assumption) (by assumption) ?_; omega)
end Mine
namespace Mine
/-- how many items are x or less -/
noncomputable def br (ns : List Int) (x : Int) : Nat := ns.countP (fun a => decide (a ≤ x))
theorem br_le (ns : List Int) (x : Int) : br ns x ≤ ns.length := List.countP_le_length
theorem br_bl (ns : List Int) (x : Int) : br ns x = bl ns (x + 1) := by
  unfold br bl
  refine List.countP_congr fun a _ => ?_
  simp only [decide_eq_true_eq]; omega
theorem br_turn1 {ns : List Int} {x lo hi : Int} (hs : ns.Pairwise (· ≤ ·)) (h1 : 0 ≤ lo) (h3 : hi ≤ (ns.length : Int)) (h5 : (br ns x : Int) ≤ hi) (hlt : lo < hi) (h : ¬ x < ns.getD ((lo + hi).fdiv 2).toNat 0) :
    0 ≤ (lo + hi).fdiv 2 + 1 ∧ (lo + hi).fdiv 2 + 1 ≤ hi ∧ hi ≤ (ns.length : Int) ∧ (lo + hi).fdiv 2 + 1 ≤ (br ns x : Int) ∧ (br ns x : Int) ≤ hi := by
  have e := Int.fdiv_eq_ediv_of_nonneg (lo + hi) (b := 2) (by omega)
  rw [br_bl] at h5 ⊢
  rw [e] at h ⊢
  have := bl_lt hs (x := x + 1) ((lo + hi) / 2).toNat (by omega) (by omega)
  omega
theorem br_turn2 {ns : List Int} {x lo hi : Int} (hs : ns.Pairwise (· ≤ ·)) (h1 : 0 ≤ lo) (h3 : hi ≤ (ns.length : Int)) (h4 : lo ≤ (br ns x : Int)) (h5 : (br ns x : Int) ≤ hi) (hlt : lo < hi) (h : x < ns.getD ((lo + hi).fdiv 2).toNat 0) :
    0 ≤ lo ∧ lo ≤ (lo + hi).fdiv 2 ∧ (lo + hi).fdiv 2 ≤ (ns.length : Int) ∧ lo ≤ (br ns x : Int) ∧ (br ns x : Int) ≤ (lo + hi).fdiv 2 := by
  have e := Int.fdiv_eq_ediv_of_nonneg (lo + hi) (b := 2) (by omega)
  rw [br_bl] at h4 h5 ⊢
  rw [e] at h ⊢
  have := bl_ge hs (x := x + 1) ((lo + hi) / 2).toNat (by omega) (by omega)
  omega
/-- the item x put in at place k -/
noncomputable def ins (ns : List Int) (k : Nat) (x : Int) : List Int := ns.take k ++ x :: ns.drop k
theorem UpdF.opens {l : Addr} {o : Obj} {news : Led} {g : Obj → Led} (hU : UpdF l o news g) : ∃ rest : Led, OwnOff rest [l] ∧
    (∀ h₀ L h, News h₀ L h news → News h₀ L h ((l, o) :: rest)) ∧ (∀ o' h₀ L h, News h₀ L h ((l, o') :: rest) → News h₀ L h (g o')) := by
  obtain ⟨pre, post, e1, e2, d1, d2⟩ := hU.split
  subst e1
  refine ⟨pre ++ post, ?_, fun h₀ L h N p hp => N p ?_, fun o' h₀ L h N p hp => N p ?_⟩
  · intro p hp b hb
    rw [List.mem_singleton] at hb; subst hb
    exact (List.mem_append.mp hp).elim (d1 p) (d2 p)
  · simp only [List.mem_cons, List.mem_append] at hp ⊢
    rcases hp with h | h | h
    · exact .inr (.inl h)
    · exact .inl h
    · exact .inr (.inr h)
  · rw [e2] at hp
    simp only [List.mem_cons, List.mem_append] at hp ⊢
    rcases hp with h | h | h
    · exact .inr (.inl h)
    · exact .inl h
    · exact .inr (.inr h)
theorem fits_small {k : Int} (h0 : 0 ≤ k) (h : k ≤ 1000000) : Builtin.List.listFitsIndex k = true := fitsIndex_of h0 (by omega)
end Mine
namespace Mine
theorem typeOf_wd_str : typeOf (.builtin "str.__getitem__") = pure (.type "wrapper_descriptor") := by show builtinType _ = _; rw [builtinType_eq_fast]; kernel_rfl
theorem typeOf_wd_list : typeOf (.builtin "list.__getitem__") = pure (.type "method_descriptor") := by show builtinType _ = _; rw [builtinType_eq_fast]; kernel_rfl
theorem slot_wd_get : Slot "wrapper_descriptor" "__get__" "wrapper_descriptor.__get__" :=
  .of (owner := "wrapper_descriptor") (n := "__get__") (by rw [typeLookup_type, builtinLookup_eq_fast]; kernel_rfl) (by decide +kernel) (by decide +kernel) (by decide +kernel)
    (by first | exact .inl (by decide +kernel) | exact .inr (by decide +kernel)) (by rw [isSubtype_type]; kernel_rfl)
theorem slot_md_get : Slot "method_descriptor" "__get__" "method_descriptor.__get__" :=
  .of (owner := "method_descriptor") (n := "__get__") (by rw [typeLookup_type, builtinLookup_eq_fast]; kernel_rfl) (by decide +kernel) (by decide +kernel) (by decide +kernel)
    (by first | exact .inl (by decide +kernel) | exact .inr (by decide +kernel)) (by rw [isSubtype_type]; kernel_rfl)
theorem entry_wd_get : entryFor table "wrapper_descriptor.__get__" = some Builtin.«wrapper_descriptor.__get__» := entryFor_of_tree (by kernel_rfl)
theorem entry_md_get : entryFor table "method_descriptor.__get__" = some Builtin.«method_descriptor.__get__» := entryFor_of_tree (by kernel_rfl)
theorem args_wd_get (a b c : Value) : argsOk "wrapper_descriptor.__get__" ⟨[a, b, c], []⟩ := by unfold argsOk; kernel_rfl
theorem args_md_get (a b c : Value) : argsOk "method_descriptor.__get__" ⟨[a, b, c], []⟩ := by unfold argsOk; kernel_rfl
theorem wd_set : typeLookup (.type "wrapper_descriptor") "__set__" = pure none := by rw [typeLookup_type, builtinLookup_eq_fast]; kernel_rfl
theorem wd_del : typeLookup (.type "wrapper_descriptor") "__delete__" = pure none := by rw [typeLookup_type, builtinLookup_eq_fast]; kernel_rfl
theorem md_set : typeLookup (.type "method_descriptor") "__set__" = pure none := by rw [typeLookup_type, builtinLookup_eq_fast]; kernel_rfl
theorem md_del : typeLookup (.type "method_descriptor") "__delete__" = pure none := by rw [typeLookup_type, builtinLookup_eq_fast]; kernel_rfl
theorem lk_str_gi : typeLookup (.type "str") "__getitem__" = pure (some (.builtin "str.__getitem__")) := by rw [typeLookup_type, builtinLookup_eq_fast]; kernel_rfl
theorem lk_list_gi : typeLookup (.type "list") "__getitem__" = pure (some (.builtin "list.__getitem__")) := by rw [typeLookup_type, builtinLookup_eq_fast]; kernel_rfl
theorem no_data : withoutEnding? "str.__getitem__" "#data" = none := by decide +kernel
theorem no_data_l : withoutEnding? "list.__getitem__" "#data" = none := by decide +kernel
theorem owner_str : (".".intercalate ("str.__getitem__".cutAt '.').dropLast) = "str" := by
  have e0 : "str.__getitem__".cutAt '.' = ["str", "__getitem__"] := by first | rfl | decide +kernel
  rw [e0]; decide +kernel
theorem owner_list : (".".intercalate ("list.__getitem__".cutAt '.').dropLast) = "list" := by
  have e0 : "list.__getitem__".cutAt '.' = ["list", "__getitem__"] := by first | rfl | decide +kernel
  rw [e0]; decide +kernel
theorem sub_str : isSubtype (.type "str") (.type (".".intercalate ("str.__getitem__".cutAt '.').dropLast)) = pure true := by rw [owner_str, isSubtype_type]; kernel_rfl
theorem sub_list : isSubtype (.type "list") (.type (".".intercalate ("list.__getitem__".cutAt '.').dropLast)) = pure true := by rw [owner_list, isSubtype_type]; kernel_rfl
section
variable {prog : Program} {w : World} {A : Around} {E : Value → Shared → Prop} {h : Heap} {g : Array GenState} {d : Drawn} {t : Nat} {os : OsState} {x : Str} {u : Tok}
theorem gi_get_str {R : Result → Shared → Prop} (hq : ∀ o : Obj, o.isFreed = false → R (.ok (.ret (.ref h.objs.size))) ⟨h.push o, g, d, t, os⟩) :
    codeAny (model prog w) A (.call (.builtin "wrapper_descriptor.__get__") ⟨[.builtin "str.__getitem__", .str x u, .type "str"], []⟩) R ⟨h, g, d, t, os⟩ := by
  have hT : (⟨h, g, d, t, os⟩ : Shared).TypeIs (.str x u) "str" := rfl
  have hT5 : (⟨h, g, d, t, os⟩ : Shared).TypeIs (.builtin "str.__getitem__") "wrapper_descriptor" := typeOf_wd_str
  have f8 := sub_str
  refine codeAny_call_builtin slot_wd_get.plain entry_wd_get (slot_wd_get.check _ _ _ _ _ _ _ _ hT5 (args_wd_get _ _ _) ?_)
  repeat (any_goals (first | assumption | wp_step))
  exact hq _ rfl
theorem gi_entry_str {tk : Tok} {Q : Fin → Shared → Prop} (hq : ∀ o : Obj, o.isFreed = false → Q (.done (.ret (.ref h.objs.size))) ⟨h.push o, g, d, t, os⟩) :
    wpAny (model prog w) A (Builtin.«object.__getattribute__» ⟨[.str x u, .str "__getitem__" tk], []⟩) Q E ⟨h, g, d, t, os⟩ := by
  have hT : (⟨h, g, d, t, os⟩ : Shared).TypeIs (.str x u) "str" := rfl
  have hT5 : (⟨h, g, d, t, os⟩ : Shared).TypeIs (.builtin "str.__getitem__") "wrapper_descriptor" := typeOf_wd_str
  have f4 := lk_str_gi
  have f5 := typeOf_wd_str
  have f6 := slot_wd_get.lookup
  have f7 := wd_set
  have f8 := wd_del
  repeat (any_goals (first | assumption | wp_step))
  refine gi_get_str fun o ho => ?_
  repeat (any_goals (first | assumption | wp_step))
  exact hq _ ho
theorem gi_call_str {tk : Tok} {R : Result → Shared → Prop} (hq : ∀ o : Obj, o.isFreed = false → R (.ok (.ret (.ref h.objs.size))) ⟨h.push o, g, d, t, os⟩) :
    codeAny (model prog w) A (.call (.builtin "object.__getattribute__") ⟨[.str x u, .str "__getitem__" tk], []⟩) R ⟨h, g, d, t, os⟩ :=
  codeAny_call_builtin F.slot_str_getattribute.plain F.entry_object_getattribute (F.slot_str_getattribute.check _ _ _ _ _ _ _ _ (show (⟨h, g, d, t, os⟩ : Shared).TypeIs (.str x u) "str" from rfl) (F.args_object_getattribute_2 _ _) (gi_entry_str hq))
theorem gi_by_str {tk : Tok} {Q : Value → Shared → Prop} (hq : ∀ o : Obj, o.isFreed = false → Q (.ref h.objs.size) ⟨h.push o, g, d, t, os⟩) : wpAny (model prog w) A (getAttrBy (.str x u) (.str "__getitem__" tk) false) Q E ⟨h, g, d, t, os⟩ := by
  have hT : (⟨h, g, d, t, os⟩ : Shared).TypeIs (.str x u) "str" := rfl
  have f2 := F.slot_str_getattribute.lookup
  have f3 := F.slot_str_getattribute.bind (.str x u)
  repeat (any_goals (first | assumption | wp_step))
  refine gi_call_str fun o ho => ?_
  repeat (any_goals (first | assumption | wp_step))
  exact hq _ ho
theorem kind_hasattr : builtinKind "hasattr" = none := by decide +kernel
theorem plain_hasattr : plainId "hasattr" = true := by decide +kernel
theorem entry_hasattr : entryFor table "hasattr" = some Builtin.«hasattr» := entryFor_of_tree (by kernel_rfl)
theorem args_hasattr (a b : Value) : argsOk "hasattr" ⟨[a, b], []⟩ := by unfold argsOk; kernel_rfl
theorem hasattr_str {tk : Tok} {Q : Value → Shared → Prop} (hq : ∀ o : Obj, o.isFreed = false → Q (.bool true) ⟨h.push o, g, d, t, os⟩) :
    wpAny (model prog w) A (call (.builtin "hasattr") [.str x u, .str "__getitem__" tk]) Q E ⟨h, g, d, t, os⟩ := by
  refine Calls.call_function_entry kind_hasattr plain_hasattr entry_hasattr (args_hasattr _ _) ?_
  have hT : (⟨h, g, d, t, os⟩ : Shared).TypeIs (.str x u) "str" := rfl
  have f4 := lk_str_gi
  have f2 := F.slot_str_getattribute.lookup
  have f5 := no_data
  unfold Builtin.«hasattr» getAttrBy?
  refine wpAny_bind (m := someArgs "hasattr" 2 2 _) (wpAny_pure ?_)
  try dsimp only
  refine wpAny_bind (m := _) (wpAny_pure ?_)
  try dsimp only
  refine wpAny_ite_false rfl ?_
  refine wpAny_bind (wpAny_typeOf hT ?_)
  try dsimp only
  refine wpAny_bind (wpAny_pure ?_)
  try dsimp only
  refine wpAny_bind (wpAny_of_eq f4 ?_)
  try dsimp only
  refine wpAny_bind (wpAny_of_eq f2 ?_)
  rw [f5]
  refine wpAny_ite_false rfl ?_
  refine wpAny_bind (m := _) (wpAny_pure (a := 0) ?_)
  try dsimp only
  refine wpAny_ite_false rfl ?_
  refine wpAny_bind (wpAny_bind (wpAny_attempt (gi_by_str fun o ho => ?_)))
  try dsimp only
  refine wpAny_pure ?_
  refine wpAny_ite_false rfl ?_
  exact wpAny_pure ⟨_, rfl, hq o ho⟩
theorem sub_list_module : isSubtype (.type "list") (.type "module") = pure false := by rw [isSubtype_type]; kernel_rfl
variable {a : Addr} {its : Array Value} {k : Nat}
theorem gi_get_list {R : Result → Shared → Prop} (hx : h.get? a = some { cls := .type "list", dict := none, data := .seq its k, slots := #[] }) (hq : ∀ o : Obj, o.isFreed = false → R (.ok (.ret (.ref h.objs.size))) ⟨h.push o, g, d, t, os⟩) :
    codeAny (model prog w) A (.call (.builtin "method_descriptor.__get__") ⟨[.builtin "list.__getitem__", .ref a, .type "list"], []⟩) R ⟨h, g, d, t, os⟩ := by
  have hT : (⟨h, g, d, t, os⟩ : Shared).TypeIs (.ref a) "list" := ⟨_, hx, rfl⟩
  have hT5 : (⟨h, g, d, t, os⟩ : Shared).TypeIs (.builtin "list.__getitem__") "method_descriptor" := typeOf_wd_list
  have f8 := sub_list
  refine codeAny_call_builtin slot_md_get.plain entry_md_get (slot_md_get.check _ _ _ _ _ _ _ _ hT5 (args_md_get _ _ _) ?_)
  repeat (any_goals (first | assumption | wp_step))
  exact hq _ rfl
theorem gi_entry_list {tk : Tok} {Q : Fin → Shared → Prop} (hx : h.get? a = some { cls := .type "list", dict := none, data := .seq its k, slots := #[] }) (hq : ∀ o : Obj, o.isFreed = false → Q (.done (.ret (.ref h.objs.size))) ⟨h.push o, g, d, t, os⟩) :
    wpAny (model prog w) A (Builtin.«object.__getattribute__» ⟨[.ref a, .str "__getitem__" tk], []⟩) Q E ⟨h, g, d, t, os⟩ := by
  have hT : (⟨h, g, d, t, os⟩ : Shared).TypeIs (.ref a) "list" := ⟨_, hx, rfl⟩
  have hT5 : (⟨h, g, d, t, os⟩ : Shared).TypeIs (.builtin "list.__getitem__") "method_descriptor" := typeOf_wd_list
  have f4 := lk_list_gi
  have f5 := typeOf_wd_list
  have f6 := slot_md_get.lookup
  have f7 := md_set
  have f8 := md_del
  repeat (any_goals (first | assumption | wp_step))
  refine gi_get_list hx fun o ho => ?_
  repeat (any_goals (first | assumption | wp_step))
  exact hq _ ho
theorem gi_call_list {tk : Tok} {R : Result → Shared → Prop} (hx : h.get? a = some { cls := .type "list", dict := none, data := .seq its k, slots := #[] }) (hq : ∀ o : Obj, o.isFreed = false → R (.ok (.ret (.ref h.objs.size))) ⟨h.push o, g, d, t, os⟩) :
    codeAny (model prog w) A (.call (.builtin "list.__getattribute__") ⟨[.ref a, .str "__getitem__" tk], []⟩) R ⟨h, g, d, t, os⟩ :=
  codeAny_call_builtin F.slot_list_getattribute.plain F.entry_list_ga (F.slot_list_getattribute.check _ _ _ _ _ _ _ _ (show (⟨h, g, d, t, os⟩ : Shared).TypeIs (.ref a) "list" from ⟨_, hx, rfl⟩) (F.args_list_getattribute_2 _ _) (gi_entry_list hx hq))
theorem gi_by_list {tk : Tok} {Q : Value → Shared → Prop} (hx : h.get? a = some { cls := .type "list", dict := none, data := .seq its k, slots := #[] }) (hq : ∀ o : Obj, o.isFreed = false → Q (.ref h.objs.size) ⟨h.push o, g, d, t, os⟩) : wpAny (model prog w) A (getAttrBy (.ref a) (.str "__getitem__" tk) false) Q E ⟨h, g, d, t, os⟩ := by
  have hT : (⟨h, g, d, t, os⟩ : Shared).TypeIs (.ref a) "list" := ⟨_, hx, rfl⟩
  have f2 := F.slot_list_getattribute.lookup
  have f3 := F.slot_list_getattribute.bind (.ref a)
  repeat (any_goals (first | assumption | wp_step))
  refine gi_call_list hx fun o ho => ?_
  repeat (any_goals (first | assumption | wp_step))
  exact hq _ ho
theorem hasattr_list {tk : Tok} {Q : Value → Shared → Prop} (hx : h.get? a = some { cls := .type "list", dict := none, data := .seq its k, slots := #[] }) (hq : ∀ o : Obj, o.isFreed = false → Q (.bool true) ⟨h.push o, g, d, t, os⟩) :
    wpAny (model prog w) A (call (.builtin "hasattr") [.ref a, .str "__getitem__" tk]) Q E ⟨h, g, d, t, os⟩ := by
  refine Calls.call_function_entry kind_hasattr plain_hasattr entry_hasattr (args_hasattr _ _) ?_
  have hT : (⟨h, g, d, t, os⟩ : Shared).TypeIs (.ref a) "list" := ⟨_, hx, rfl⟩
  have f4 := lk_list_gi
  have f2 := F.slot_list_getattribute.lookup
  have f5 := no_data_l
  unfold Builtin.«hasattr» getAttrBy?
  refine wpAny_bind (m := someArgs "hasattr" 2 2 _) (wpAny_pure ?_)
  try dsimp only
  refine wpAny_bind (m := _) (wpAny_pure ?_)
  try dsimp only
  refine wpAny_ite_false rfl ?_
  refine wpAny_bind (wpAny_typeOf hT ?_)
  try dsimp only
  refine wpAny_bind (wpAny_pure ?_)
  try dsimp only
  refine wpAny_bind (wpAny_of_eq f4 ?_)
  try dsimp only
  refine wpAny_bind (wpAny_of_eq f2 ?_)
  rw [f5]
  refine wpAny_ite_false rfl ?_
  refine wpAny_bind (m := _) (wpAny_bind (wpAny_pure ?_))
  dsimp only
  refine wpAny_bind (wpAny_isInstance hT sub_list_module ?_)
  refine wpAny_ite_true rfl (wpAny_pure ?_)
  refine wpAny_ite_false rfl ?_
  refine wpAny_bind (wpAny_bind (wpAny_attempt (gi_by_list hx fun o ho => ?_)))
  try dsimp only
  refine wpAny_pure ?_
  refine wpAny_ite_false rfl ?_
  exact wpAny_pure ⟨_, rfl, hq o ho⟩
end
end Mine
namespace Mine
/-- the text of these signs -/
noncomputable def tx (l : List Nat) : Str := ⟨l.toArray⟩
theorem tx_length (l : List Nat) : (tx l).length = l.length := by simp [tx, Str.length]
theorem tx_append (a b : List Nat) : tx a ++ tx b = tx (a ++ b) := by
  show Str.append _ _ = _
  simp [tx, Str.append]
theorem tx_tab : (Str.ofString "\t") = tx [9] := by decide +kernel
theorem tx_blank : (Str.ofString " ") = tx [32] := by decide +kernel
theorem tx_end : (Str.ofString "x\t ") = tx [120, 9, 32] := by decide +kernel
theorem fold_rep (n : Nat) (acc : Array Nat) : (List.replicate n #[32]).foldl (· ++ ·) acc = acc ++ (List.replicate n 32).toArray := by
  induction n generalizing acc with
  | zero => simp
  | succ n ih =>
    rw [List.replicate_succ, List.foldl_cons, ih, List.replicate_succ]
    apply Array.toList_inj.mp
    simp
theorem mul_blank {n : Int} (h0 : 0 ≤ n) (h1 : n ≤ 1000) : Txt.mul (Str.ofString " ") n = tx (List.replicate n.toNat 32) := by
  rw [tx_blank]
  unfold Txt.mul
  by_cases h : n < 1
  · rw [if_pos h, show n.toNat = 0 from by omega]; rfl
  · rw [if_neg h]
    by_cases h2 : n = 1
    · subst h2; rfl
    · have : (n == 1 || (tx [32]).length == 0) = false := by
        rw [tx_length]; simp; omega
      rw [if_neg (by rw [this]; exact Bool.false_ne_true)]
      have : (tx [32]).cps = #[32] := rfl
      rw [this, fold_rep]
      simp [tx]
theorem mulOk_blank {n : Int} (h0 : 0 ≤ n) (h1 : n ≤ 1000) : MulOk (Str.ofString " ") n := by
  have hl : (Str.ofString " ").length = 1 := by rw [tx_blank, tx_length]; rfl
  refine ⟨?_, ?_, ?_⟩
  · simp; omega
  · intro h _
    rw [hl]
    have : (1:Int) ≤ (2 ^ 63 - 1) / n := Int.le_ediv_of_mul_le (by omega) (by omega)
    omega
  · intro h _
    rw [hl]
    show decide _ = false
    rw [sizeLine_eq]
    exact decide_eq_false (by omega)
section
variable {prog : Program} {w : World} {A : Around} {E : Value → Shared → Prop} {s : Shared} {h₀ : Heap} {L : Addr} {m : Str → Option Value} {news : Led} {Q : Value → Shared → Prop}
theorem hasattr_strK {x : Str} {u tk : Tok} (F : Fr h₀ L s.heap m) (N : News h₀ L s.heap news) (h : ∀ h', Fr h₀ L h' m → News h₀ L h' news → Q (.bool true) { s with heap := h' }) :
    wpAny (model prog w) A (call (.builtin "hasattr") [.str x u, .str "__getitem__" tk]) Q E s :=
  hasattr_str fun o ho => h _ (F.push o) (fun p hp => (News.push F N o ho) p (.tail _ hp))
theorem hasattr_listK {a : Addr} {its : Array Value} {k : Nat} {tk : Tok} (F : Fr h₀ L s.heap m) (N : News h₀ L s.heap news) (hm : (a, W.listOf its k) ∈ news) (h : ∀ h', Fr h₀ L h' m → News h₀ L h' news → Q (.bool true) { s with heap := h' }) :
    wpAny (model prog w) A (call (.builtin "hasattr") [.ref a, .str "__getitem__" tk]) Q E s :=
  hasattr_list (N _ hm).1 fun o ho => h _ (F.push o) (fun p hp => (News.push F N o ho) p (.tail _ hp))
theorem add_tx {a b : List Nat} {t u : Tok} (ha : a.length ≤ 1000) (hb : b.length ≤ 1000) (h : ∀ t' k, Q (.str (tx (a ++ b)) t') { s with toks := k }) : wpAny (model prog w) A (binaryOp .Add (.str (tx a) t) (.str (tx b) u)) Q E s :=
  SB.add (fun t' k => by rw [tx_append]; exact h t' k) (by rw [tx_length, tx_length, sizeLine_eq]; omega)
theorem mul_tx {n : Int} {t u : Tok} (h0 : 0 ≤ n) (h1 : n ≤ 1000) (h : ∀ t' k, Q (.str (tx (List.replicate n.toNat 32)) t') { s with toks := k }) : wpAny (model prog w) A (binaryOp .Mult (.str (Str.ofString " ") t) (.int n u)) Q E s :=
  SB.mul (mulOk_blank h0 h1) (fun t' k => by rw [mul_blank h0 h1]; exact h t' k)
end
theorem concat_str_spec {w : World} {news : Led} {a b : List Nat} {t u : Tok} (ha : a.length ≤ 1000) (hb : b.length ≤ 1000) :
    Claim 3 w 118 news [.str (tx a) t, .str (tx b) u] (fun r news' => news' = news ∧ ∃ t', r = .str (tx (a ++ b)) t') := by
  k_with_none
  (k_with "call builtin:hasattr" => ((k_here; k_dflt (first
  | (refine' hasattr_strK ?wq_k1 ?wq_k2 ?_; (case wq_k1 => k_asm); (case wq_k2 => k_asm); k_whole)
  | (refine' hasattr_listK ?wq_k1 ?wq_k2 ?wq_k3 ?_; (case wq_k1 => k_asm); (case wq_k2 => k_asm); (case wq_k3 => k_mem); k_whole)); intro h' F' N')))
  (k_with "binaryOp Add str str" => ((k_here; (with_reducible show wpAny _ _ (binaryOp Operator.Add (Value.str (tx _) _) (Value.str (tx _) _)) _ _ _); (refine add_tx (by assumption) (by assumption) ?_); intro t' k')))
  intro mean mg mb dp un gd cn cs a1 ccd cl outer A₀ base h₀ L m s Q E B F X N T hk hdp hun hret
  obtain ⟨ck, c2, c3, c4, c5⟩ := cs
  cases hk
  k_steps
  all_goals exact hret _ _ _ _ ⟨rfl, _, rfl⟩ (by assumption) (by assumption)
end Mine
namespace Mine
/-- a turn's end: the frame, the ledger, and of it what the next turn wants; addresses may have changed -/
noncomputable def GEnd (h₀ : Heap) (L : Addr) (J : (Str → Option Value) → Led → Prop) (own : Led) (s₁ s₂ : Shared) : Prop :=
  ∃ h' tk m' news' nx, s₂ = { s₁ with heap := h', toks := tk } ∧ Fr h₀ L h' m' ∧ News h₀ L h' news' ∧ (∀ p ∈ nx, p ∈ news') ∧ (∀ p ∈ own, p ∈ news') ∧ OwnOff own (nx.map (·.1)) ∧ J m' nx
noncomputable def GPost (h₀ : Heap) (L : Addr) (J : (Str → Option Value) → Led → Prop) (own : Led) (s₁ : Shared) (Q : Flow → Shared → Prop) (f : Flow) (s₂ : Shared) : Prop :=
  match f with
  | .ret v => Q (.ret v) s₂
  | .brk => Q .next s₂
  | _ => GEnd h₀ L J own s₁ s₂
section
variable {prog : Program} {w : World} {A : Around} {E : Value → Shared → Prop} {s : Shared} {env : Env} {h₀ : Heap} {x : Str} {body : List Stmt} {Q : Flow → Shared → Prop}
theorem loop_invG {I : Addr} {fp : List Addr} {n : Nat} {P : Nat → Value → Prop} {St : Nat → Heap → Prop} {m₀ : Str → Option Value} {news : Led} (J : Nat → (Str → Option Value) → Led → Prop)
    (W : Walks prog w A I fp [I] n P St) (hLf : env.locals ∉ fp) (hwr : h₀.get? I = none) (hnw : ∀ p ∈ news, p.1 ≠ I) (hfp : ∀ b ∈ fp, b ≠ I → ∃ o, h₀.get? b = some o) (hSt : ∀ i h, St i h → ∃ o, h.get? I = some o) (hst : St 0 s.heap) (F : Fr h₀ env.locals s.heap m₀) (N : News h₀ env.locals s.heap news) (hj : J 0 m₀ news)
    (turn : ∀ i v m₁ news₁ h tk own, i < n → P i v → OwnOff own (news₁.map (·.1)) → J i m₁ news₁ → Fr h₀ env.locals h (fun y => if y = x then some v else m₁ y) → News h₀ env.locals h (news₁ ++ own) →
      wpAny (model prog w) A (execs body env) (GPost h₀ env.locals (J (i + 1)) own { s with heap := h, toks := tk } Q) E { s with heap := h, toks := tk })
    (done : ∀ m₁ news₁ h tk, J n m₁ news₁ → Fr h₀ env.locals h m₁ → News h₀ env.locals h news₁ → Q .next { s with heap := h, toks := tk }) :
    LoopAtV prog w A h₀ env x body Q E (.ref I) s := by
  refine ⟨I, fp, [I], n, P, St, m₀, news, J, rfl, W, hLf, (fun b hb => by rw [List.mem_singleton.mp hb]; exact hwr), (fun p hp h => hnw p hp (List.mem_singleton.mp h)), hst, F, N, hj, ?_, ?_⟩
  · rintro i v m₁ news₁ s₁ own ⟨hh', tk', rfl⟩ hin hP hJ hoff hown hget hmem hst' F₁ N₁
    have hI : I ∈ fp := W.sub I (List.mem_singleton.mpr rfl)
    have hsep : OwnOff own (news₁.map (·.1)) := by
      intro p hp b hb e
      obtain ⟨q, hq, rfl⟩ := List.mem_map.mp hb
      have hqI := hoff q hq
      have hqn := (N₁ q (List.mem_append_right _ hq)).2.2
      rw [← e] at hqn hqI
      obtain ⟨o, ho⟩ := hfp p.1 (hown p hp) (fun e => hqI (List.mem_singleton.mpr e))
      rw [ho] at hqn
      cases hqn
    have N₂ : News h₀ env.locals hh' (news₁ ++ own) := fun p hp => N₁ p ((List.mem_append.mp hp).elim (fun h => List.mem_append.mpr (.inr h)) fun h => List.mem_append.mpr (.inl h))
    obtain ⟨oI, hoI⟩ := hSt _ _ hst'
    have hIown : (I, oI) ∈ own := hmem I hI hwr oI hoI
    refine wpAny_mono (turn i v m₁ news₁ hh' tk' own hin hP hsep hJ F₁ N₂) (fun f s₂ p => ?_) fun _ _ e => e
    have fin : GEnd h₀ env.locals (J (i + 1)) own { s with heap := hh', toks := tk' } s₂ → LoopStepU h₀ env.locals [I] own (J (i + 1)) { s with heap := hh', toks := tk' } .next s₂ := by
      rintro ⟨h', tk, m', news', nx, e, F', N', hn, ho, ha, hm⟩
      refine ⟨rfl, h', tk, m', nx, e, F', fun p hp => N' p ((List.mem_append.mp hp).elim (ho p) (hn p)), fun p hp hq => ?_, hm⟩
      exact ha _ hIown p.1 (List.mem_map.mpr ⟨p, hp, rfl⟩) (List.mem_singleton.mp hq).symm
    cases f with
    | ret v => exact .ret p
    | brk => exact .brk p
    | next => exact .next (fin p)
    | cont => exact .cont (fin p)
  · rintro h' tk m' news' F' N' _ hJ
    exact done m' news' h' tk hJ F' N'
/-- a loop over a text, its state in letters -/
theorem gst_text {σ : Type} {l : List Nat} {tk₀ : Tok} {m₀ : Str → Option Value} (Led : σ → List (Addr × Obj)) (ps : σ → List (Str × Value)) (stored : List Str) (P : List Nat → σ → Prop) (c₀ : σ)
    (hh : A.handled = none) (F : Fr h₀ env.locals s.heap m₀) (N : News h₀ env.locals s.heap (Led c₀)) (hk : ∀ p ∈ ps c₀, m₀ p.1 = some p.2) (hp : P [] c₀)
    (turn : ∀ (c : σ) (pre post : List Nat) (n : Nat) t (u : Str → Option Value) h tk own, l = pre ++ n :: post → OwnOff own ((Led c).map (·.1)) → P pre c →
      Fr h₀ env.locals h (fun y => if y = x then some (.str (tx [n]) t) else kstB (fun z => if stored.contains z then u z else m₀ z) (ps c) y) → News h₀ env.locals h (Led c ++ own) →
      wpAny (model prog w) A (execs body env) (GPost h₀ env.locals (KstS Led ps (fun _ => True) x stored m₀ (fun _ => P (pre ++ [n])) []) own { s with heap := h, toks := tk } Q) E { s with heap := h, toks := tk })
    (done : ∀ (c : σ) (u : Str → Option Value) h tk, P l c → Fr h₀ env.locals h (fun y => if y = x then u y else kstB (fun z => if stored.contains z then u z else m₀ z) (ps c) y) → News h₀ env.locals h (Led c) → Q .next { s with heap := h, toks := tk }) :
    wpAny (model prog w) A (pyIter (.str (tx l) tk₀)) (fun it s₂ => LoopAtV prog w A h₀ env x body Q E it s₂) E s := by
  have main : ∀ (o : Obj) (St : Nat → Heap → Prop), (∀ i h, St i h → ∃ o, h.get? s.heap.objs.size = some o) → Walks prog w A s.heap.objs.size [s.heap.objs.size] [s.heap.objs.size] (tx l).cps.size (SignAt (tx l)) St → St 0 (s.heap.push o) →
      LoopAtV prog w A h₀ env x body Q E (.ref s.heap.objs.size) { s with heap := s.heap.push o } := by
    intro o St hSt W hst
    refine loop_invG (fun i m nx => KstS Led ps (fun _ => True) x stored m₀ (fun _ => P (l.take i)) [] m nx) W ?_ (next_is_new F) ?_ ?_ hSt hst (F.push _) (fun p hp => ⟨Heap.get?_push_of_some _ (N p hp).1, (N p hp).2⟩) ⟨c₀, rfl, trivial, hk, fun _ _ _ _ => rfl, by simpa using hp⟩ ?_ ?_
    · intro hm
      exact absurd F.ns.lt ((List.mem_singleton.mp hm) ▸ Nat.lt_irrefl _)
    · intro p hp hI
      exact absurd (Heap.lt_size (N p hp).1) (hI ▸ Nat.lt_irrefl _)
    · intro b hb hne
      exact absurd (List.mem_singleton.mp hb) hne
    · rintro i v m₁ nx h tk own hi ⟨n, u, hn, rfl⟩ hoff ⟨c, rfl, _, h1, h2, hp'⟩ F₁ N₁
      have hn' : l[i]? = some n := by simpa [tx] using hn
      have hs : l.take (i + 1) = l.take i ++ [n] := by simp [List.take_add_one, hn']
      have e : l = l.take i ++ n :: l.drop (i + 1) := by
        have ht := List.take_append_drop (i + 1) l
        rw [hs, List.append_assoc] at ht
        exact ht.symm
      rw [hs]
      exact turn c _ _ n u m₁ h tk own e hoff hp' (kst_fr h1 h2 F₁) N₁
    · rintro m₁ nx h tk ⟨c, rfl, _, h1, h2, hp'⟩ F₁ N₁
      have hl : (tx l).cps.size = l.length := by simp [tx]
      rw [hl, List.take_length] at hp'
      exact done c m₁ h tk hp' (kst_frOut h1 h2 F₁) N₁
  cases ha : (tx l).cps.all (· < 128)
  · exact wpAny_pyIter_wide ha (main _ _ (fun i h st => by obtain ⟨o, ho, _⟩ := st; exact ⟨o, ho⟩) (Walks.strWide hh _ (tx l) tk₀) ⟨_, Heap.get?_push_size _ rfl, rfl, rfl⟩)
  · exact wpAny_pyIter_ascii ha (main _ _ (fun i h st => by obtain ⟨o, ho, _⟩ := st; exact ⟨o, ho⟩) (Walks.strAscii hh _ (tx l) tk₀) ⟨_, Heap.get?_push_size _ rfl, rfl, rfl⟩)
end
theorem gst_end {σ : Type} {h₀ : Heap} {x : Str} {Led : σ → List (Addr × Obj)} {ps : σ → List (Str × Value)} {stored : List Str} {m₀ : Str → Option Value} {P : σ → Prop} (c : σ) {L : Addr} {m' : Str → Option Value} {own news' : List (Addr × Obj)} {s₁ : Shared} {h' : Heap} {tk : Nat}
    (F : Fr h₀ L h' m') (N : News h₀ L h' news') (hn : ∀ p ∈ Led c, p ∈ news') (ho : ∀ p ∈ own, p ∈ news') (ha : OwnOff own ((Led c).map (·.1))) (hk : ∀ p ∈ ps c, m' p.1 = some p.2) (hr : ∀ z, z ≠ x → (∀ p ∈ ps c, z ≠ p.1) → stored.contains z = false → m' z = m₀ z) (hp : P c) :
    GEnd h₀ L (KstS Led ps (fun _ => True) x stored m₀ (fun _ => P) []) own s₁ { s₁ with heap := h', toks := tk } :=
  ⟨h', tk, m', news', Led c, rfl, F, N, hn, ho, ha, c, rfl, trivial, hk, hr, hp⟩
end Mine
namespace Mine
/-- one sign of a Whitespace's text: count, b, n, nt -/
noncomputable def wsS (s : List Int × Int × Int × Int) (c : Nat) : List Int × Int × Int × Int :=
  if c = 32 then (s.1, s.2.1 + 1, s.2.2.1 + 1, s.2.2.2)
  else (((if s.2.1 ≥ (s.1.length : Int) then s.1 ++ List.replicate (s.2.1 - (s.1.length : Int) + 1).toNat 0 else s.1).set s.2.1.toNat ((if s.2.1 ≥ (s.1.length : Int) then s.1 ++ List.replicate (s.2.1 - (s.1.length : Int) + 1).toNat 0 else s.1).getD s.2.1.toNat 0 + 1)), 0, s.2.2.1 + 1, s.2.2.2 + 1)
noncomputable def wsRun (l : List Nat) : List Int × Int × Int × Int := l.foldl wsS ([], 0, 0, 0)
structure WsC where
  c : Addr
  vs : List Value
  k : Nat
  cnt : List Int
  b : Int
  n : Int
  nt : Int
  tb : Tok
  tn : Tok
  tt : Tok
noncomputable def wsLed (rest : Led) (q : WsC) : Led := (q.c, W.listOf q.vs.toArray q.k) :: rest
noncomputable def wsPs (q : WsC) : List (Str × Value) := [(Str.ofString "count", .ref q.c), (Str.ofString "b", .int q.b q.tb), (Str.ofString "n", .int q.n q.tn), (Str.ofString "nt", .int q.nt q.tt)]
noncomputable def wsP (rest : Led) (pre : List Nat) (q : WsC) : Prop := IntsAre q.vs q.cnt ∧ wsRun pre = (q.cnt, q.b, q.n, q.nt) ∧ (∀ k ∈ pre, k = 32 ∨ k = 9) ∧ AllLt q.c rest
/-- what is known of the state behind k signs -/
noncomputable def wsInv (s : List Int × Int × Int × Int) (k : Nat) : Prop :=
  s.1.length ≤ k ∧ 0 ≤ s.2.1 ∧ s.2.1 ≤ (k : Int) ∧ 0 ≤ s.2.2.1 ∧ s.2.2.1 ≤ (k : Int) ∧ 0 ≤ s.2.2.2 ∧ s.2.2.2 ≤ (k : Int) ∧ ∀ v ∈ s.1, 0 ≤ v ∧ v ≤ (k : Int)
theorem getD_of {P : Int → Prop} {l : List Int} (h : ∀ v ∈ l, P v) (h0 : P 0) (i : Nat) : P (l.getD i 0) := by
  rw [List.getD_eq_getElem?_getD]
  by_cases hi : i < l.length
  · rw [List.getElem?_eq_getElem hi]; exact h _ (List.getElem_mem hi)
  · rw [List.getElem?_eq_none (by omega)]; exact h0
theorem wsS_inv {s : List Int × Int × Int × Int} {k : Nat} (c : Nat) (h : wsInv s k) : wsInv (wsS s c) (k + 1) := by
  obtain ⟨cnt, b, n, nt⟩ := s
  obtain ⟨h1, h2, h3, h4, h5, h6, h7, h8⟩ := h
  dsimp only at h1 h2 h3 h4 h5 h6 h7 h8
  unfold wsS
  by_cases hc : c = 32
  · rw [if_pos hc]
    refine ⟨?_, ?_, ?_, ?_, ?_, ?_, ?_, ?_⟩ <;> dsimp only
    · omega
    · omega
    · omega
    · omega
    · omega
    · omega
    · omega
    · intro v hv; have := h8 v hv; omega
  · rw [if_neg hc]
    dsimp only
    have key : ∀ l : List Int, l.length ≤ k + 1 → (∀ v ∈ l, 0 ≤ v ∧ v ≤ (k : Int)) → wsInv (l.set b.toNat (l.getD b.toNat 0 + 1), 0, n + 1, nt + 1) (k + 1) := by
      intro l hl hv
      have hg := getD_of (P := fun v => 0 ≤ v ∧ v ≤ (k : Int)) hv ⟨by omega, by omega⟩ b.toNat
      refine ⟨?_, ?_, ?_, ?_, ?_, ?_, ?_, ?_⟩ <;> dsimp only
      · rw [List.length_set]; exact hl
      · omega
      · omega
      · omega
      · omega
      · omega
      · omega
      · intro v hm
        rcases List.mem_or_eq_of_mem_set hm with hm | rfl
        · have := hv v hm; omega
        · omega
    split
    · refine key _ ?_ ?_
      · rw [List.length_append, List.length_replicate]; omega
      · intro v hv
        rcases List.mem_append.mp hv with hv | hv
        · exact h8 v hv
        · have := (List.mem_replicate.mp hv).2; omega
    · exact key _ (by omega) h8
theorem wsRun_snoc (l : List Nat) (c : Nat) : wsRun (l ++ [c]) = wsS (wsRun l) c := by
  unfold wsRun; rw [List.foldl_append]; rfl
theorem wsRun_inv (l : List Nat) : wsInv (wsRun l) l.length := by
  have : ∀ (n : Nat) (l : List Nat), l.length = n → wsInv (wsRun l) l.length := by
    intro n
    induction n with
    | zero =>
      intro l hl
      have : l = [] := List.eq_nil_of_length_eq_zero hl
      subst this
      exact ⟨by decide, by decide, by decide, by decide, by decide, by decide, by decide, fun _ h => nomatch h⟩
    | succ n ih =>
      intro l hl
      rcases List.eq_nil_or_concat l with h | ⟨l', c, h⟩
      · rw [h] at hl; simp at hl
      · rw [List.concat_eq_append] at h
        subst h
        rw [wsRun_snoc, List.length_append]
        have hl' : l'.length = n := by rw [List.length_append] at hl; simpa using hl
        exact wsS_inv c (ih l' hl')
  exact this _ l rfl
theorem pre_body {body post pre post' : List Nat} {ch : Nat} (h : body ++ 120 :: post = pre ++ ch :: post') (hok : ∀ k ∈ pre, k = 32 ∨ k = 9) : pre.length ≤ body.length := by
  by_cases hl : body.length < pre.length
  · exfalso
    have h1 : (body ++ 120 :: post)[body.length]? = some 120 := by simp
    rw [h] at h1
    rw [List.getElem?_append_left hl] at h1
    have := hok 120 (List.mem_of_getElem? h1)
    omega
  · omega
theorem pre_eq {body post pre post' : List Nat} {ch : Nat} (h : body ++ 120 :: post = pre ++ ch :: post') (hb : ∀ k ∈ body, k = 32 ∨ k = 9) (hok : ∀ k ∈ pre, k = 32 ∨ k = 9) (hch : ch ≠ 32) (hch9 : ch ≠ 9) : pre = body := by
  have hl := pre_body h hok
  have hl' : ¬ pre.length < body.length := by
    intro hlt
    have h1 : (pre ++ ch :: post')[pre.length]? = some ch := by simp
    rw [← h, List.getElem?_append_left hlt] at h1
    have := hb ch (List.mem_of_getElem? h1)
    omega
  exact (List.append_inj h (by omega)).1.symm
theorem tx_eq_blank {ch : Nat} (h : (tx [ch] == Str.ofString " ") = true) : ch = 32 := by
  rw [tx_blank] at h
  have := eq_of_beq h
  simpa [tx] using this
theorem tx_eq_tab {ch : Nat} (h : (tx [ch] == Str.ofString "\t") = true) : ch = 9 := by
  rw [tx_tab] at h
  have := eq_of_beq h
  simpa [tx] using this
theorem tx_ne_blank {ch : Nat} (h : (tx [ch] == Str.ofString " ") = false) : ch ≠ 32 := by
  rintro rfl
  rw [tx_blank] at h
  exact absurd h (by decide)
theorem tx_ne_tab {ch : Nat} (h : (tx [ch] == Str.ofString "\t") = false) : ch ≠ 9 := by
  rintro rfl
  rw [tx_tab] at h
  exact absurd h (by decide)
section
variable {prog : Program} {w : World} {A : Around} {E : Value → Shared → Prop} {s : Shared} {env : Env} {h₀ : Heap} {body : List Stmt} {Q : Flow → Shared → Prop}
theorem ws_loop {l : List Nat} {tk₀ : Tok} {m₀ : Str → Option Value} {c₀ : Addr} {rest : Led} {tb tn tt : Tok}
    (hh : A.handled = none) (F : Fr h₀ env.locals s.heap m₀) (N : News h₀ env.locals s.heap ((c₀, W.listOf #[] 0) :: rest)) (hlt : AllLt c₀ rest) (h1 : m₀ "count" = some (.ref c₀)) (h2 : m₀ "b" = some (.int 0 tb)) (h3 : m₀ "n" = some (.int 0 tn)) (h4 : m₀ "nt" = some (.int 0 tt))
    (turn : ∀ (q : WsC) (pre post : List Nat) (ch : Nat) t (u : Str → Option Value) h tk own, l = pre ++ ch :: post → OwnOff own ((wsLed rest q).map (·.1)) → wsP rest pre q →
      Fr h₀ env.locals h (fun y => if y = "ch" then some (.str (tx [ch]) t) else kstB (fun z => if [].contains z then u z else m₀ z) (wsPs q) y) → News h₀ env.locals h (wsLed rest q ++ own) →
      wpAny (model prog w) A (execs body env) (GPost h₀ env.locals (KstS (wsLed rest) wsPs (fun _ => True) "ch" [] m₀ (fun _ => wsP rest (pre ++ [ch])) []) own { s with heap := h, toks := tk } Q) E { s with heap := h, toks := tk })
    (done : ∀ (q : WsC) h tk, wsP rest l q → Q .next { s with heap := h, toks := tk }) :
    wpAny (model prog w) A (pyIter (.str (tx l) tk₀)) (fun it s₂ => LoopAtV prog w A h₀ env "ch" body Q E it s₂) E s := by
  refine gst_text (wsLed rest) wsPs [] (wsP rest) ⟨c₀, [], 0, [], 0, 0, 0, tb, tn, tt⟩ hh F N ?_ ⟨.nil, rfl, (fun _ h => nomatch h), hlt⟩ turn (fun q _ h tk hp _ _ => done q h tk hp)
  simp only [wsPs, List.forall_mem_cons]
  exact ⟨h1, h2, h3, h4, fun _ h => nomatch h⟩
end
theorem flat_rep (k : Nat) : List.flatten (List.replicate k [(0 : Int)]) = List.replicate k 0 := by
  induction k with
  | zero => rfl
  | succ k ih => rw [List.replicate_succ, List.flatten_cons, ih, List.replicate_succ]; rfl
theorem ws_end {tb tn tt : Tok} {c : Addr} {vs : List Value} {k : Nat} {cnt : List Int} {b n nt : Int} {rest own news' : Led} {h₀ h' : Heap} {L : Addr} {m' m₀ : Str → Option Value} {pre : List Nat} {s₁ : Shared} {tk : Nat}
    (F : Fr h₀ L h' m') (N : News h₀ L h' news') (hn : (c, W.listOf vs.toArray k) ∈ news') (hrest : ∀ p ∈ rest, p ∈ news') (ho : ∀ p ∈ own, p ∈ news') (hc : ∀ p ∈ own, p.1 ≠ c) (hoff : OwnOff own (rest.map (·.1)))
    (h1 : m' "count" = some (.ref c)) (h2 : m' "b" = some (.int b tb)) (h3 : m' "n" = some (.int n tn)) (h4 : m' "nt" = some (.int nt tt))
    (hr : ∀ z : Str, z ≠ "ch" → z ≠ "count" → z ≠ "b" → z ≠ "n" → z ≠ "nt" → m' z = m₀ z) (hI : IntsAre vs cnt) (hrun : wsRun pre = (cnt, b, n, nt)) (hok : ∀ k ∈ pre, k = 32 ∨ k = 9) (hlt : AllLt c rest) :
    GEnd h₀ L (KstS (wsLed rest) wsPs (fun _ => True) "ch" [] m₀ (fun _ => wsP rest pre) []) own s₁ { s₁ with heap := h', toks := tk } := by
  refine gst_end (⟨c, vs, k, cnt, b, n, nt, tb, tn, tt⟩ : WsC) F N ?_ ho ?_ ?_ ?_ ⟨hI, hrun, hok, hlt⟩
  · intro p hp
    rcases List.mem_cons.mp hp with rfl | hp
    · exact hn
    · exact hrest p hp
  · intro p hp q hq
    rcases List.mem_cons.mp hq with rfl | hq
    · exact hc p hp
    · exact hoff p hp q hq
  · simp only [wsPs, List.forall_mem_cons]
    exact ⟨h1, h2, h3, h4, fun _ h => nomatch h⟩
  · intro z hz hps _
    simp only [wsPs, List.forall_mem_cons] at hps
    exact hr z hz hps.1 hps.2.1 hps.2.2.1 hps.2.2.2.1
theorem run_blank {pre : List Nat} {ch : Nat} {cnt : List Int} {b n nt : Int} (h : wsRun pre = (cnt, b, n, nt)) (hc : ch = 32) : wsRun (pre ++ [ch]) = (cnt, b + 1, n + 1, nt) := by
  rw [wsRun_snoc, h]; unfold wsS; rw [if_pos hc]
theorem run_tab1 {pre : List Nat} {ch : Nat} {cnt : List Int} {b n nt : Int} (h : wsRun pre = (cnt, b, n, nt)) (hc : ch = 9) (hb : (cnt.length : Int) ≤ b) :
    wsRun (pre ++ [ch]) = ((cnt ++ List.flatten (List.replicate (b - (cnt.length : Int) + 1).toNat [0])).set b.toNat ((cnt ++ List.flatten (List.replicate (b - (cnt.length : Int) + 1).toNat [0])).getD b.toNat 0 + 1), 0, n + 1, nt + 1) := by
  rw [wsRun_snoc, h]; unfold wsS; rw [if_neg (by omega), flat_rep]; dsimp only; rw [if_pos hb]
theorem run_tab2 {pre : List Nat} {ch : Nat} {cnt : List Int} {b n nt : Int} (h : wsRun pre = (cnt, b, n, nt)) (hc : ch = 9) (hb : ¬ (cnt.length : Int) ≤ b) :
    wsRun (pre ++ [ch]) = (cnt.set b.toNat (cnt.getD b.toNat 0 + 1), 0, n + 1, nt + 1) := by
  rw [wsRun_snoc, h]; unfold wsS; rw [if_neg (by omega)]; dsimp only; rw [if_neg hb]
theorem ok_snoc {pre : List Nat} {ch : Nat} (h : ∀ k ∈ pre, k = 32 ∨ k = 9) (hc : ch = 32 ∨ ch = 9) : ∀ k ∈ pre ++ [ch], k = 32 ∨ k = 9 := by
  intro k hk
  rcases List.mem_append.mp hk with hk | hk
  · exact h k hk
  · rw [List.mem_singleton] at hk; subst hk; exact hc
theorem off_tail {own : Led} {c : Addr} {l : List Addr} (h : OwnOff own (c :: l)) : OwnOff own l := fun p hp b hb => h p hp b (.tail _ hb)
theorem off_head {own : Led} {c : Addr} {l : List Addr} (h : OwnOff own (c :: l)) : ∀ p ∈ own, p.1 ≠ c := fun p hp => h p hp c (.head _)
theorem lt_app1 {d : Addr} {a b : Led} (h : AllLt d (a ++ b)) : AllLt d a := allLt_of fun p hp => kst_ltOf h p (List.mem_append_left _ hp)
theorem lt_app2 {d : Addr} {a b : Led} (h : AllLt d (a ++ b)) : ∀ p ∈ b, p.1 ≠ d := fun p hp => Nat.ne_of_lt (kst_ltOf h p (List.mem_append_right _ hp))
noncomputable abbrev tupO (l : List Value) : Obj := { cls := .type "tuple", data := .seq l.toArray }
noncomputable abbrev wsDict (w : World) (t0 t1 t2 t3 t4 tr tn tt : Tok) (raw : Str) (n nt : Int) (nm : Addr) (sm : Bool) : Obj :=
  dictOf [{ hash := PyData.keyHash w.params "raw", key := .str "raw" t0, val := .str raw tr }, { hash := PyData.keyHash w.params "n", key := .str "n" t1, val := .int n tn },
    { hash := PyData.keyHash w.params "nt", key := .str "nt" t2, val := .int nt tt }, { hash := PyData.keyHash w.params "norm", key := .str "norm" t3, val := .ref nm }, { hash := PyData.keyHash w.params "is_simple", key := .str "is_simple" t4, val := .bool sm }] 5
/-- what a Whitespace is behind its making -/
noncomputable def IniPost (w : World) (news : Led) (body : List Nat) (r : Value) (news' : Led) : Prop :=
  ∃ (x dx nm tc : Addr) (vs : List Value) (cnt : List Int) (b n nt : Int) (tb t0 t1 t2 t3 t4 tr tn tt : Tok) (raw : Str) (sm : Bool), r = .ref x ∧
    news' = (nm, tupO [.ref tc, .int b tb]) :: (tc, tupO vs) :: (x, instObj 208 dx) :: (dx, wsDict w t0 t1 t2 t3 t4 tr tn tt raw n nt nm sm) :: news ∧
    IntsAre vs cnt ∧ wsRun body = (cnt, b, n, nt) ∧ (∀ p ∈ news, p.1 < dx) ∧ dx < x ∧ x < nm ∧ (∀ p ∈ news, p.1 < tc)
theorem ini_ret {w : World} {Q : Value → Shared → Prop} {s : Shared} {body pre : List Nat} {h₀ h' : Heap} {L : Addr} {m : Str → Option Value} {news own : Led} {tk : Nat} {p3 p4 : Addr × Obj} {x dx nm tc : Addr} {vs : List Value} {cnt : List Int} {b n nt : Int} {tb t0 t1 t2 t3 t4 tr tn tt : Tok} {raw : Str} {sm : Bool}
    (hret : ∀ (r : Value) (news' : Led) (h' : Heap) (tk' : Nat), IniPost w news body r news' → Fr h₀ L h' m → News h₀ L h' news' → Q r { s with heap := h', toks := tk' })
    (F : Fr h₀ L h' m) (N : News h₀ L h' ((nm, tupO [.ref tc, .int b tb]) :: (tc, tupO vs) :: p3 :: p4 :: (x, instObj 208 dx) :: (dx, wsDict w t0 t1 t2 t3 t4 tr tn tt raw n nt nm sm) :: (news ++ own)))
    (hI : IntsAre vs cnt) (hrun : wsRun pre = (cnt, b, n, nt)) (e : pre = body) (h1 : ∀ p ∈ news, p.1 < dx) (h2 : dx < x) (h3 : x < nm) (h4 : ∀ p ∈ news, p.1 < tc) : Q (.ref x) { s with heap := h', toks := tk } := by
  subst e
  refine hret _ _ _ _ ⟨x, dx, nm, tc, vs, cnt, b, n, nt, tb, t0, t1, t2, t3, t4, tr, tn, tt, raw, sm, rfl, rfl, hI, hrun, h1, h2, h3, h4⟩ F fun p hp => N p ?_
  simp only [List.mem_cons, List.mem_append] at hp ⊢
  rcases hp with h | h | h | h | h
  · exact .inl h
  · exact .inr (.inl h)
  · exact .inr (.inr (.inr (.inr (.inl h))))
  · exact .inr (.inr (.inr (.inr (.inr (.inl h)))))
  · exact .inr (.inr (.inr (.inr (.inr (.inr (.inl h))))))
theorem tup_of {prog : Program} {w : World} {A : Around} {E : Value → Shared → Prop} {s : Shared} {h₀ : Heap} {L l : Addr} {m : Str → Option Value} {news : Led} {n : Nat} {vs : List Value} {Q : Value → Shared → Prop} (F : Fr h₀ L s.heap m) (N : News h₀ L s.heap news) (hm : (l, W.listOf vs.toArray n) ∈ news) (hz : vs.length ≤ 1000)
    (h : ∀ D h', Fr h₀ L h' m → News h₀ L h' ((D, tupO vs) :: news) → (∀ p ∈ news, p.1 < D) → Q (.ref D) { s with heap := h' }) : wpAny (model prog w) A (call (.type "tuple") [.ref l]) Q E s :=
  kde_tupleOf F N ⟨_, (N _ hm).1, rfl, _, rfl⟩ (by rw [List.size_toArray]; omega) rfl h
theorem init_spec {w : World} {news : Led} {body post : List Nat} {t : Tok} (hb : ∀ k ∈ body, k = 32 ∨ k = 9) (hl : body.length ≤ 40) :
    Claim 8 w 208 news [.str (tx (body ++ 120 :: post)) t] (IniPost w news body) := by
  k_with_none
  (k_with "GPost" => (dsimp only [GPost]))
  (k_with "call type:tuple" => ((k_here; k_dflt ((refine' tup_of ?wq_k1 ?wq_k2 ?wq_k3 ?wq_k4 ?_; (case wq_k1 => k_asm); (case wq_k2 => k_asm); (case wq_k3 => k_mem); (case wq_k4 => ((rename IntsAre _ _ => hI9); (have hl9 := hI9.length); omega))); intro D' h' F' N' l1; k_lt l1))))
  intro mean mg mb dp un gd cn cs a1 ccd cl outer A₀ base h₀ L m s Q E B F X N T hk hdp hun hret
  obtain ⟨ck, c2, c3, c4, c5⟩ := cs
  cases hk
  (repeat ((fail_if_success (first | with_reducible show wpAny _ _ (pyIter (Value.str ..)) _ _ _)); walk_at "mine step"))
  rename Fr _ _ _ _ => F9
  rename News _ _ _ _ => N9
  with_unfolding_all refine' ws_loop rfl F9 N9 ?hlt rfl rfl rfl rfl ?turn ?done
  case hlt => assumption
  case turn =>
    clear F9 N9
    rintro ⟨c, vs, k, cnt, b, n, nt, tb, tn, tt⟩ pre post' ch tc u h9 tk9 own hspl hoff ⟨hI, hrun, hok, hlt⟩ F9 N9
    dsimp only [wsLed, wsPs, wsP, kstB, AllLt] at *
    simp only [List.cons_append] at N9
    simp only [List.map_cons] at hoff
    have hinv := wsRun_inv pre
    rw [hrun] at hinv
    obtain ⟨i1, i2, i3, i4, i5, i6, i7, i8⟩ := hinv
    dsimp only at i1 i2 i3 i4 i5 i6 i7 i8
    have hpl := pre_body hspl hok
    have hMk : KstMark := kstMark
    k_steps
    · refine ws_end (by assumption) (by assumption) (List.Mem.head _) (fun p hp => .tail _ (List.mem_append_left own hp)) (fun p hp => .tail _ (List.mem_append_right _ hp)) (off_head hoff) (off_tail hoff) rfl rfl rfl rfl ?_ hI (run_blank hrun (tx_eq_blank (by assumption))) (ok_snoc hok (.inl (tx_eq_blank (by assumption)))) hlt
      intro z z1 z2 z3 z4 z5
      simp only [z1, z2, z3, z4, z5, if_false, List.contains_nil, Bool.false_eq_true]
    · (rename _ < _ ∧ _ < _ ∧ _ < _ ∧ _ < _ ∧ _ < _ ∧ _ < _ ∧ AllLt _ _ => l9)
      obtain ⟨e1, e2, e3, e4, e5, e6, e7⟩ := l9
      refine ws_end (by assumption) (by assumption) (List.Mem.head _) (fun p hp => .tail _ (.tail _ (.tail _ (.tail _ (List.mem_append_left own hp))))) (fun p hp => .tail _ (.tail _ (.tail _ (.tail _ (List.mem_append_right _ hp))))) (lt_app2 e7) (off_tail hoff) rfl rfl rfl rfl ?_ (by assumption) (run_tab1 hrun (tx_eq_tab (by assumption)) (by assumption)) (ok_snoc hok (.inr (tx_eq_tab (by assumption)))) ⟨e4, e5, e6, lt_app1 e7⟩
      intro z z1 z2 z3 z4 z5
      simp only [z1, z2, z3, z4, z5, if_false, List.contains_nil, Bool.false_eq_true]
    · refine ws_end (by assumption) (by assumption) (List.Mem.head _) (fun p hp => .tail _ (List.mem_append_left own hp)) (fun p hp => .tail _ (List.mem_append_right _ hp)) (off_head hoff) (off_tail hoff) rfl rfl rfl rfl ?_ (by assumption) (run_tab2 hrun (tx_eq_tab (by assumption)) (by assumption)) (ok_snoc hok (.inr (tx_eq_tab (by assumption)))) hlt
      intro z z1 z2 z3 z4 z5
      simp only [z1, z2, z3, z4, z5, if_false, List.contains_nil, Bool.false_eq_true]
    · (rename _ < _ ∧ _ < _ ∧ _ < _ ∧ _ < _ ∧ _ < _ ∧ AllLt _ _ => l9)
      (rename _ < _ ∧ _ < _ ∧ _ < _ ∧ _ < _ ∧ AllLt _ (_ ++ _) => l8)
      exact ini_ret hret (by assumption) (by assumption) hI hrun (pre_eq hspl hb hok (tx_ne_blank (by assumption)) (tx_ne_tab (by assumption))) (by assumption) (by assumption) l9.2.2.2.1 (kst_ltOf (lt_app1 l8.2.2.2.2))
  case done =>
    rintro ⟨c, vs, k, cnt, b, n, nt, tb, tn, tt⟩ h9 tk9 ⟨_, _, hok, _⟩
    exfalso
    rcases hok 120 (by simp) with h | h <;> omega
end Mine
namespace Mine
noncomputable def ilF (ts : Int) (cnt : List Int) (l : List Int) : Int := l.foldl (fun a i => a + i.fdiv ts * cnt.getD i.toNat 0) 0
section
variable {prog : Program} {w : World} {A : Around} {E : Value → Shared → Prop} {s : Shared} {h₀ : Heap} {L tc : Addr} {news : Led} {vs : List Value} {cnt : List Int}
theorem tup_len {Q : Value → Shared → Prop} (N : News h₀ L s.heap news) (hm : (tc, tupO vs) ∈ news) (hI : IntsAre vs cnt) (hl : cnt.length ≤ 41)
    (h : ∀ t tk, Q (.int (cnt.length : Int) t) { s with toks := tk }) : wpAny (model prog w) A (call (.builtin "len") [.ref tc]) Q E s := by
  have e : vs.toArray.size = cnt.length := by rw [List.size_toArray, hI.length]
  exact len_tuple (items := vs.toArray) ⟨_, (N _ hm).1, rfl, _, rfl⟩ (by rw [e]; omega) (by rw [e]; exact h _ _)
theorem tup_item {value slice : PySem.Expr} {k : Int} {u : Tok} {Q : Value → Shared → Prop} (N : News h₀ L s.heap news) (hm : (tc, tupO vs) ∈ news) (hI : IntsAre vs cnt) (hl : cnt.length ≤ 41) (hv : ∀ v ∈ cnt, 0 ≤ v ∧ v ≤ 41) (h0 : 0 ≤ k) (h1 : k < cnt.length)
    (h : ∀ y t, y = cnt.getD k.toNat 0 → 0 ≤ y → y ≤ 41 → Q (.int y t) s)
    (hs : subscripted slice false (.ref tc) (.int k u) = operate [.ref tc, .int k u] (getItem (.ref tc) (.int k u)) := by with_unfolding_all rfl) :
    wpAny (model prog w) A (subscriptTail value slice (.ref tc) (.int k u)) Q E s := by
  have hk : k.toNat < cnt.length := by omega
  have hc : cnt[k.toNat]? = some cnt[k.toNat] := by simp [hk]
  obtain ⟨t, hx⟩ := hI.get _ _ hc
  have e : cnt.getD k.toNat 0 = cnt[k.toNat] := by rw [List.getD_eq_getElem?_getD, hc]; rfl
  have hb := hv _ (List.getElem_mem hk)
  have hlen := hI.length
  have hn : ¬ k < 0 := by omega
  have hj : seqIndex? k vs.length = some k.toNat := by
    simp only [seqIndex?, hn, if_false]
    rw [if_pos (by simp only [Bool.and_eq_true, decide_eq_true_eq]; omega)]
  exact item_tupleT (l := vs) (j := k.toNat) ⟨_, (N _ hm).1, rfl, _, rfl⟩ (by omega) (by omega) hj hx (h _ t e.symm hb.1 hb.2) hs
end
theorem il_snoc {ts : Int} {cnt pre : List Int} {a k y : Int} (h : a = ilF ts cnt pre) (e : y = cnt.getD k.toNat 0) : a + k.fdiv ts * y = ilF ts cnt (pre ++ [k]) := by
  unfold ilF at h ⊢
  rw [List.foldl_append, ← h, e]; rfl
theorem il_ret {Q : Value → Shared → Prop} {h₀ : Heap} {L : Addr} {m : Str → Option Value} {s : Shared} {news news9 : Led} {k i : Int} {t : Tok} {h' : Heap} {tk : Nat}
    (hret : ∀ (r : Value) (news' : Led) (h' : Heap) (tk' : Nat), (news' = news ∧ ∃ t, r = .int k t) → Fr h₀ L h' m → News h₀ L h' news' → Q r { s with heap := h', toks := tk' })
    (F : Fr h₀ L h' m) (N : News h₀ L h' news9) (hs : ∀ p ∈ news, p ∈ news9) (e : i = k) : Q (.int i t) { s with heap := h', toks := tk } := e ▸ hret _ _ _ _ ⟨rfl, _, rfl⟩ F (fun p hp => N p (hs p hp))
theorem indent_spec {w : World} {news : Led} {x dx nm tc : Addr} {vs : List Value} {cnt : List Int} {b n nt ts : Int} {tb t0 t1 t2 t3 t4 tr tn tt tx1 : Tok} {raw : Str} {sm : Bool}
    (m1 : (x, instObj 208 dx) ∈ news) (m2 : (dx, wsDict w t0 t1 t2 t3 t4 tr tn tt raw n nt nm sm) ∈ news) (m3 : (nm, tupO [.ref tc, .int b tb]) ∈ news) (m4 : (tc, tupO vs) ∈ news) (hI : IntsAre vs cnt)
    (hl : cnt.length ≤ 41) (hv : ∀ v ∈ cnt, 0 ≤ v ∧ v ≤ 41) (hb : 0 ≤ b ∧ b ≤ 41) (hnt : 0 ≤ nt ∧ nt ≤ 41) (h1 : 1 ≤ ts ∧ ts ≤ 8) :
    Claim 4 w 177 news [.ref x, .int ts tx1] (fun r news' => news' = news ∧ ∃ t, r = .int (b + ts * (ilF ts cnt (rangeKs ts ((cnt.length : Int) - ts).toNat) + nt)) t) := by
  k_with_none
  (k_with "call builtin:len" => ((k_here; (with_reducible show wpAny _ _ (call (Value.builtin "len") [Value.ref _]) _ _ _); k_dflt (refine' tup_len ?wq_k1 ?wq_k2 ?wq_k3 ?wq_k4 ?_; (case wq_k1 => k_asm); (case wq_k2 => k_mem); (case wq_k3 => assumption); (case wq_k4 => assumption)); intro t' tk')))
  (k_with "subscriptTail Name Name ref int" => ((k_here; k_dflt (refine' tup_item ?wq_k1 ?wq_k2 ?wq_k3 ?wq_k4 ?wq_k5 ?wq_k6 ?wq_k7 ?_ ?wq_k8; (case wq_k1 => k_asm); (case wq_k2 => k_mem); (case wq_k3 => assumption); (case wq_k4 => assumption); (case wq_k5 => assumption); (case wq_k6 => omega); (case wq_k7 => omega); (case wq_k8 => with_unfolding_all rfl)); intro y' t' e1' e2' e3')))
  intro mean mg mb dp un gd cn cs a1 ccd cl outer A₀ base h₀ L m s Q E B F X N T hk hdp hun hret
  obtain ⟨ck, c2, c3, c4, c5⟩ := cs
  cases hk
  replace N := news_add (news_add (news_add (news_add N m4) (.tail _ m3)) (.tail _ (.tail _ m2))) (.tail _ (.tail _ (.tail _ m1)))
  (repeat ((fail_if_success (first | with_reducible show wpAny _ _ (pyIter _) _ _ _)); walk_at "mine step"))
  (k_with "state" => first | exact il_snoc (by assumption) (by assumption) | exact rfl)
  k_state (fun pre il => il = ilF ts cnt pre) "il"
  all_goals k_steps
  all_goals (refine il_ret hret (by assumption) (by assumption) (fun p hp => .tail _ (.tail _ (.tail _ (.tail _ hp)))) ?_; (rename _ = ilF _ _ _ => e9); rw [e9])
end Mine
namespace Mine
theorem ws_rep (k : Nat) (s : List Int × Int × Int × Int) : (List.replicate k 32).foldl wsS s = (s.1, s.2.1 + (k : Int), s.2.2.1 + (k : Int), s.2.2.2) := by
  induction k generalizing s with
  | zero => simp
  | succ k ih =>
    rw [List.replicate_succ, List.foldl_cons, ih]
    unfold wsS
    rw [if_pos rfl]
    dsimp only
    have e1 : s.2.1 + 1 + (k : Int) = s.2.1 + ((k + 1 : Nat) : Int) := by omega
    have e2 : s.2.2.1 + 1 + (k : Int) = s.2.2.1 + ((k + 1 : Nat) : Int) := by omega
    rw [e1, e2]
noncomputable def wsThree (x y z : Nat) : List Int × Int × Int × Int := wsRun (List.replicate x 32 ++ [9] ++ List.replicate y 32 ++ [9] ++ List.replicate z 32 ++ [9])
noncomputable def ilOf (ts : Int) (cnt : List Int) : Int := ilF ts cnt (rangeKs ts ((cnt.length : Int) - ts).toNat)
noncomputable def wsOk (x y z : Nat) : Bool :=
  let s := wsThree x y z
  s.2.1 == 0 && s.2.2.2 == 3 && ilOf 1 s.1 == ((x + y + z : Nat) : Int) && ilOf 2 s.1 == ((x / 2 + y / 2 + z / 2 : Nat) : Int) && ilOf 4 s.1 == ((x / 4 + y / 4 + z / 4 : Nat) : Int) && ilOf 8 s.1 == 0
theorem wsOk_all : ∀ x < 8, ∀ y < 8, ∀ z < 8, wsOk x y z = true := by decide +kernel
theorem ws_facts {a1 a2 a3 a4 : Int} {cnt : List Int} {b n nt : Int} (h1 : 0 ≤ a1 ∧ a1 ≤ 7) (h2 : 0 ≤ a2 ∧ a2 ≤ 7) (h3 : 0 ≤ a3 ∧ a3 ≤ 7) (h4 : 0 ≤ a4 ∧ a4 ≤ 7)
    (h : wsRun (List.replicate a1.toNat 32 ++ [9] ++ List.replicate a2.toNat 32 ++ [9] ++ List.replicate a3.toNat 32 ++ [9] ++ List.replicate a4.toNat 32) = (cnt, b, n, nt)) :
    b = a4 ∧ nt = 3 ∧ ilOf 1 cnt = a1 + a2 + a3 ∧ ilOf 2 cnt = a1 / 2 + a2 / 2 + a3 / 2 ∧ ilOf 4 cnt = a1 / 4 + a2 / 4 + a3 / 4 ∧ ilOf 8 cnt = 0 := by
  have l7 : ∀ {a : Int}, 0 ≤ a ∧ a ≤ 7 → a.toNat < 8 := fun h => (Int.toNat_lt h.1).mpr (Int.lt_of_le_of_lt h.2 (by decide))
  have hok := wsOk_all a1.toNat (l7 h1) a2.toNat (l7 h2) a3.toNat (l7 h3)
  have e : wsRun (List.replicate a1.toNat 32 ++ [9] ++ List.replicate a2.toNat 32 ++ [9] ++ List.replicate a3.toNat 32 ++ [9] ++ List.replicate a4.toNat 32) = (List.replicate a4.toNat 32).foldl wsS (wsThree a1.toNat a2.toNat a3.toNat) := by
    unfold wsRun wsThree wsRun
    rw [List.foldl_append]
  rw [e, ws_rep] at h
  unfold wsOk at hok
  dsimp only at hok
  generalize wsThree a1.toNat a2.toNat a3.toNat = s at h hok
  simp only [Bool.and_eq_true, beq_iff_eq] at hok
  obtain ⟨⟨⟨⟨⟨o1, o2⟩, o3⟩, o4⟩, o5⟩, o6⟩ := hok
  have q1 : s.1 = cnt := congrArg Prod.fst h
  have q2 : s.2.1 + (a4.toNat : Int) = b := congrArg (fun p => p.2.1) h
  have q3 : s.2.2.2 = nt := congrArg (fun p => p.2.2.2) h
  subst q1
  refine ⟨?_, ?_, ?_, ?_, ?_, ?_⟩
  · rw [o1, Int.zero_add, Int.toNat_of_nonneg h4.1] at q2; exact q2.symm
  · exact q3.symm.trans o2
  · rw [o3, Int.natCast_add, Int.natCast_add, Int.toNat_of_nonneg h1.1, Int.toNat_of_nonneg h2.1, Int.toNat_of_nonneg h3.1]
  · rw [o4, Int.natCast_add, Int.natCast_add, Int.natCast_ediv, Int.natCast_ediv, Int.natCast_ediv, Int.toNat_of_nonneg h1.1, Int.toNat_of_nonneg h2.1, Int.toNat_of_nonneg h3.1]; rfl
  · rw [o5, Int.natCast_add, Int.natCast_add, Int.natCast_ediv, Int.natCast_ediv, Int.natCast_ediv, Int.toNat_of_nonneg h1.1, Int.toNat_of_nonneg h2.1, Int.toNat_of_nonneg h3.1]; rfl
  · exact o6
/-- how many of four have a one at place p -/
noncomputable def bitc (p : Nat) (a1 a2 a3 a4 : Int) : Int := a1 / 2 ^ p % 2 + a2 / 2 ^ p % 2 + a3 / 2 ^ p % 2 + a4 / 2 ^ p % 2
end Mine
namespace Mine
theorem useC {lvl : Nat} {w : World} {f : Addr} {news : Led} {vs : List Value} {Post : Value → Led → Prop} (C : Claim lvl w f news vs Post)
    {mean : ExcName → Option Value} {mg mb : Str → Option Value} {dp un : Nat} {gd : Option (List Code)} {cn : Str} {cs : Scope} {a : Addr} {ccd : Value} {cl : List (Str × Addr)} {outer : List Env} {A₀ : Around} {base h₀ : Heap} {L : Addr} {m : Str → Option Value} {s : Shared} {Q E : Value → Shared → Prop}
    (hB : Below A₀ base outer h₀) (F : Fr h₀ L s.heap m) (X : (_root_.Mine.hd.heap_39 w.params).In h₀) (N : News h₀ L s.heap news) (T : Top _root_.Mine.hd.view_39 LOO mean mg mb h₀) (hk : cs.kind = .function)
    (hd : dp + lvl < recursionLimit) (hu : un + 20 * lvl < cLine)
    (hret : ∀ (r : Value) (news' : Led) (h' : Heap) (tk' : Nat), Post r news' → Fr h₀ L h' m → News h₀ L h' news' → Q r { s with heap := h', toks := tk' }) :
    wpAny (model PR w) (ktrTop dp un gd cn cs L a ccd cl outer) (call (.ref f) vs) Q E s := C mean mg mb dp un gd cn cs a ccd cl outer A₀ base h₀ L m s Q E hB F X N T hk hd hu hret
theorem concat_tab_spec {w : World} {news : Led} {a : List Nat} {t u : Tok} (ha : a.length ≤ 1000) :
    Claim 3 w 118 news [.str (tx a) t, .str (Str.ofString "\t") u] (fun r news' => news' = news ∧ ∃ t', r = .str (tx (a ++ [9])) t') := by
  rw [tx_tab]; exact concat_str_spec ha (by decide)
theorem concat_end_spec {w : World} {news : Led} {a : List Nat} {t u : Tok} (ha : a.length ≤ 1000) :
    Claim 3 w 118 news [.str (tx a) t, .str (Str.ofString "x\t ") u] (fun r news' => news' = news ∧ ∃ t', r = .str (tx (a ++ [120, 9, 32])) t') := by
  rw [tx_end]; exact concat_str_spec ha (by decide)
/-- the lead behind so many heaps -/
noncomputable def ldF (a1 : Int) (pre : List Int) : List Nat := pre.foldl (fun l h => (l ++ [9]) ++ List.replicate h.toNat 32) (List.replicate a1.toNat 32)
theorem ldF_snoc (a1 : Int) (pre : List Int) (h : Int) : ldF a1 (pre ++ [h]) = (ldF a1 pre ++ [9]) ++ List.replicate h.toNat 32 := by
  unfold ldF; rw [List.foldl_append]; rfl
theorem ld_start {a1 : Int} (h : 0 ≤ a1 ∧ a1 ≤ 7) : tx (List.replicate a1.toNat 32) = tx (ldF a1 []) ∧ (ldF a1 []).length ≤ 7 + 8 * ([] : List Int).length := by
  refine ⟨rfl, ?_⟩
  show (List.replicate a1.toNat 32).length ≤ _
  rw [List.length_replicate]; simp only [List.length_nil]; omega
theorem ld_turn {a1 k : Int} {pre : List Int} (h : (ldF a1 pre).length ≤ 7 + 8 * pre.length) (hk : 0 ≤ k ∧ k ≤ 7) :
    tx (ldF a1 pre ++ [9] ++ List.replicate k.toNat 32) = tx (ldF a1 (pre ++ [k])) ∧ (ldF a1 (pre ++ [k])).length ≤ 7 + 8 * (pre ++ [k]).length := by
  rw [ldF_snoc]
  refine ⟨rfl, ?_⟩
  simp only [List.length_append, List.length_replicate, List.length_cons, List.length_nil]; omega
theorem ld_item {a2 a3 a4 k : Int} (hm : k ∈ [a2, a3, a4]) (h2 : 0 ≤ a2 ∧ a2 ≤ 7) (h3 : 0 ≤ a3 ∧ a3 ≤ 7) (h4 : 0 ≤ a4 ∧ a4 ≤ 7) : 0 ≤ k ∧ k ≤ 7 := by
  simp only [List.mem_cons, List.not_mem_nil, or_false] at hm
  rcases hm with rfl | rfl | rfl <;> assumption
theorem ld_pre {ns pre post : List Int} {k : Int} (e : ns = pre ++ k :: post) (hl : ns.length = 3) : pre.length ≤ 2 := by
  rw [e] at hl; simp only [List.length_append, List.length_cons] at hl; omega
theorem run_facts {l : List Nat} {cnt : List Int} {b n nt : Int} (h : wsRun l = (cnt, b, n, nt)) (hl : l.length ≤ 41) : cnt.length ≤ 41 ∧ (∀ v ∈ cnt, 0 ≤ v ∧ v ≤ 41) ∧ (0 ≤ b ∧ b ≤ 41) ∧ (0 ≤ nt ∧ nt ≤ 41) := by
  have hinv := wsRun_inv l
  rw [h] at hinv
  obtain ⟨i1, i2, i3, i4, i5, i6, i7, i8⟩ := hinv
  dsimp only at i1 i2 i3 i4 i5 i6 i7 i8
  exact ⟨by omega, fun v hv => by have := i8 v hv; omega, by omega, by omega⟩
theorem ld_ok (a1 : Int) (l : List Int) : ∀ k ∈ ldF a1 l, k = 32 ∨ k = 9 := by
  have : ∀ (l : List Int) (acc : List Nat), (∀ k ∈ acc, k = 32 ∨ k = 9) → ∀ k ∈ l.foldl (fun l h => (l ++ [9]) ++ List.replicate h.toNat 32) acc, k = 32 ∨ k = 9 := by
    intro l
    induction l with
    | nil => intro acc h; exact h
    | cons x r ih =>
      intro acc h
      refine ih _ ?_
      intro k hk
      rcases List.mem_append.mp hk with hk | hk
      · rcases List.mem_append.mp hk with hk | hk
        · exact h k hk
        · exact .inr (List.mem_singleton.mp hk)
      · exact .inl (List.mem_replicate.mp hk).2
  exact this l _ fun k hk => .inl (List.mem_replicate.mp hk).2
theorem lt_up {d : Addr} {l : Led} (h : AllLt d l) : AllLt (d + 1) l := allLt_of fun p hp => Nat.lt_succ_of_lt (kst_ltOf h p hp)
theorem unr_end {h₀ : Heap} {L I : Addr} {it : Obj} {rest : (Str → Option Value) → List (Addr × Obj) → Prop} {s₁ : Shared} {h' : Heap} {tk : Nat} {m' : Str → Option Value} {news' : Led} (F : Fr h₀ L h' m') (N : News h₀ L h' ((I, it) :: news'))
    (off : ∀ p ∈ news', p.1 ≠ I) (r : rest m' news') : UnrEnd h₀ L s₁ I it rest { s₁ with heap := h', toks := tk } := UnrEnd.intro F N news' (fun _ hp => hp) off r
theorem rr_succ {prog : Program} {w : World} {A : Around} {E : Value → Shared → Prop} {s : Shared} {env : Env} {h₀ : Heap} {x : Str} {body : List Stmt} {Q : Flow → Shared → Prop} {I : Addr} {a : Int} {n k i : Nat} {m : Str → Option Value} {news : Led} (v : Int) (e : a + (i : Int) = v)
    (h : ∀ t h tk, Fr h₀ env.locals h (fun y => if y = x then some (.int v t) else m y) → News h₀ env.locals h ((I, itR (a + ((i + 1 : Nat) : Int)) ((n : Int) - ((i + 1 : Nat) : Int))) :: news) →
      wpAny (model prog w) A (execs body env) (UnrPost h₀ env.locals { s with heap := h, toks := tk } I (itR (a + ((i + 1 : Nat) : Int)) ((n : Int) - ((i + 1 : Nat) : Int))) (RangeRest prog w A E h₀ env x body Q s I a n k (i + 1)) Q) E { s with heap := h, toks := tk }) :
    RangeRest prog w A E h₀ env x body Q s I a n (k + 1) i m news := by
  subst e; exact RangeRest.succ h
theorem lsh_spec {w : World} {news : Led} {k v : Int} {t u : Tok} (h0 : 0 ≤ k ∧ k ≤ 3) (e : 1 * 2 ^ k.toNat = v) :
    Claim 2 w 76 news [.int 1 t, .int k u] (fun r news' => news' = news ∧ ∃ t', r = .int v t') := by
  k_with_none
  (k_with "mine len" => (((try simp only [List.length_append, List.length_replicate, List.length_cons, List.length_nil] at *); omega)))
  (k_with "mine asks" => ((
  (case wq_k1 => k_asm); (case wq_k2 => k_asm); (case wq_k3 => k_asm); (case wq_k4 => k_asm); (case wq_k5 => k_asm); (case wq_k6 => exact rfl); (case wq_k7 => ((try simp only [ktrTop, depth_under_make, depth_under_kw, depth_in1, depth_deeper, depth_caller]); omega)); (case wq_k8 => ((try simp only [ktrTop, units_in1, units_deeper, Around.mark_units, units_caller]); omega)))))
  (k_with "call ref" => ((k_here; (with_reducible show wpAny _ _ (call (Value.ref 118) [Value.str (tx _) _, Value.str _ _] _) _ _ _); k_dflt (first
  | (refine' useC (concat_tab_spec ?wq_ha) ?wq_k1 ?wq_k2 ?wq_k3 ?wq_k4 ?wq_k5 ?wq_k6 ?wq_k7 ?wq_k8 ?_; (case wq_ha => walk_at "mine len"); walk_at "mine asks")
  | (refine' useC (concat_end_spec ?wq_ha) ?wq_k1 ?wq_k2 ?wq_k3 ?wq_k4 ?wq_k5 ?wq_k6 ?wq_k7 ?wq_k8 ?_; (case wq_ha => walk_at "mine len"); walk_at "mine asks")
  | (refine' useC (concat_str_spec ?wq_ha ?wq_hb) ?wq_k1 ?wq_k2 ?wq_k3 ?wq_k4 ?wq_k5 ?wq_k6 ?wq_k7 ?wq_k8 ?_; (case wq_ha => walk_at "mine len"); (case wq_hb => walk_at "mine len"); walk_at "mine asks")); intro r' n' h' tk' hp' F' N'; obtain ⟨hp1, t', hp2⟩ := hp'; subst hp1; subst hp2; (try dsimp only))))
  (k_with "binaryOp Mult str int" => ((k_here; (try simp only [Int.toNat_zero, List.getD_cons_zero]); (refine mul_tx (by omega) (by omega) ?_); intro t' k')))
  (k_with "exec For Name Subscript cons nil" => ((k_here; (rename Fr _ _ _ _ => lF'); (with_unfolding_all refine' For_invVF lF' ?wq_k1 ?wq_k2 ?_; (case wq_k1 => exact rfl); (case wq_k2 => exact rfl); k_whole))))
  (k_with "call ref" => ((k_here; (with_reducible show wpAny _ _ (call (Value.ref 208) [Value.str (tx _) _] _) _ _ _); k_dflt (refine' useC (init_spec ?wq_ha ?wq_hb) ?wq_k1 ?wq_k2 ?wq_k3 ?wq_k4 ?wq_k5 ?wq_k6 ?wq_k7 ?wq_k8 ?_; (case wq_ha => exact ld_ok _ _); (case wq_hb => walk_at "mine len"); walk_at "mine asks"; intro r' n' h' tk' hp' F' N'; obtain ⟨x', dx', nm', tc', vs', cnt', b', n', nt', tb', t0', t1', t2', t3', t4', tr', tn', tt', raw', sm', hp1, hp2, hI', hrun', l1', l2', l3', l4'⟩ := hp'; subst hp2; subst hp1; k_lt l1'; k_lt2 l2'; k_lt2 l3'; k_lt l4'; obtain ⟨q1', q2', q3', q4'⟩ := run_facts hrun' (by walk_at "mine len"); (try dsimp only)))))
  (k_with "call ref" => ((k_here; (with_reducible show wpAny _ _ (call (Value.ref 177) [Value.ref _, Value.int _ _] _) _ _ _); k_dflt (refine' useC (indent_spec ?wq_m1 ?wq_m2 ?wq_m3 ?wq_m4 ?wq_hI ?wq_hl ?wq_hv ?wq_hb ?wq_hnt ?wq_h1) ?wq_k1 ?wq_k2 ?wq_k3 ?wq_k4 ?wq_k5 ?wq_k6 ?wq_k7 ?wq_k8 ?_; walk_at "mine asks"; (case wq_m1 => k_mem); (case wq_m2 => k_mem); (case wq_m3 => k_mem); (case wq_m4 => k_mem); (case wq_hI => assumption); (case wq_hl => assumption); (case wq_hv => assumption); (case wq_hb => assumption); (case wq_hnt => assumption); (case wq_h1 => first | decide | omega); intro r' n' h' tk' hp' F' N'; obtain ⟨hp1, t', hp2⟩ := hp'; subst hp1; subst hp2; (try dsimp only)))))
  (k_with "UnrEnd" => ((k_dflt (refine' unr_end ?wq_k1 ?wq_k2 ?wq_k3 ?_; (case wq_k1 => assumption); (case wq_k2 => assumption); (case wq_k3 => k_all)))))
  (k_with "RangeRest" => ((with_unfolding_all (first | refine' rr_succ 0 (by decide) ?_ | refine' rr_succ 1 (by decide) ?_ | refine' rr_succ 2 (by decide) ?_ | refine' rr_succ 3 (by decide) ?_); intro t' h' tk' F' N')))
  intro mean mg mb dp un gd cn cs a1 ccd cl outer A₀ base h₀ L m s Q E B F X N T hk hdp hun hret
  obtain ⟨ck, c2, c3, c4, c5⟩ := cs
  cases hk
  k_steps
  all_goals (subst e; exact hret _ _ _ _ ⟨rfl, _, rfl⟩ (by assumption) (by assumption))
theorem sub_spec {w : World} {news : Led} {x y : Int} {t u : Tok} : Claim 2 w 111 news [.int x t, .int y u] (fun r news' => news' = news ∧ ∃ t', r = .int (x - y) t') := by
  k_with_none
  (k_with "mine len" => (((try simp only [List.length_append, List.length_replicate, List.length_cons, List.length_nil] at *); omega)))
  (k_with "mine asks" => ((
  (case wq_k1 => k_asm); (case wq_k2 => k_asm); (case wq_k3 => k_asm); (case wq_k4 => k_asm); (case wq_k5 => k_asm); (case wq_k6 => exact rfl); (case wq_k7 => ((try simp only [ktrTop, depth_under_make, depth_under_kw, depth_in1, depth_deeper, depth_caller]); omega)); (case wq_k8 => ((try simp only [ktrTop, units_in1, units_deeper, Around.mark_units, units_caller]); omega)))))
  (k_with "call ref" => ((k_here; (with_reducible show wpAny _ _ (call (Value.ref 118) [Value.str (tx _) _, Value.str _ _] _) _ _ _); k_dflt (first
  | (refine' useC (concat_tab_spec ?wq_ha) ?wq_k1 ?wq_k2 ?wq_k3 ?wq_k4 ?wq_k5 ?wq_k6 ?wq_k7 ?wq_k8 ?_; (case wq_ha => walk_at "mine len"); walk_at "mine asks")
  | (refine' useC (concat_end_spec ?wq_ha) ?wq_k1 ?wq_k2 ?wq_k3 ?wq_k4 ?wq_k5 ?wq_k6 ?wq_k7 ?wq_k8 ?_; (case wq_ha => walk_at "mine len"); walk_at "mine asks")
  | (refine' useC (concat_str_spec ?wq_ha ?wq_hb) ?wq_k1 ?wq_k2 ?wq_k3 ?wq_k4 ?wq_k5 ?wq_k6 ?wq_k7 ?wq_k8 ?_; (case wq_ha => walk_at "mine len"); (case wq_hb => walk_at "mine len"); walk_at "mine asks")); intro r' n' h' tk' hp' F' N'; obtain ⟨hp1, t', hp2⟩ := hp'; subst hp1; subst hp2; (try dsimp only))))
  (k_with "binaryOp Mult str int" => ((k_here; (try simp only [Int.toNat_zero, List.getD_cons_zero]); (refine mul_tx (by omega) (by omega) ?_); intro t' k')))
  (k_with "exec For Name Subscript cons nil" => ((k_here; (rename Fr _ _ _ _ => lF'); (with_unfolding_all refine' For_invVF lF' ?wq_k1 ?wq_k2 ?_; (case wq_k1 => exact rfl); (case wq_k2 => exact rfl); k_whole))))
  (k_with "call ref" => ((k_here; (with_reducible show wpAny _ _ (call (Value.ref 208) [Value.str (tx _) _] _) _ _ _); k_dflt (refine' useC (init_spec ?wq_ha ?wq_hb) ?wq_k1 ?wq_k2 ?wq_k3 ?wq_k4 ?wq_k5 ?wq_k6 ?wq_k7 ?wq_k8 ?_; (case wq_ha => exact ld_ok _ _); (case wq_hb => walk_at "mine len"); walk_at "mine asks"; intro r' n' h' tk' hp' F' N'; obtain ⟨x', dx', nm', tc', vs', cnt', b', n', nt', tb', t0', t1', t2', t3', t4', tr', tn', tt', raw', sm', hp1, hp2, hI', hrun', l1', l2', l3', l4'⟩ := hp'; subst hp2; subst hp1; k_lt l1'; k_lt2 l2'; k_lt2 l3'; k_lt l4'; obtain ⟨q1', q2', q3', q4'⟩ := run_facts hrun' (by walk_at "mine len"); (try dsimp only)))))
  (k_with "call ref" => ((k_here; (with_reducible show wpAny _ _ (call (Value.ref 177) [Value.ref _, Value.int _ _] _) _ _ _); k_dflt (refine' useC (indent_spec ?wq_m1 ?wq_m2 ?wq_m3 ?wq_m4 ?wq_hI ?wq_hl ?wq_hv ?wq_hb ?wq_hnt ?wq_h1) ?wq_k1 ?wq_k2 ?wq_k3 ?wq_k4 ?wq_k5 ?wq_k6 ?wq_k7 ?wq_k8 ?_; walk_at "mine asks"; (case wq_m1 => k_mem); (case wq_m2 => k_mem); (case wq_m3 => k_mem); (case wq_m4 => k_mem); (case wq_hI => assumption); (case wq_hl => assumption); (case wq_hv => assumption); (case wq_hb => assumption); (case wq_hnt => assumption); (case wq_h1 => first | decide | omega); intro r' n' h' tk' hp' F' N'; obtain ⟨hp1, t', hp2⟩ := hp'; subst hp1; subst hp2; (try dsimp only)))))
  (k_with "UnrEnd" => ((k_dflt (refine' unr_end ?wq_k1 ?wq_k2 ?wq_k3 ?_; (case wq_k1 => assumption); (case wq_k2 => assumption); (case wq_k3 => k_all)))))
  (k_with "RangeRest" => ((with_unfolding_all (first | refine' rr_succ 0 (by decide) ?_ | refine' rr_succ 1 (by decide) ?_ | refine' rr_succ 2 (by decide) ?_ | refine' rr_succ 3 (by decide) ?_); intro t' h' tk' F' N')))
  (k_with "call ref" => ((k_here; (with_reducible show wpAny _ _ (call (Value.ref 76) [Value.int 1 _, Value.int _ _] _) _ _ _); k_dflt ((first | refine' useC (lsh_spec (v := 1) ?wq_h1 (by decide)) ?wq_k1 ?wq_k2 ?wq_k3 ?wq_k4 ?wq_k5 ?wq_k6 ?wq_k7 ?wq_k8 ?_ | refine' useC (lsh_spec (v := 2) ?wq_h1 (by decide)) ?wq_k1 ?wq_k2 ?wq_k3 ?wq_k4 ?wq_k5 ?wq_k6 ?wq_k7 ?wq_k8 ?_ | refine' useC (lsh_spec (v := 4) ?wq_h1 (by decide)) ?wq_k1 ?wq_k2 ?wq_k3 ?wq_k4 ?wq_k5 ?wq_k6 ?wq_k7 ?wq_k8 ?_ | refine' useC (lsh_spec (v := 8) ?wq_h1 (by decide)) ?wq_k1 ?wq_k2 ?wq_k3 ?wq_k4 ?wq_k5 ?wq_k6 ?wq_k7 ?wq_k8 ?_); (case wq_h1 => decide); walk_at "mine asks"; intro r' n' h' tk' hp' F' N'; obtain ⟨hp1, t', hp2⟩ := hp'; subst hp1; subst hp2; (try dsimp only)))))
  intro mean mg mb dp un gd cn cs a1 ccd cl outer A₀ base h₀ L m s Q E B F X N T hk hdp hun hret
  obtain ⟨ck, c2, c3, c4, c5⟩ := cs
  cases hk
  k_steps
  all_goals exact hret _ _ _ _ ⟨rfl, _, rfl⟩ (by assumption) (by assumption)
theorem fdiv_spec {w : World} {news : Led} {x y : Int} {t u : Tok} (hy : 0 < y ∧ y ≤ 8) : Claim 2 w 69 news [.int x t, .int y u] (fun r news' => news' = news ∧ ∃ t', r = .int (x.fdiv y) t') := by
  k_with_none
  (k_with "mine len" => (((try simp only [List.length_append, List.length_replicate, List.length_cons, List.length_nil] at *); omega)))
  (k_with "mine asks" => ((
  (case wq_k1 => k_asm); (case wq_k2 => k_asm); (case wq_k3 => k_asm); (case wq_k4 => k_asm); (case wq_k5 => k_asm); (case wq_k6 => exact rfl); (case wq_k7 => ((try simp only [ktrTop, depth_under_make, depth_under_kw, depth_in1, depth_deeper, depth_caller]); omega)); (case wq_k8 => ((try simp only [ktrTop, units_in1, units_deeper, Around.mark_units, units_caller]); omega)))))
  (k_with "call ref" => ((k_here; (with_reducible show wpAny _ _ (call (Value.ref 118) [Value.str (tx _) _, Value.str _ _] _) _ _ _); k_dflt (first
  | (refine' useC (concat_tab_spec ?wq_ha) ?wq_k1 ?wq_k2 ?wq_k3 ?wq_k4 ?wq_k5 ?wq_k6 ?wq_k7 ?wq_k8 ?_; (case wq_ha => walk_at "mine len"); walk_at "mine asks")
  | (refine' useC (concat_end_spec ?wq_ha) ?wq_k1 ?wq_k2 ?wq_k3 ?wq_k4 ?wq_k5 ?wq_k6 ?wq_k7 ?wq_k8 ?_; (case wq_ha => walk_at "mine len"); walk_at "mine asks")
  | (refine' useC (concat_str_spec ?wq_ha ?wq_hb) ?wq_k1 ?wq_k2 ?wq_k3 ?wq_k4 ?wq_k5 ?wq_k6 ?wq_k7 ?wq_k8 ?_; (case wq_ha => walk_at "mine len"); (case wq_hb => walk_at "mine len"); walk_at "mine asks")); intro r' n' h' tk' hp' F' N'; obtain ⟨hp1, t', hp2⟩ := hp'; subst hp1; subst hp2; (try dsimp only))))
  (k_with "binaryOp Mult str int" => ((k_here; (try simp only [Int.toNat_zero, List.getD_cons_zero]); (refine mul_tx (by omega) (by omega) ?_); intro t' k')))
  (k_with "exec For Name Subscript cons nil" => ((k_here; (rename Fr _ _ _ _ => lF'); (with_unfolding_all refine' For_invVF lF' ?wq_k1 ?wq_k2 ?_; (case wq_k1 => exact rfl); (case wq_k2 => exact rfl); k_whole))))
  (k_with "call ref" => ((k_here; (with_reducible show wpAny _ _ (call (Value.ref 208) [Value.str (tx _) _] _) _ _ _); k_dflt (refine' useC (init_spec ?wq_ha ?wq_hb) ?wq_k1 ?wq_k2 ?wq_k3 ?wq_k4 ?wq_k5 ?wq_k6 ?wq_k7 ?wq_k8 ?_; (case wq_ha => exact ld_ok _ _); (case wq_hb => walk_at "mine len"); walk_at "mine asks"; intro r' n' h' tk' hp' F' N'; obtain ⟨x', dx', nm', tc', vs', cnt', b', n', nt', tb', t0', t1', t2', t3', t4', tr', tn', tt', raw', sm', hp1, hp2, hI', hrun', l1', l2', l3', l4'⟩ := hp'; subst hp2; subst hp1; k_lt l1'; k_lt2 l2'; k_lt2 l3'; k_lt l4'; obtain ⟨q1', q2', q3', q4'⟩ := run_facts hrun' (by walk_at "mine len"); (try dsimp only)))))
  (k_with "call ref" => ((k_here; (with_reducible show wpAny _ _ (call (Value.ref 177) [Value.ref _, Value.int _ _] _) _ _ _); k_dflt (refine' useC (indent_spec ?wq_m1 ?wq_m2 ?wq_m3 ?wq_m4 ?wq_hI ?wq_hl ?wq_hv ?wq_hb ?wq_hnt ?wq_h1) ?wq_k1 ?wq_k2 ?wq_k3 ?wq_k4 ?wq_k5 ?wq_k6 ?wq_k7 ?wq_k8 ?_; walk_at "mine asks"; (case wq_m1 => k_mem); (case wq_m2 => k_mem); (case wq_m3 => k_mem); (case wq_m4 => k_mem); (case wq_hI => assumption); (case wq_hl => assumption); (case wq_hv => assumption); (case wq_hb => assumption); (case wq_hnt => assumption); (case wq_h1 => first | decide | omega); intro r' n' h' tk' hp' F' N'; obtain ⟨hp1, t', hp2⟩ := hp'; subst hp1; subst hp2; (try dsimp only)))))
  (k_with "UnrEnd" => ((k_dflt (refine' unr_end ?wq_k1 ?wq_k2 ?wq_k3 ?_; (case wq_k1 => assumption); (case wq_k2 => assumption); (case wq_k3 => k_all)))))
  (k_with "RangeRest" => ((with_unfolding_all (first | refine' rr_succ 0 (by decide) ?_ | refine' rr_succ 1 (by decide) ?_ | refine' rr_succ 2 (by decide) ?_ | refine' rr_succ 3 (by decide) ?_); intro t' h' tk' F' N')))
  (k_with "call ref" => ((k_here; (with_reducible show wpAny _ _ (call (Value.ref 76) [Value.int 1 _, Value.int _ _] _) _ _ _); k_dflt ((first | refine' useC (lsh_spec (v := 1) ?wq_h1 (by decide)) ?wq_k1 ?wq_k2 ?wq_k3 ?wq_k4 ?wq_k5 ?wq_k6 ?wq_k7 ?wq_k8 ?_ | refine' useC (lsh_spec (v := 2) ?wq_h1 (by decide)) ?wq_k1 ?wq_k2 ?wq_k3 ?wq_k4 ?wq_k5 ?wq_k6 ?wq_k7 ?wq_k8 ?_ | refine' useC (lsh_spec (v := 4) ?wq_h1 (by decide)) ?wq_k1 ?wq_k2 ?wq_k3 ?wq_k4 ?wq_k5 ?wq_k6 ?wq_k7 ?wq_k8 ?_ | refine' useC (lsh_spec (v := 8) ?wq_h1 (by decide)) ?wq_k1 ?wq_k2 ?wq_k3 ?wq_k4 ?wq_k5 ?wq_k6 ?wq_k7 ?wq_k8 ?_); (case wq_h1 => decide); walk_at "mine asks"; intro r' n' h' tk' hp' F' N'; obtain ⟨hp1, t', hp2⟩ := hp'; subst hp1; subst hp2; (try dsimp only)))))
  intro mean mg mb dp un gd cn cs a1 ccd cl outer A₀ base h₀ L m s Q E B F X N T hk hdp hun hret
  obtain ⟨ck, c2, c3, c4, c5⟩ := cs
  cases hk
  have hy2 : y ≠ 0 := by omega
  k_steps
  all_goals exact hret _ _ _ _ ⟨rfl, _, rfl⟩ (by assumption) (by assumption)
theorem stops_gen {h₀ h : Heap} {L l : Addr} {s0 s1 s2 s3 : Int} {t0 t1 t2 t3 : Tok} {k : Nat} {r : Led} (N : News h₀ L h ((l, W.listOf ((((#[].push (Value.int s0 t0)).push (Value.int s1 t1)).push (Value.int s2 t2)).push (Value.int s3 t3)) k) :: r)) :
    ∃ ws x0 x1 x2 x3, IntsAre ws [x0, x1, x2, x3] ∧ s0 = x0 ∧ s1 = x1 ∧ s2 = x2 ∧ s3 = x3 ∧ News h₀ L h ((l, W.listOf ws.toArray k) :: r) :=
  ⟨[.int s0 t0, .int s1 t1, .int s2 t2, .int s3 t3], s0, s1, s2, s3, .cons _ _ (.cons _ _ (.cons _ _ (.cons _ _ .nil))), rfl, rfl, rfl, rfl, N⟩
theorem lt3 {k : Int} (h : k < 0 + ((3 - 0 : Int).toNat : Int)) : k < 1000 := Int.lt_trans h (by decide)
theorem lt3' {k : Int} (h : k < 0 + ((3 - 0 : Int).toNat : Int)) : k + 1 < 1000 := by have : k < 3 := h; omega
theorem lt3l {k s0 s1 s2 s3 : Int} (h : k < 0 + ((3 - 0 : Int).toNat : Int)) : k < (([s0, s1, s2, s3] : List Int).length : Int) := by have : k < 3 := h; simp only [List.length_cons, List.length_nil]; omega
theorem lt3l' {k s0 s1 s2 s3 : Int} (h : k < 0 + ((3 - 0 : Int).toNat : Int)) : k + 1 < (([s0, s1, s2, s3] : List Int).length : Int) := by have : k < 3 := h; simp only [List.length_cons, List.length_nil]; omega
theorem list_item {prog : Program} {w : World} {A : Around} {E : Value → Shared → Prop} {s : Shared} {h₀ : Heap} {L l : Addr} {news : Led} {n : Nat} {vs : List Value} {ns : List Int} {value slice : PySem.Expr} {k : Int} {u : Tok} {Q : Value → Shared → Prop} (N : News h₀ L s.heap news) (hm : (l, W.listOf vs.toArray n) ∈ news) (hI : IntsAre vs ns) (h0 : 0 ≤ k) (hk : k < 1000) (h1 : k < ns.length)
    (h : ∀ t, Q (.int (ns.getD k.toNat 0) t) s)
    (hs : subscripted slice false (.ref l) (.int k u) = operate [.ref l, .int k u] (getItem (.ref l) (.int k u)) := by with_unfolding_all rfl) :
    wpAny (model prog w) A (subscriptTail value slice (.ref l) (.int k u)) Q E s := by
  have hk' : k.toNat < ns.length := by omega
  have hc : ns[k.toNat]? = some ns[k.toNat] := by simp [hk']
  obtain ⟨t, hx⟩ := hI.get _ _ hc
  have e : ns.getD k.toNat 0 = ns[k.toNat] := by rw [List.getD_eq_getElem?_getD, hc]; rfl
  have hL : s.heap.IsList l vs.toArray := ⟨_, (N _ hm).1, rfl, n, rfl⟩
  exact tail_any hL.typeIs slot_list_getitem.lookup (wpAny_getItem_list hL h0 (by omega) (by simpa using hx) (by have := h t; rw [e] at this; exact this)) hs
theorem bd0 (x : Int) : x / 2 ^ 0 % 2 = x - 2 * (x / 2) := by
  show x / 1 % 2 = _
  rw [Int.ediv_one, Int.emod_def]
theorem bd1 (x : Int) : x / 2 ^ 1 % 2 = x / 2 - 2 * (x / 4) := by
  show x / 2 % 2 = _
  rw [Int.emod_def, Int.ediv_ediv_of_nonneg (by decide)]; rfl
theorem bd2 {x : Int} (h : 0 ≤ x ∧ x ≤ 7) : x / 2 ^ 2 % 2 = x / 4 := by
  show x / 4 % 2 = _
  omega
theorem stops_val {a1 a2 a3 a4 s0 s1 s2 s3 : Int} {cnt : List Int} {b n nt : Int} (h1 : 0 ≤ a1 ∧ a1 ≤ 7) (h2 : 0 ≤ a2 ∧ a2 ≤ 7) (h3 : 0 ≤ a3 ∧ a3 ≤ 7) (h4 : 0 ≤ a4 ∧ a4 ≤ 7)
    (h : wsRun (ldF a1 [a2, a3, a4]) = (cnt, b, n, nt)) (e0 : (b + 1 * (ilF 1 cnt (rangeKs 1 ((cnt.length : Int) - 1).toNat) + nt)).fdiv 1 - nt = s0) (e1 : (b + 2 * (ilF 2 cnt (rangeKs 2 ((cnt.length : Int) - 2).toNat) + nt)).fdiv 2 - nt = s1)
    (e2 : (b + 4 * (ilF 4 cnt (rangeKs 4 ((cnt.length : Int) - 4).toNat) + nt)).fdiv 4 - nt = s2) (e3 : (b + 8 * (ilF 8 cnt (rangeKs 8 ((cnt.length : Int) - 8).toNat) + nt)).fdiv 8 - nt = s3) :
    (rangeKs 0 (3 - 0 : Int).toNat).map (fun k => ([s0, s1, s2, s3] : List Int).getD k.toNat 0 - 2 * ([s0, s1, s2, s3] : List Int).getD (k + 1).toNat 0) = [bitc 0 a1 a2 a3 a4, bitc 1 a1 a2 a3 a4, bitc 2 a1 a2 a3 a4] := by
  obtain ⟨f1, f2, f3, f4, f5, f6⟩ := ws_facts h1 h2 h3 h4 h
  unfold ilOf at f3 f4 f5 f6
  rw [f1, f2, f3, Int.fdiv_eq_ediv_of_nonneg _ (by decide), Int.add_mul_ediv_left _ _ (by decide), Int.ediv_one] at e0
  rw [f1, f2, f4, Int.fdiv_eq_ediv_of_nonneg _ (by decide), Int.add_mul_ediv_left _ _ (by decide)] at e1
  rw [f1, f2, f5, Int.fdiv_eq_ediv_of_nonneg _ (by decide), Int.add_mul_ediv_left _ _ (by decide)] at e2
  rw [f1, f2, f6, Int.fdiv_eq_ediv_of_nonneg _ (by decide), Int.add_mul_ediv_left _ _ (by decide), Int.ediv_eq_zero_of_lt h4.1 (Int.lt_of_le_of_lt h4.2 (by decide))] at e3
  show [s0 - 2 * s1, s1 - 2 * s2, s2 - 2 * s3] = _
  have g0 : s0 - 2 * s1 = bitc 0 a1 a2 a3 a4 := by
    unfold bitc
    rw [bd0 a1, bd0 a2, bd0 a3, bd0 a4]
    clear e2 e3 f1 f2 f3 f4 f5 f6 h
    generalize a1 / 2 = y1 at *
    generalize a2 / 2 = y2 at *
    generalize a3 / 2 = y3 at *
    generalize a4 / 2 = y4 at *
    omega
  have g1 : s1 - 2 * s2 = bitc 1 a1 a2 a3 a4 := by
    unfold bitc
    rw [bd1 a1, bd1 a2, bd1 a3, bd1 a4]
    clear e0 e3 f1 f2 f3 f4 f5 f6 h
    generalize a1 / 2 = y1 at *
    generalize a2 / 2 = y2 at *
    generalize a3 / 2 = y3 at *
    generalize a4 / 2 = y4 at *
    generalize a1 / 4 = z1 at *
    generalize a2 / 4 = z2 at *
    generalize a3 / 4 = z3 at *
    generalize a4 / 4 = z4 at *
    omega
  have g2 : s2 - 2 * s3 = bitc 2 a1 a2 a3 a4 := by
    unfold bitc
    rw [bd2 h1, bd2 h2, bd2 h3, bd2 h4]
    clear e0 e1 f1 f2 f3 f4 f5 f6 h
    generalize a1 / 4 = z1 at *
    generalize a2 / 4 = z2 at *
    generalize a3 / 4 = z3 at *
    generalize a4 / 4 = z4 at *
    omega
  rw [g0, g1, g2]
theorem off1_of {D : Addr} : ∀ {l : Led}, LCg.Off1 D l → ∀ p ∈ l, p.1 ≠ D := by
  intro l
  induction l with
  | nil => intro _ p hp; exact absurd hp (List.not_mem_nil)
  | cons a r ih =>
    intro h p hp
    have h2 : a.1 ≠ D ∧ LCg.Off1 D r := h
    cases List.mem_cons.mp hp with
    | inl e => rw [e]; exact h2.1
    | inr e => exact ih h2.2 p e
/-- what _law_counts hands back -/
noncomputable def CtPost (news : Led) (c : List Int) (r : Value) (news' : Led) : Prop := ∃ x vs' n', r = .ref x ∧ news' = (x, W.listOf vs'.toArray n') :: news ∧ IntsAre vs' c ∧ ∀ p ∈ news, p.1 ≠ x
theorem ct_retN {h₀ h' : Heap} {L D : Addr} {o o' : Obj} {news : Led} {p1 p2 p3 p4 p5 p6 p7 p8 : Addr × Obj} (e : o = o') (N : News h₀ L h' ((D, o) :: p1 :: p2 :: p3 :: p4 :: p5 :: p6 :: p7 :: p8 :: news)) : News h₀ L h' ((D, o') :: news) := by
  subst e
  intro p hp
  refine N p ?_
  cases List.mem_cons.mp hp with
  | inl h => rw [h]; exact .head _
  | inr h => exact .tail _ (.tail _ (.tail _ (.tail _ (.tail _ (.tail _ (.tail _ (.tail _ (.tail _ h))))))))
theorem ct_ret {Q : Value → Shared → Prop} {h₀ : Heap} {L : Addr} {m : Str → Option Value} {s : Shared} {news : Led} {c : List Int} {D : Addr} {ys : List Value} {h' : Heap} {tk : Nat} {p1 p2 p3 p4 p5 p6 p7 p8 : Addr × Obj} {ms : List Int}
    (hret : ∀ (r : Value) (news' : Led) (h' : Heap) (tk' : Nat), CtPost news c r news' → Fr h₀ L h' m → News h₀ L h' news' → Q r { s with heap := h', toks := tk' })
    (F : Fr h₀ L h' m) (N : News h₀ L h' ((D, LCg.lst ys) :: p1 :: p2 :: p3 :: p4 :: p5 :: p6 :: p7 :: p8 :: news)) (hI : IntsAre ys ms) (e : ms = c) (ho : LCg.Off1 D news) : Q (.ref D) { s with heap := h', toks := tk } := by
  subst e
  have P : CtPost news ms (.ref D) ((D, W.listOf ys.toArray ys.length) :: news) := ⟨D, ys, ys.length, rfl, rfl, hI, off1_of ho⟩
  exact hret _ _ _ _ P F (ct_retN (by unfold LCg.lst; rfl) N)
theorem counts_spec {w : World} {news : Led} {l : Addr} {n : Nat} {vs : List Value} {a1 a2 a3 a4 : Int} (hm : (l, W.listOf vs.toArray n) ∈ news) (hI : IntsAre vs [a1, a2, a3, a4]) (h1 : 0 ≤ a1 ∧ a1 ≤ 7) (h2 : 0 ≤ a2 ∧ a2 ≤ 7) (h3 : 0 ≤ a3 ∧ a3 ≤ 7) (h4 : 0 ≤ a4 ∧ a4 ≤ 7) :
    Claim 12 w 224 news [.ref l] (CtPost news [bitc 0 a1 a2 a3 a4, bitc 1 a1 a2 a3 a4, bitc 2 a1 a2 a3 a4]) := by
  k_with_none
  (k_with "mine len" => (((try simp only [List.length_append, List.length_replicate, List.length_cons, List.length_nil] at *); omega)))
  (k_with "mine asks" => ((
  (case wq_k1 => k_asm); (case wq_k2 => k_asm); (case wq_k3 => k_asm); (case wq_k4 => k_asm); (case wq_k5 => k_asm); (case wq_k6 => exact rfl); (case wq_k7 => ((try simp only [ktrTop, depth_under_make, depth_under_kw, depth_in1, depth_deeper, depth_caller]); omega)); (case wq_k8 => ((try simp only [ktrTop, units_in1, units_deeper, Around.mark_units, units_caller]); omega)))))
  (k_with "call ref" => ((k_here; (with_reducible show wpAny _ _ (call (Value.ref 118) [Value.str (tx _) _, Value.str _ _] _) _ _ _); k_dflt (first
  | (refine' useC (concat_tab_spec ?wq_ha) ?wq_k1 ?wq_k2 ?wq_k3 ?wq_k4 ?wq_k5 ?wq_k6 ?wq_k7 ?wq_k8 ?_; (case wq_ha => walk_at "mine len"); walk_at "mine asks")
  | (refine' useC (concat_end_spec ?wq_ha) ?wq_k1 ?wq_k2 ?wq_k3 ?wq_k4 ?wq_k5 ?wq_k6 ?wq_k7 ?wq_k8 ?_; (case wq_ha => walk_at "mine len"); walk_at "mine asks")
  | (refine' useC (concat_str_spec ?wq_ha ?wq_hb) ?wq_k1 ?wq_k2 ?wq_k3 ?wq_k4 ?wq_k5 ?wq_k6 ?wq_k7 ?wq_k8 ?_; (case wq_ha => walk_at "mine len"); (case wq_hb => walk_at "mine len"); walk_at "mine asks")); intro r' n' h' tk' hp' F' N'; obtain ⟨hp1, t', hp2⟩ := hp'; subst hp1; subst hp2; (try dsimp only))))
  (k_with "binaryOp Mult str int" => ((k_here; (try simp only [Int.toNat_zero, List.getD_cons_zero]); (refine mul_tx (by omega) (by omega) ?_); intro t' k')))
  (k_with "exec For Name Subscript cons nil" => ((k_here; (rename Fr _ _ _ _ => lF'); (with_unfolding_all refine' For_invVF lF' ?wq_k1 ?wq_k2 ?_; (case wq_k1 => exact rfl); (case wq_k2 => exact rfl); k_whole))))
  (k_with "call ref" => ((k_here; (with_reducible show wpAny _ _ (call (Value.ref 208) [Value.str (tx _) _] _) _ _ _); k_dflt (refine' useC (init_spec ?wq_ha ?wq_hb) ?wq_k1 ?wq_k2 ?wq_k3 ?wq_k4 ?wq_k5 ?wq_k6 ?wq_k7 ?wq_k8 ?_; (case wq_ha => exact ld_ok _ _); (case wq_hb => walk_at "mine len"); walk_at "mine asks"; intro r' n' h' tk' hp' F' N'; obtain ⟨x', dx', nm', tc', vs', cnt', b', n', nt', tb', t0', t1', t2', t3', t4', tr', tn', tt', raw', sm', hp1, hp2, hI', hrun', l1', l2', l3', l4'⟩ := hp'; subst hp2; subst hp1; k_lt l1'; k_lt2 l2'; k_lt2 l3'; k_lt l4'; obtain ⟨q1', q2', q3', q4'⟩ := run_facts hrun' (by walk_at "mine len"); (try dsimp only)))))
  (k_with "call ref" => ((k_here; (with_reducible show wpAny _ _ (call (Value.ref 177) [Value.ref _, Value.int _ _] _) _ _ _); k_dflt (refine' useC (indent_spec ?wq_m1 ?wq_m2 ?wq_m3 ?wq_m4 ?wq_hI ?wq_hl ?wq_hv ?wq_hb ?wq_hnt ?wq_h1) ?wq_k1 ?wq_k2 ?wq_k3 ?wq_k4 ?wq_k5 ?wq_k6 ?wq_k7 ?wq_k8 ?_; walk_at "mine asks"; (case wq_m1 => k_mem); (case wq_m2 => k_mem); (case wq_m3 => k_mem); (case wq_m4 => k_mem); (case wq_hI => assumption); (case wq_hl => assumption); (case wq_hv => assumption); (case wq_hb => assumption); (case wq_hnt => assumption); (case wq_h1 => first | decide | omega); intro r' n' h' tk' hp' F' N'; obtain ⟨hp1, t', hp2⟩ := hp'; subst hp1; subst hp2; (try dsimp only)))))
  (k_with "UnrEnd" => ((k_dflt (refine' unr_end ?wq_k1 ?wq_k2 ?wq_k3 ?_; (case wq_k1 => assumption); (case wq_k2 => assumption); (case wq_k3 => k_all)))))
  (k_with "RangeRest" => ((with_unfolding_all (first | refine' rr_succ 0 (by decide) ?_ | refine' rr_succ 1 (by decide) ?_ | refine' rr_succ 2 (by decide) ?_ | refine' rr_succ 3 (by decide) ?_); intro t' h' tk' F' N')))
  (k_with "call ref" => ((k_here; (with_reducible show wpAny _ _ (call (Value.ref 76) [Value.int 1 _, Value.int _ _] _) _ _ _); k_dflt ((first | refine' useC (lsh_spec (v := 1) ?wq_h1 (by decide)) ?wq_k1 ?wq_k2 ?wq_k3 ?wq_k4 ?wq_k5 ?wq_k6 ?wq_k7 ?wq_k8 ?_ | refine' useC (lsh_spec (v := 2) ?wq_h1 (by decide)) ?wq_k1 ?wq_k2 ?wq_k3 ?wq_k4 ?wq_k5 ?wq_k6 ?wq_k7 ?wq_k8 ?_ | refine' useC (lsh_spec (v := 4) ?wq_h1 (by decide)) ?wq_k1 ?wq_k2 ?wq_k3 ?wq_k4 ?wq_k5 ?wq_k6 ?wq_k7 ?wq_k8 ?_ | refine' useC (lsh_spec (v := 8) ?wq_h1 (by decide)) ?wq_k1 ?wq_k2 ?wq_k3 ?wq_k4 ?wq_k5 ?wq_k6 ?wq_k7 ?wq_k8 ?_); (case wq_h1 => decide); walk_at "mine asks"; intro r' n' h' tk' hp' F' N'; obtain ⟨hp1, t', hp2⟩ := hp'; subst hp1; subst hp2; (try dsimp only)))))
  (k_with "call ref" => ((k_here; (with_reducible show wpAny _ _ (call (Value.ref 111) [Value.int _ _, Value.int _ _] _) _ _ _); k_dflt (refine' useC sub_spec ?wq_k1 ?wq_k2 ?wq_k3 ?wq_k4 ?wq_k5 ?wq_k6 ?wq_k7 ?wq_k8 ?_; walk_at "mine asks"; intro r' n' h' tk' hp' F' N'; obtain ⟨hp1, t', hp2⟩ := hp'; subst hp1; subst hp2; (try dsimp only)))))
  (k_with "call ref" => ((k_here; (with_reducible show wpAny _ _ (call (Value.ref 69) [Value.int _ _, Value.int _ _] _) _ _ _); k_dflt (refine' useC (fdiv_spec ?wq_hy) ?wq_k1 ?wq_k2 ?wq_k3 ?wq_k4 ?wq_k5 ?wq_k6 ?wq_k7 ?wq_k8 ?_; walk_at "mine asks"; (case wq_hy => decide); intro r' n' h' tk' hp' F' N'; obtain ⟨hp1, t', hp2⟩ := hp'; subst hp1; subst hp2; (try dsimp only)))))
  (k_with "subscriptTail Name Name ref int" => ((k_here; (with_reducible show wpAny _ _ (subscriptTail _ _ (Value.ref _) (Value.int _ _)) _ _ _); k_dflt ((refine' list_item ?wq_k1 ?wq_k2 ?wq_k3 ?wq_k4 ?wq_k5 ?wq_k6 ?_ ?wq_k8; (case wq_k1 => k_asm); (case wq_k2 => k_mem); (case wq_k3 => assumption); (case wq_k4 => first | assumption | exact Int.add_nonneg (by assumption) (by decide)); (case wq_k5 => first | exact lt3 (by assumption) | exact lt3' (by assumption)); (case wq_k6 => first | exact lt3l (by assumption) | exact lt3l' (by assumption)); (case wq_k8 => with_unfolding_all rfl)); intro t'))))
  (k_with "subscriptTail Name BinOp ref int" => ((k_here; (with_reducible show wpAny _ _ (subscriptTail _ _ (Value.ref _) (Value.int _ _)) _ _ _); k_dflt ((refine' list_item ?wq_k1 ?wq_k2 ?wq_k3 ?wq_k4 ?wq_k5 ?wq_k6 ?_ ?wq_k8; (case wq_k1 => k_asm); (case wq_k2 => k_mem); (case wq_k3 => assumption); (case wq_k4 => first | assumption | exact Int.add_nonneg (by assumption) (by decide)); (case wq_k5 => first | exact lt3 (by assumption) | exact lt3' (by assumption)); (case wq_k6 => first | exact lt3l (by assumption) | exact lt3l' (by assumption)); (case wq_k8 => with_unfolding_all rfl)); intro t'))))
  intro mean mg mb dp un gd cn cs a ccd cl outer A₀ base h₀ L m s Q E B F X N T hk hdp hun hret
  obtain ⟨ck, c2, c3, c4, c5⟩ := cs
  cases hk
  replace N := news_add N hm
  (repeat ((fail_if_success (first | with_reducible show wpAny _ _ (execs _ _) _ _ _)); walk_at "mine step"))
  (rename _ < _ ∧ AllLt _ _ => l9)
  have l8 := lt_up l9.2
  (repeat ((fail_if_success (first | with_reducible show wpAny _ _ (pyIter (Value.ref _)) _ _ _)); walk_at "mine step"))
  (rename IntsAre _ (List.drop _ _) => hI9)
  replace hI9 : IntsAre _ [a2, a3, a4] := hI9
  (k_with "state" => first | exact ld_start (by assumption) | exact ld_turn (by assumption) (by assumption))
  k_state (fun pre lead => lead = tx (ldF a1 pre) ∧ (ldF a1 pre).length ≤ 7 + 8 * pre.length) "lead"
  · have hk9 := ld_item (by assumption) h2 h3 h4
    have hp9 := ld_pre (by assumption) rfl
    (rename _ = tx (ldF _ _) => e9)
    subst e9
    k_steps
  (rename _ = tx (ldF _ _) => e9)
  subst e9
  iterate 4 ((repeat ((fail_if_success (first | with_reducible show UnrEnd ..)); walk_at "mine step")); (iterate 1 walk_at "mine step"))
  (repeat ((fail_if_success (first | with_reducible show wpAny _ _ (exec (PySem.Stmt.Return ..) _) _ _ _)); walk_at "mine step"))
  rename News _ _ _ _ => N9
  obtain ⟨ws, s0, s1, s2, s3, hws, hs0, hs1, hs2, hs3, N8⟩ := stops_gen N9
  clear N9
  (repeat walk_at "mine step")
  (rename _ ≠ _ ∧ _ ≠ _ ∧ _ ≠ _ ∧ _ ≠ _ ∧ _ ≠ _ ∧ _ ≠ _ ∧ _ ≠ _ ∧ _ ≠ _ ∧ LCg.Off1 _ _ => o9)
  exact ct_ret hret (by assumption) (by assumption) (by assumption) (stops_val h1 h2 h3 h4 (by assumption) hs0 hs1 hs2 hs3) o9.2.2.2.2.2.2.2.2
end Mine
namespace Mine
section
variable {prog : Program} {w : World} {A : Around} {E : Value → Shared → Prop} {s : Shared} {env : Env} {h₀ : Heap} {x : Str} {body : List Stmt} {Q : Flow → Shared → Prop}
theorem gst_range {σ : Type} {r : Addr} {a₀ b₀ st : Int} {t₀ u₀ v₀ : Tok} {n : Nat} {m₀ : Str → Option Value} (Led : σ → List (Addr × Obj)) (ps : σ → List (Str × Value)) (stored : List Str) (P : Nat → σ → Prop) (c₀ : σ)
    (hh : A.handled = none) (hr : IsRange s.heap r a₀ b₀ st t₀ u₀ v₀) (hsmall : Builtin.Range.small a₀ b₀ st = true) (hn : Builtin.Range.rangeSize a₀ b₀ st = (n : Int)) (F : Fr h₀ env.locals s.heap m₀) (N : News h₀ env.locals s.heap (Led c₀)) (hk : ∀ p ∈ ps c₀, m₀ p.1 = some p.2) (hp : P 0 c₀)
    (turn : ∀ (c : σ) (i : Nat) t (u : Str → Option Value) h tk own, i < n → OwnOff own ((Led c).map (·.1)) → P i c →
      Fr h₀ env.locals h (fun y => if y = x then some (.int (a₀ + (i : Int) * st) t) else kstB (fun z => if stored.contains z then u z else m₀ z) (ps c) y) → News h₀ env.locals h (Led c ++ own) →
      wpAny (model prog w) A (execs body env) (GPost h₀ env.locals (KstS Led ps (fun _ => True) x stored m₀ (fun _ => P (i + 1)) []) own { s with heap := h, toks := tk } Q) E { s with heap := h, toks := tk })
    (done : ∀ (c : σ) (u : Str → Option Value) h tk, P n c → Fr h₀ env.locals h (fun y => if y = x then u y else kstB (fun z => if stored.contains z then u z else m₀ z) (ps c) y) → News h₀ env.locals h (Led c) → Q .next { s with heap := h, toks := tk }) :
    wpAny (model prog w) A (pyIter (.ref r)) (fun it s₂ => LoopAtV prog w A h₀ env x body Q E it s₂) E s := by
  refine wpAny_pyIter_range hr hsmall ?_
  have W : Walks prog w A s.heap.objs.size [s.heap.objs.size] [s.heap.objs.size] n (fun i v => i < n ∧ ∃ t, v = .int (a₀ + i * st) t)
      (fun i h => IsRangeIter h s.heap.objs.size (a₀ + (i : Nat) * st) ((n : Int) - (i : Nat)) st) := (Walks.range hh _ a₀ st n).bound
  refine loop_invG (fun i m nx => KstS Led ps (fun _ => True) x stored m₀ (fun _ => P i) [] m nx) W ?_ (next_is_new F) ?_ ?_ (fun i h st => ⟨_, st⟩) (by show IsRangeIter _ _ _ _ _; rw [hn]; simpa using Heap.get?_push_size _ rfl) (F.push _) (fun p hp => ⟨Heap.get?_push_of_some _ (N p hp).1, (N p hp).2⟩) ⟨c₀, rfl, trivial, hk, fun _ _ _ _ => rfl, hp⟩ ?_ ?_
  · intro hm
    exact absurd F.ns.lt ((List.mem_singleton.mp hm) ▸ Nat.lt_irrefl _)
  · intro p hp hI
    exact absurd (Heap.lt_size (N p hp).1) (hI ▸ Nat.lt_irrefl _)
  · intro b hb hne
    exact absurd (List.mem_singleton.mp hb) hne
  · rintro i v m₁ nx h tk own hi ⟨_, t, rfl⟩ hoff ⟨c, rfl, _, h1, h2, hp'⟩ F₁ N₁
    exact turn c i t m₁ h tk own hi hoff hp' (kst_fr h1 h2 F₁) N₁
  · rintro m₁ nx h tk ⟨c, rfl, _, h1, h2, hp'⟩ F₁ N₁
    exact done c m₁ h tk hp' (kst_frOut h1 h2 F₁) N₁
end
end Mine
namespace Mine
theorem upd_first {R H : Addr} {o o' x : Obj} {rest : Led} (hne : R ≠ H) (hoff : OwnOff rest [R, H]) : Upd R o o' ((R, o) :: (H, x) :: rest) ((R, o') :: (H, x) :: rest) := by
  refine .head fun p hp => ?_
  cases List.mem_cons.mp hp with
  | inl e => rw [e]; exact fun e => hne e.symm
  | inr e => exact hoff p e R (.head _)
theorem upd_second {R H : Addr} {o o' x : Obj} {rest : Led} (hne : R ≠ H) (hoff : OwnOff rest [R, H]) : Upd H o o' ((R, x) :: (H, o) :: rest) ((R, x) :: (H, o') :: rest) :=
  .tail hne (.head fun p hp => hoff p hp H (.tail _ (.head _)))
local macro_rules | `(tactic| k_upd) => `(tactic| first | exact upd_first (by assumption) (by assumption) | exact upd_second (by assumption) (by assumption))
theorem updF_first {R H : Addr} {o x : Obj} {rest : Led} (hne : R ≠ H) (hoff : OwnOff rest [R, H]) : UpdF R o ((R, o) :: (H, x) :: rest) (fun o' => (R, o') :: (H, x) :: rest) := by
  refine .head fun p hp => ?_
  cases List.mem_cons.mp hp with
  | inl e => rw [e]; exact fun e => hne e.symm
  | inr e => exact hoff p e R (.head _)
theorem updF_upd {d : Addr} {o o' : Obj} {news : Led} {g : Obj → Led} (U : UpdF d o news g) : Upd d o o' news (g o') := by
  induction U with
  | head h => exact .head h
  | tail h _ ih => exact .tail h ih
local macro_rules | `(tactic| k_updF) => `(tactic| exact updF_first (by assumption) (by assumption))
theorem del_delL : ∀ {l : List Value} {k : Nat}, k < l.length → ki_delL l k = some (l.eraseIdx k)
  | [], _, h => absurd h (Nat.not_lt_zero _)
  | _ :: _, 0, _ => rfl
  | x :: r, k + 1, h => by
    have := del_delL (l := r) (k := k) (Nat.lt_of_succ_lt_succ h)
    unfold ki_delL
    rw [this]; rfl
theorem ints_erase : ∀ {vs : List Value} {ns : List Int}, IntsAre vs ns → ∀ j : Nat, IntsAre (vs.eraseIdx j) (ns.eraseIdx j)
  | _, _, .nil, _ => .nil
  | _, _, .cons _ _ h, 0 => h
  | _, _, .cons i t h, j + 1 => .cons i t (ints_erase h j)
theorem erase_sorted {ns : List Int} (h : ns.Pairwise (· ≤ ·)) (k : Nat) : (ns.eraseIdx k).Pairwise (· ≤ ·) := h.sublist (List.eraseIdx_sublist ns k)
theorem erase_len {ns : List Int} {k : Nat} (h : ns.length ≤ 8) : (ns.eraseIdx k).length ≤ 8 := Nat.le_trans (List.Sublist.length_le (List.eraseIdx_sublist ns k)) h
end Mine
namespace Mine
/-- how many turns the loop of _law_ones takes -/
noncomputable def onesN (last wd : Int) : Nat := (Builtin.Range.rangeSize wd (last + 1) (2 * wd)).toNat
theorem rs_all : ∀ e < 3, ∀ k < 8, Builtin.Range.small (2 ^ e : Int) ((k : Nat) + 1 : Int) (2 * 2 ^ e) = true ∧ Builtin.Range.rangeSize (2 ^ e : Int) ((k : Nat) + 1 : Int) (2 * 2 ^ e) = ((Builtin.Range.rangeSize (2 ^ e : Int) ((k : Nat) + 1 : Int) (2 * 2 ^ e)).toNat : Int) ∧ (Builtin.Range.rangeSize (2 ^ e : Int) ((k : Nat) + 1 : Int) (2 * 2 ^ e)).toNat ≤ 4 := by decide +kernel
theorem rs_facts {p wd last : Int} (hp : 0 ≤ p ∧ p ≤ 3) (hwd : 1 * 2 ^ p.toNat = wd) (hw1 : 1 ≤ wd ∧ wd ≤ 4) (hl : 0 ≤ last ∧ last ≤ 7) :
    Builtin.Range.small wd (last + 1) (2 * wd) = true ∧ Builtin.Range.rangeSize wd (last + 1) (2 * wd) = (onesN last wd : Int) ∧ onesN last wd ≤ 4 := by
  have hp3 : p.toNat ≠ 3 := by
    intro h
    rw [h] at hwd
    have : (1 * 2 ^ 3 : Int) = 8 := by decide
    omega
  have h := rs_all p.toNat (by omega) last.toNat (by omega)
  have e1 : ((last.toNat : Nat) : Int) = last := by omega
  have e2 : (2 ^ p.toNat : Int) = wd := by rw [← hwd, Int.one_mul]
  rw [e1, e2] at h
  exact h
/-- the stretch of the row that turn i finds -/
noncomputable def onesS (row : List Int) (wd : Int) (i : Nat) : List Int := (row.drop (bl row (wd + (i : Int) * (2 * wd)))).take (min (bl row (wd + (i : Int) * (2 * wd) + wd)) row.length - bl row (wd + (i : Int) * (2 * wd)))
noncomputable def onesG (row : List Int) (wd : Int) : Nat → List Int
  | 0 => []
  | i + 1 => onesG row wd i ++ onesS row wd i
theorem onesG_len (row : List Int) (wd : Int) (h : row.length ≤ 4) : ∀ i, (onesG row wd i).length ≤ 4 * i
  | 0 => Nat.le_refl _
  | i + 1 => by
    have := onesG_len row wd h i
    have h2 : (onesS row wd i).length ≤ row.length := by
      unfold onesS
      rw [List.length_take, List.length_drop]; omega
    unfold onesG
    rw [List.length_append]; omega
/-- what _law_ones finds -/
noncomputable def onesF (row : List Int) (wd : Int) : List Int := onesG row wd (onesN (row.getD (-1 + (row.length : Int)).toNat 0) wd)
end Mine
namespace Mine
section
variable {prog : Program} {w : World} {A : Around} {E : Value → Shared → Prop} {s : Shared} {env : Env} {h₀ : Heap} {target : PySem.Expr} {body : List Stmt} {Q : Flow → Shared → Prop}
end
section
variable {prog : Program} {w : World} {A : Around} {h₀ : Heap} {L : Addr} {m : Str → Option Value} {env : Env} {elt : PySem.Expr} {x : Str} {scope : Scope} {cl : List (Str × Addr)} {s : Shared} {S : List (Addr × Obj) → Prop} {P : Nat → Value → Prop} {Fin : List Value → List (Addr × Obj) → Prop} {news : List (Addr × Obj)}
end
end Mine
namespace Mine
theorem runs_grow {M : Model} {Γ : PySem.Ctx} {p : Pos} {t : Sem Fin} {fs : List Frame} {s s' : Shared} {e : End} (h : Runs M Γ p t fs s e s') : s.toks ≤ s'.toks := by
  induction h <;> first | exact Nat.le_refl _ | assumption | omega | (simp only [Shared.setGen] at *; omega)
theorem wakes_grow {M : Model} {Γ : PySem.Ctx} {p : Pos} {g : Nat} {r : Resume} {s s' : Shared} {res : GenResult} (h : Wakes M Γ p g r s res s') : s.toks ≤ s'.toks := by
  unfold Wakes at h
  split at h
  · exact h.elim
  · split at h
    · obtain ⟨e₁, s₁, h, _, _, rfl⟩ := h; (have h' := runs_grow h); exact h'
    · obtain ⟨_, rfl⟩ := h; exact Nat.le_refl _
    · obtain ⟨_, rfl⟩ := h; exact Nat.le_refl _
  · obtain ⟨e₁, s₁, h, _, _, rfl⟩ := h; (have h' := runs_grow h); exact h'
  · obtain ⟨_, rfl⟩ := h; exact Nat.le_refl _
  · obtain ⟨_, rfl⟩ := h; exact Nat.le_refl _
theorem wp_grow {α : Type} {M : Model} {Γ : PySem.Ctx} {Q : α → Pos → Shared → Prop} {E : Value → Pos → Shared → Prop} (t : Sem α) : ∀ (n : Nat) (p : Pos) (s : Shared), n ≤ s.toks → Sem.wp M Γ t (fun a p' s' => n ≤ s'.toks → Q a p' s') E p s → Sem.wp M Γ t Q E p s := by
  induction t with
  | pure x => exact fun n p s hn h => h hn
  | raise v => exact fun n p s hn h => h
  | unsupported | finish | yield | fork | await | register => exact fun n p s hn h => h
  | rule _ k ih | «at» _ k ih | alloc _ k ih | loadIfAlive _ k ih | point _ k ih | ask k ih | os _ _ k ih | handled _ k ih | newGen _ k ih | stack k ih | thread k ih => exact fun n p s hn h => ih _ n _ _ hn h
  | fresh k ih => exact fun n p s hn h => ih _ n _ _ (Nat.le_succ_of_le hn) h
  | load a _ k ih | genState a k ih => exact fun n p s hn ⟨o, ho, h⟩ => ⟨o, ho, ih _ n _ _ hn h⟩
  | update a _ f k ih | choose _ _ k ih => exact fun n p s hn ⟨ha, h⟩ => ⟨ha, ih _ n _ _ hn h⟩
  | call c h g l k ih => exact fun n p s hn ⟨r, s', hr, h⟩ => ⟨r, s', hr, ih _ n _ _ (Nat.le_trans hn (runs_grow hr)) h⟩
  | resume g r l k ih => exact fun n p s hn ⟨res, s', hw, h⟩ => ⟨res, s', hw, ih _ n _ _ (Nat.le_trans hn (wakes_grow hw)) h⟩
/-- a tree's end never knows fewer tokens than its start -/
theorem wpAny_grow {α : Type} {M : Model} {A : Around} {t : Sem α} {Q : α → Shared → Prop} {E : Value → Shared → Prop} {s : Shared} (h : wpAny M A t (fun a s' => s.toks ≤ s'.toks → Q a s') E s) : wpAny M A t Q E s :=
  fun Γ p hΓ => wp_grow t s.toks p s (Nat.le_refl _) (h Γ p hΓ)
theorem is_int {M : Model} {A : Around} {E : Value → Shared → Prop} {s : Shared} {p q : Int} {t u : Tok} {Q : Value → Shared → Prop} (hp : 0 ≤ p ∧ p ≤ 7) (h0 : (t == 0 || u == 0) = false) (hne : p ≠ q → t ≠ u) (h : Q (.bool (decide (p = q))) s) :
    wpAny M A (compareOp .Is (.int p t) (.int q u)) Q E s := by
  by_cases e : p = q
  · subst e
    have hs : smallInt p = true := by unfold smallInt; simp only [Bool.and_eq_true, decide_eq_true_eq]; omega
    show wpAny M A (do return .bool (← (if p == p && smallInt p then isSame.cachedInt t u else isSame.created (p == p) t u))) Q E s
    rw [beq_self_eq_true, hs]
    simp only [Bool.and_self, if_true]
    unfold isSame.cachedInt
    rw [h0]
    simp only [Bool.false_eq_true, if_false]
    rw [decide_eq_true rfl] at h
    exact wpAny_bind (wpAny_bind (wpAny_rule (wpAny_pure (wpAny_pure h))))
  · have hb : (p == q) = false := beq_eq_false_iff_ne.mpr e
    have htu : (t == u) = false := beq_eq_false_iff_ne.mpr (hne e)
    show wpAny M A (do return .bool (← (if p == q && smallInt p then isSame.cachedInt t u else isSame.created (p == q) t u))) Q E s
    rw [hb]
    simp only [Bool.false_and, Bool.false_eq_true, if_false]
    unfold isSame.created
    rw [h0, htu]
    simp only [Bool.false_eq_true, if_false, Bool.not_false, if_true]
    rw [decide_eq_false e] at h
    exact wpAny_bind (wpAny_pure (wpAny_pure h))
theorem gen_toks {α : Type} {M : Model} {A : Around} {t : Sem α} {Q : α → Shared → Prop} {E : Value → Shared → Prop} {hp : Heap} {g : Array GenState} {d : Drawn} {o : OsState} {k n : Nat} (h : ∀ tk : Nat, k + n ≤ tk → wpAny M A t Q E ⟨hp, g, d, tk, o⟩) : wpAny M A t Q E ⟨hp, g, d, k + n, o⟩ := h _ (Nat.le_refl _)
end Mine
namespace Mine
/-- a turn's end that knows its tokens -/
noncomputable def TEnd (h₀ : Heap) (L : Addr) (J : Nat → (Str → Option Value) → Led → Prop) (own : Led) (s₁ s₂ : Shared) : Prop :=
  ∃ h' tk m' news' nx, s₂ = { s₁ with heap := h', toks := tk } ∧ Fr h₀ L h' m' ∧ News h₀ L h' news' ∧ (∀ p ∈ nx, p ∈ news') ∧ (∀ p ∈ own, p ∈ news') ∧ OwnOff own (nx.map (·.1)) ∧ J tk m' nx
noncomputable def TPost (h₀ : Heap) (L : Addr) (J : Nat → (Str → Option Value) → Led → Prop) (own : Led) (s₁ : Shared) (Q : Flow → Shared → Prop) (f : Flow) (s₂ : Shared) : Prop :=
  match f with
  | .ret v => Q (.ret v) s₂
  | .brk => Q .next s₂
  | _ => TEnd h₀ L J own s₁ s₂
/-- the loop that stands at its iterator -/
noncomputable def ForAt (prog : Program) (w : World) (A : Around) (env : Env) (target : PySem.Expr) (body : List Stmt) (Q : Flow → Shared → Prop) (E : Value → Shared → Prop) (it : Value) (s₂ : Shared) : Prop :=
  codeAny (model prog w) A (.forLoop target it body [] env) (fun r s' => match r with | .ok f => Q f s' | .error e => cameBackBy (model prog w) A env E e s') s₂
section
variable {prog : Program} {w : World} {A : Around} {E : Value → Shared → Prop} {s : Shared} {env : Env} {h₀ : Heap} {target : PySem.Expr} {body : List Stmt} {Q : Flow → Shared → Prop}
theorem For_T {iter : PySem.Expr} {pos : Pos} (h : wpAny (model prog w) A (eval iter env) (fun xv s₁ => wpAny (model prog w) A (pyIter xv) (fun it s₂ => ForAt prog w A env target body Q E it s₂) E s₁) E s)
    (hs : ∀ x, foldedSetIterable iter env x = pure x := by intro _; rfl) :
    wpAny (model prog w) A (exec (.For target iter body [] pos) env) Q E s := wpAny_For h hs
theorem for_T {I : Addr} {fp : List Addr} {n : Nat} {P : Nat → Value → Prop} {St : Nat → Heap → Prop} {m₀ : Str → Option Value} {news : Led} (Wk : Walks prog w A I fp [I] n P St)
    (hgo : ∀ i v (s : Shared) (Q : Unit → Shared → Prop) (E : Value → Shared → Prop), St i s.heap → Q () s → wpAny (model prog w) A (letOwnedTupleGo target (.ref I) v) Q E s)
    (hI : ∀ i h, St i h → ∃ o, h.get? I = some o) (hI0 : h₀.get? I = none) (hLf : env.locals ∉ fp) (J : Nat → Nat → (Str → Option Value) → Led → Prop) (hup : ∀ i k k' m nx, k ≤ k' → J i k m nx → J i k' m nx)
    (hfp : ∀ b ∈ fp, b = I ∨ ∃ o, ∀ i k m nx, J i k m nx → (b, o) ∈ nx) (hst : St 0 s.heap) (F : Fr h₀ env.locals s.heap m₀) (N : News h₀ env.locals s.heap news) (off : ∀ p ∈ news, p.1 ≠ I) (hj : J 0 s.toks m₀ news)
    (turn : ∀ i v m₁ news₁ h tk own, i < n → P i v → OwnOff own (news₁.map (·.1)) → J i tk m₁ news₁ → Fr h₀ env.locals h m₁ → News h₀ env.locals h (news₁ ++ own) →
      wpAny (model prog w) A (assign target env v) (fun _ s₂ => wpAny (model prog w) A (execs body env) (TPost h₀ env.locals (J (i + 1)) own { s with heap := h, toks := tk } Q) E s₂) E { s with heap := h, toks := tk })
    (done : ∀ m₁ news₁ h tk, J n tk m₁ news₁ → Fr h₀ env.locals h m₁ → News h₀ env.locals h news₁ → Q .next { s with heap := h, toks := tk })
    (hE : PassesOwn (model prog w) A env E) :
    ForAt prog w A env target body Q E (.ref I) s := by
  have hIf : I ∈ fp := Wk.sub I (.head _)
  have hIL : env.locals ≠ I := fun e => hLf (e ▸ hIf)
  refine codeAny_forLoop_any (fun k s' => ∃ h' tk m' news' i, s' = { s with heap := h', toks := tk } ∧ St i h' ∧ Fr h₀ env.locals h' m' ∧ News h₀ env.locals h' news' ∧ (∀ p ∈ news', p.1 ≠ I) ∧ J i tk m' news' ∧ i ≤ n ∧ k = n + 1 - i) ?_ (n + 1)
    ⟨s.heap, s.toks, m₀, news, 0, rfl, hst, F, N, off, hj, Nat.zero_le _, rfl⟩
  rintro k s' ⟨h', tk, m', news', i, rfl, hst', F', N', off', hJ, hi, rfl⟩
  have next : ∀ h₁ : Heap, (∀ b o, b ∉ [I] → h'.get? b = some o → h₁.get? b = some o) → Fr h₀ env.locals h₁ m' ∧ News h₀ env.locals h₁ news' := fun h₁ hk₁ =>
    ⟨LCg.fr_but F' hk₁ hIL hI0, LCg.news_but N' hk₁ off'⟩
  by_cases hlt : i < n
  · refine wpAny_grow (Wk.item i _ _ _ hlt hst' fun v h₁ tk₁ hP hst₁ hk₁ htk => ?_)
    refine hgo _ v _ _ _ hst₁ ?_
    obtain ⟨F₁, N₁⟩ := next h₁ hk₁
    obtain ⟨oI, hoI⟩ := hI _ _ hst₁
    have hsep : OwnOff [(I, oI)] (news'.map (·.1)) := by
      intro p hp b hb e
      obtain ⟨q, hq, rfl⟩ := List.mem_map.mp hb
      rw [List.mem_singleton.mp hp] at e
      exact off' q hq e.symm
    have N₂ : News h₀ env.locals h₁ (news' ++ [(I, oI)]) := fun p hp => by
      rcases List.mem_append.mp hp with hp | hp
      · exact N₁ _ hp
      · rw [List.mem_singleton.mp hp]; exact ⟨hoI, fun e => hIL e.symm, hI0⟩
    have fin : ∀ s₂, TEnd h₀ env.locals (J (i + 1)) [(I, oI)] { s with heap := h₁, toks := tk₁ } s₂ → ∃ m, m < n + 1 - i ∧ ∃ h' tk m' news' j, s₂ = { s with heap := h', toks := tk } ∧ St j h' ∧ Fr h₀ env.locals h' m' ∧ News h₀ env.locals h' news' ∧ (∀ p ∈ news', p.1 ≠ I) ∧ J j tk m' news' ∧ j ≤ n ∧ m = n + 1 - j := by
      rintro s₂ ⟨h₂, tk₂, m₂, all, nx, rfl, F₂, N₂', hn, ho, ha, hJ₂⟩
      refine ⟨n + 1 - (i + 1), by omega, h₂, tk₂, m₂, nx, i + 1, rfl, ?_, F₂, fun p hp => N₂' _ (hn p hp), fun p hp e => ha _ (.head _) p.1 (List.mem_map.mpr ⟨p, hp, rfl⟩) e.symm, hJ₂, hlt, rfl⟩
      refine Wk.frame _ _ _ hst₁ fun b hb o e => ?_
      rcases hfp b hb with rfl | ⟨o', ho'⟩
      · rw [hoI] at e
        rw [← Option.some.inj e]
        exact (N₂' _ (ho _ (.head _))).1
      · have h3 := (N₁ _ (ho' _ _ _ _ hJ)).1
        have h4 : o' = o := Option.some.inj (h3.symm.trans e)
        subst h4
        exact (N₂' _ (hn _ (ho' _ _ _ _ hJ₂))).1
    refine wpAny_mono (turn i v m' news' h₁ tk₁ [(I, oI)] hlt hP hsep (hup _ _ _ _ _ htk hJ) F₁ N₂) (fun _ s₂ h₂ => wpAny_mono h₂ (fun f s₃ p => ?_) hE) hE
    cases f with
    | ret v => exact p
    | brk => exact p
    | next => exact fin _ p
    | cont => exact fin _ p
  · have hin : i = n := by omega
    subst hin
    refine wpAny_grow (Wk.done _ _ _ hst' fun h₁ tk₁ hk₁ htk => wpAny_execs_nil ?_)
    obtain ⟨F₁, N₁⟩ := next h₁ hk₁
    exact done _ _ _ _ (hup _ _ _ _ _ htk hJ) F₁ N₁
theorem list_T {l : Addr} {vs : List Value} {nn : Nat} {m₀ : Str → Option Value} {news : Led} (J : Nat → Nat → (Str → Option Value) → Led → Prop) (hJ : ∀ i k m nx, J i k m nx → (l, W.listOf vs.toArray nn) ∈ nx) (hup : ∀ i k k' m nx, k ≤ k' → J i k m nx → J i k' m nx)
    (hh : A.handled = none) (F : Fr h₀ env.locals s.heap m₀) (N : News h₀ env.locals s.heap news) (hj : J 0 s.toks m₀ news)
    (turn : ∀ i v m₁ news₁ h tk own, vs[i]? = some v → OwnOff own (news₁.map (·.1)) → J i tk m₁ news₁ → Fr h₀ env.locals h m₁ → News h₀ env.locals h (news₁ ++ own) →
      wpAny (model prog w) A (assign target env v) (fun _ s₂ => wpAny (model prog w) A (execs body env) (TPost h₀ env.locals (J (i + 1)) own { s with heap := h, toks := tk } Q) E s₂) E { s with heap := h, toks := tk })
    (done : ∀ m₁ news₁ h tk, J vs.length tk m₁ news₁ → Fr h₀ env.locals h m₁ → News h₀ env.locals h news₁ → Q .next { s with heap := h, toks := tk })
    (hE : PassesOwn (model prog w) A env E := by passes_own) :
    wpAny (model prog w) A (pyIter (.ref l)) (fun it s₂ => ForAt prog w A env target body Q E it s₂) E s := by
  have hl := hJ _ _ _ _ hj
  have hol : s.heap.get? l = some (W.listOf vs.toArray nn) := (N _ hl).1
  have hls : s.heap.IsList l vs.toArray := ⟨_, hol, rfl, nn, rfl⟩
  have hne : l ≠ s.heap.objs.size := Nat.ne_of_lt (Heap.lt_size hol)
  refine wpAny_pyIter_list hls ?_
  have Wk := Walks.list (prog := prog) (w := w) hh s.heap.objs.size l hne vs.toArray
  have hlen : vs.toArray.size = vs.length := by simp
  rw [hlen] at Wk
  refine for_T Wk (fun i v s Q E st q => letGo_listiter st.1 q) (fun i h st => by obtain ⟨o, e, _⟩ := st.1; exact ⟨o, e⟩) (next_is_new F) ?_ J hup ?_ ⟨⟨_, Heap.get?_push_size _ rfl, rfl, rfl⟩, hls.at fun o e => Heap.get?_push_of_some _ e⟩ (F.push _) (fun p hp => ⟨Heap.get?_push_of_some _ (N p hp).1, (N p hp).2⟩) (fun p hp => Nat.ne_of_lt (Heap.lt_size (N p hp).1)) hj ?_ (fun m₁ news₁ h tk hJ F N => done m₁ news₁ h tk hJ F N) hE
  · intro hm
    rcases List.mem_cons.mp hm with e | hm
    · exact absurd F.ns.lt (e ▸ Nat.lt_irrefl _)
    · exact (N _ hl).2.1 ((List.mem_singleton.mp hm).symm)
  · intro b hb
    rcases List.mem_cons.mp hb with e | hb
    · exact .inl e
    · rw [List.mem_singleton.mp hb]; exact .inr ⟨_, hJ⟩
  · intro i v m₁ news₁ h tk own hi hP ho hj F N
    exact turn i v m₁ news₁ h tk own (by simpa using hP) ho hj F N
theorem range_T {r : Addr} {a₀ b₀ st : Int} {t₀ u₀ v₀ : Tok} {n : Nat} {m₀ : Str → Option Value} {news : Led} (J : Nat → Nat → (Str → Option Value) → Led → Prop) (hup : ∀ i k k' m nx, k ≤ k' → J i k m nx → J i k' m nx)
    (hh : A.handled = none) (hr : IsRange s.heap r a₀ b₀ st t₀ u₀ v₀) (hsmall : Builtin.Range.small a₀ b₀ st = true) (hn : Builtin.Range.rangeSize a₀ b₀ st = (n : Int)) (F : Fr h₀ env.locals s.heap m₀) (N : News h₀ env.locals s.heap news) (hj : J 0 s.toks m₀ news)
    (turn : ∀ (i : Nat) t m₁ news₁ h tk own, i < n → OwnOff own (news₁.map (·.1)) → J i tk m₁ news₁ → Fr h₀ env.locals h m₁ → News h₀ env.locals h (news₁ ++ own) →
      wpAny (model prog w) A (assign target env (.int (a₀ + (i : Int) * st) t)) (fun _ s₂ => wpAny (model prog w) A (execs body env) (TPost h₀ env.locals (J (i + 1)) own { s with heap := h, toks := tk } Q) E s₂) E { s with heap := h, toks := tk })
    (done : ∀ m₁ news₁ h tk, J n tk m₁ news₁ → Fr h₀ env.locals h m₁ → News h₀ env.locals h news₁ → Q .next { s with heap := h, toks := tk })
    (hE : PassesOwn (model prog w) A env E := by passes_own) (ht : ∀ r v, letOwnedTupleGo target r v = pure () := by intro _ _; rfl) :
    wpAny (model prog w) A (pyIter (.ref r)) (fun it s₂ => ForAt prog w A env target body Q E it s₂) E s := by
  refine wpAny_pyIter_range hr hsmall ?_
  have Wk : Walks prog w A s.heap.objs.size [s.heap.objs.size] [s.heap.objs.size] n (fun i v => i < n ∧ ∃ t, v = .int (a₀ + i * st) t)
      (fun i h => IsRangeIter h s.heap.objs.size (a₀ + (i : Nat) * st) ((n : Int) - (i : Nat)) st) := (Walks.range hh _ a₀ st n).bound
  refine for_T Wk (fun i v s Q E _ q => wpAny_of_eq (ht _ _) q) (fun i h st => ⟨_, st⟩) (next_is_new F) ?_ J hup (fun b hb => .inl (List.mem_singleton.mp hb)) (by show IsRangeIter _ _ _ _ _; rw [hn]; simpa using Heap.get?_push_size _ rfl) (F.push _) (fun p hp => ⟨Heap.get?_push_of_some _ (N p hp).1, (N p hp).2⟩) (fun p hp => Nat.ne_of_lt (Heap.lt_size (N p hp).1)) hj ?_ (fun m₁ news₁ h tk hJ F N => done m₁ news₁ h tk hJ F N) hE
  · intro hm
    exact absurd F.ns.lt ((List.mem_singleton.mp hm) ▸ Nat.lt_irrefl _)
  · rintro i v m₁ news₁ h tk own hi ⟨_, t, rfl⟩ ho hj F N
    exact turn i t m₁ news₁ h tk own hi ho hj F N
end
end Mine
namespace Mine
section
variable {prog : Program} {w : World} {A : Around} {E : Value → Shared → Prop} {s : Shared} {h₀ : Heap} {L : Addr} {m : Str → Option Value} {env : Env}
/-- an element's end: its value keeps what K says, and the ledger stands -/
noncomputable def ElEnd (h₀ : Heap) (L : Addr) (m : Str → Option Value) (s₁ : Shared) (all : Led) (K : Nat → Value → Prop) (y : Value) (s₂ : Shared) : Prop :=
  ∃ h' tk, s₂ = { s₁ with heap := h', toks := tk } ∧ Fr h₀ L h' m ∧ News h₀ L h' all ∧ K tk y
/-- the list that a comprehension goes through, and what its elements keep -/
noncomputable def CSrcT (prog : Program) (w : World) (A : Around) (h₀ : Heap) (L : Addr) (m : Str → Option Value) (env : Env) (elt : PySem.Expr) (x : Str) (scope : Scope) (cl : List (Str × Addr)) (Q : Value → Shared → Prop) (xv : Value) (s₁ : Shared) : Prop :=
  ∃ (l : Addr) (vs : List Value) (nn : Nat) (news : Led), xv = .ref l ∧ A.handled = none ∧ Fr h₀ L s₁.heap m ∧ News h₀ L s₁.heap news ∧ (l, W.listOf vs.toArray nn) ∈ news ∧ vs.length ≤ 1000 ∧
      ∃ K : Nat → List Value → Prop, K s₁.toks [] ∧ (∀ k k' ys, k ≤ k' → K k ys → K k' ys) ∧
        (∀ i v ys I oI C oC D m₂ h tk (E' : Value → Shared → Prop), vs[i]? = some v → ys.length = i → K tk ys → LCg.NsObj oC m₂ → m₂ x = some v → Fr h₀ L h m → News h₀ L h ((I, oI) :: (C, oC) :: (D, LCg.lst ys) :: news) → LCg.Off3 I C D news → ((@Ne Nat I C) ∧ (@Ne Nat I D) ∧ (@Ne Nat C D)) →
          wpAny (model prog w) A (eval elt (compEnvC scope cl C env)) (ElEnd h₀ L m { s₁ with heap := h, toks := tk } ((I, oI) :: (C, oC) :: (D, LCg.lst ys) :: news) (fun tk y => K tk (ys ++ [y]))) E' { s₁ with heap := h, toks := tk }) ∧
        (∀ D h tk ys, K tk ys → ys.length = vs.length → Fr h₀ L h m → News h₀ L h ((D, LCg.lst ys) :: news) → LCg.Off1 D news → Q (.ref D) { s₁ with heap := h, toks := tk })
theorem comp_T {elt iter : PySem.Expr} {x : Str} {px : Pos} {scope : Scope} {cl : List (Str × Addr)} {pos : Pos} {Q : Value → Shared → Prop} (F₀ : Fr h₀ L s.heap m)
    (hclos : closureFor scope env = pure cl) (hcell : ∀ y ∈ scope.names, y.2 ≠ .cell) (hkind : scope.kind = .function)
    (hnames : ∀ y ∈ scope.names, y.2 = .local → scope.names.lookup y.1 = some .local) (hx : scope.names.lookup x = some .local)
    (h : wpAny (model prog w) A (eval iter env) (CSrcT prog w A h₀ L m env elt x scope cl Q) E s)
    (hs : ∀ x, foldedSetIterable iter env x = pure x := by intro _; rfl) :
    wpAny (model prog w) A (eval (.ListComp elt [⟨.Name x px, iter, [], 0⟩] scope pos) env) Q E s := by
  rw [eval_ListComp]
  refine wpAny_comprehension_free (use := none) rfl hs hclos hkind hnames (wpAny_mono h (fun xv s₁ h₁ => ?_) fun _ _ e => e)
  obtain ⟨l, vs, nn, news, rfl, hh, F, N, hl, hlen, K, hK0, hKup, turn, fin⟩ := h₁
  have hol := (N _ hl).1
  have hls : s₁.heap.IsList l vs.toArray := ⟨_, hol, rfl, nn, rfl⟩
  have hlt : l < s₁.heap.objs.size := Heap.lt_size hol
  refine wpAny_pyIter_list hls ?_
  generalize hI : s₁.heap.objs.size = I
  have hlI : @LT.lt Nat _ l I := ltN (hI ▸ hlt)
  have hne : l ≠ I := Nat.ne_of_lt hlI
  have Wk := Walks.list (prog := prog) (w := w) hh I l hne vs.toArray
  refine wpAny_newObj_type (wpAny_newFunctionEnv hcell (by intro y hy; simp at hy) (fun h₁ hns₁ hsb₁ => ?_) hkind)
  dsimp only at hns₁ hsb₁ ⊢
  generalize hH1 : s₁.heap.push { cls := .type "list_iterator", dict := none, data := .fields #[.ref l, .int 0 0] } = H1 at hns₁ hsb₁ ⊢
  generalize hH2 : H1.push { cls := .type "list", dict := none, data := .seq ([] : List Value).toArray } = H2 at hns₁ hsb₁ ⊢
  have z1 : H1.objs.size = I + 1 := by rw [← hH1, Heap.size_push, hI]
  have z2 : H2.objs.size = I + 2 := by rw [← hH2, Heap.size_push, z1]
  rw [z2] at hns₁ hsb₁ ⊢
  rw [z1]
  have up1 : ∀ b o, s₁.heap.get? b = some o → H1.get? b = some o := fun b o e => hH1 ▸ Heap.get?_push_of_some _ e
  have up2 : ∀ b o, H1.get? b = some o → H2.get? b = some o := fun b o e => hH2 ▸ Heap.get?_push_of_some _ e
  have up3 : ∀ b o, H2.get? b = some o → h₁.get? b = some o := fun b o e => by
    have hb : @LT.lt Nat _ b (I + 2) := ltN (z2 ▸ Heap.lt_size e)
    exact hsb₁.extBut b o (neN (by omega)) (Heap.get?_push_of_some _ e)
  have old : ∀ b o, s₁.heap.get? b = some o → h₁.get? b = some o := fun b o e => up3 b o (up2 b o (up1 b o e))
  have hit : h₁.get? I = some { cls := .type "list_iterator", dict := none, data := .fields #[.ref l, .int 0 0] } := up3 _ _ (up2 _ _ (by rw [← hH1, ← hI]; exact Heap.get?_push_size _ rfl))
  have hacc : h₁.get? (I + 1) = some (LCg.lst []) := up3 _ _ (by rw [← hH2, ← z1]; exact Heap.get?_push_size _ rfl)
  have fresh₀ : ∀ a, I ≤ a → h₀.get? a = none := fun a ha => by
    cases e : h₀.get? a with
    | none => rfl
    | some o' => (have h9 : @LT.lt Nat _ a I := ltN (hI ▸ Heap.lt_size (F.keep a o' e))); (have h8 : @LE.le Nat _ I a := ha); omega
  have hLlt : @LT.lt Nat _ L I := ltN (hI ▸ F.ns.lt)
  have F1 : Fr h₀ L h₁ m := F.keeps old
  have hN1 : ∀ p ∈ news, @LT.lt Nat _ p.1 I := fun p hp => ltN (hI ▸ Heap.lt_size (N p hp).1)
  have hoff : LCg.Off3 I (I + 2) (I + 1) news := LCg.Off3.of fun p hp => by have := hN1 p hp; exact ⟨Nat.ne_of_lt this, Nat.ne_of_lt (Nat.lt_of_lt_of_le this (Nat.le_add_right _ _)), Nat.ne_of_lt (Nat.lt_of_lt_of_le this (Nat.le_add_right _ _))⟩
  have hlenz : vs.toArray.size = vs.length := by simp
  rw [hlenz] at Wk
  have key : ∀ s₃ : Shared, s₃ = { s₁ with heap := h₁, toks := s₁.toks + ([] : List (Str × Value)).length } →
      codeAny (model prog w) A (.compLoop (.ListComp elt [⟨.Name x px, iter, [], 0⟩] scope pos) 0 (.ref I) (.ref (I + 1)) (compEnvC scope cl (I + 2) env))
        (compPost (model prog w) A E none Q (.ref (I + 1)) (I + 2)) s₃ := by
    rintro s₃ rfl
    refine codeAny_compLoop_tests
      (fun k s' => ∃ h' tk i ys m', s' = { s₁ with heap := h', toks := tk } ∧ i ≤ vs.length ∧ k = vs.length + 1 - i ∧ ys.length = i ∧ K tk ys ∧ (h'.IsListIter I l i ∧ h'.IsList l vs.toArray) ∧ Fr h₀ L h' m ∧ h'.Ns (I + 2) m' ∧ News h₀ L h' ((I + 1, LCg.lst ys) :: news)) ?_ (vs.length + 1)
      ⟨h₁, _, 0, [], _, rfl, Nat.zero_le _, rfl, rfl, hKup _ _ _ (Nat.le_add_right _ _) hK0, ⟨⟨_, hit, rfl, rfl⟩, ⟨_, old _ _ hol, rfl, nn, rfl⟩⟩, F1, hns₁, fun p hp => ?_⟩
    · rintro k s' ⟨h', tk, i, ys, m', rfl, hi, rfl, hyl, hK, hst, F', hn', N'⟩
      have hCL : I + 2 ≠ L := neN (by omega)
      have hDL : I + 1 ≠ L := neN (by omega)
      have hDC : I + 1 ≠ I + 2 := neN (by omega)
      have offI : ∀ p ∈ (I + 1, LCg.lst ys) :: news, p.1 ≠ I := fun p hp => by
        rcases List.mem_cons.mp hp with rfl | hp
        · exact neN (a := I + 1) (b := I) (by omega)
        · exact Nat.ne_of_lt (hN1 p hp)
      by_cases hlt : i < vs.length
      · refine wpAny_grow (Wk.item i _ _ _ hlt hst fun v h₂ tk₂ hPv hst₂ hk₂ htk => ?_)
        refine wpAny_grow (wpAny_assign_Name (wpAny_storeName_local (lookup_relabel_local hx) (hn'.at' fun o e => hk₂ _ o (by simp) e) (fun h₃ hn₃ hs₃ htk₃ => ?_) (by simp [compEnvC, relabel, hkind])))
        refine wpAny_tests_nil ?_
        simp only [if_true]
        have hst₃ : h₃.IsListIter I l (i + 1) ∧ h₃.IsList l vs.toArray := Wk.frame _ _ _ hst₂ fun b hb o e => hs₃.extBut b o (fun q => by
          have q' : @Eq Nat b (I + 2) := q
          rcases List.mem_cons.mp hb with hb | hb
          · have hb' : @Eq Nat b I := hb; omega
          · have hb' : @Eq Nat b l := List.mem_singleton.mp hb; omega) e
        obtain ⟨oI, heI, _⟩ := hst₃.1
        obtain ⟨oC, heC, hoC⟩ := LCg.ns_obj hn₃
        have F₃ : Fr h₀ L h₃ m := (LCg.fr_but F' hk₂ (neN (a := L) (b := I) (by omega)) (fresh₀ _ (Nat.le_refl _))).change hs₃ hCL (fresh₀ _ (Nat.le_add_right _ _))
        have N₂ : News h₀ L h₂ ((I + 1, LCg.lst ys) :: news) := LCg.news_but N' hk₂ offI
        have N₃ : News h₀ L h₃ ((I, oI) :: (I + 2, oC) :: (I + 1, LCg.lst ys) :: news) := fun p hp => by
          rcases List.mem_cons.mp hp with rfl | hp
          · exact ⟨heI, neN (a := I) (b := L) (by omega), fresh₀ _ (Nat.le_refl _)⟩
          · rcases List.mem_cons.mp hp with rfl | hp
            · exact ⟨heC, hCL, fresh₀ _ (Nat.le_add_right _ _)⟩
            · have z := N₂ p hp
              refine ⟨hs₃.extBut _ _ ?_ z.1, z.2⟩
              rcases List.mem_cons.mp hp with rfl | hp
              · exact hDC
              · exact neN (a := p.1) (b := I + 2) (by have := hN1 p hp; omega)
        have hPv' : vs[i]? = some v := by simpa using hPv
        refine wpAny_mono (turn i v ys I oI (I + 2) oC (I + 1) _ h₃ _ _ hPv' hyl (hKup _ _ _ htk₃ (hKup _ _ _ htk hK)) hoC (by simp) F₃ N₃ hoff ⟨by omega, by omega, by omega⟩) (fun y s₄ h₄ => ?_) fun _ _ e => e
        obtain ⟨h₄, tk₄, rfl, F₄, N₄, hK₄⟩ := h₄
        have zI := (N₄ (I, oI) List.mem_cons_self).1
        have zC := (N₄ (I + 2, oC) (List.mem_cons_of_mem _ List.mem_cons_self)).1
        have zD := (N₄ (I + 1, LCg.lst ys) (List.mem_cons_of_mem _ (List.mem_cons_of_mem _ List.mem_cons_self))).1
        have N₄' : News h₀ L h₄ news := fun p hp => N₄ p (List.mem_cons_of_mem _ (List.mem_cons_of_mem _ (List.mem_cons_of_mem _ hp)))
        have hst₄ : h₄.IsListIter I l (i + 1) ∧ h₄.IsList l vs.toArray := ⟨by obtain ⟨o', q, r⟩ := hst₃.1; rw [heI] at q; cases q; exact ⟨oI, zI, r⟩, ⟨_, (N₄' _ hl).1, rfl, nn, rfl⟩⟩
        refine append_at (hsz := by show ys.toArray.size ≤ sizeLine; rw [List.size_toArray, hyl, PySem.sizeLine_eq]; omega) zD fun h₅ hs₅ hD₅ => ?_
        refine ⟨vs.length + 1 - (i + 1), by omega, h₅, tk₄, i + 1, ys ++ [y], _, rfl, hlt, rfl, by rw [List.length_append, List.length_singleton, hyl], hK₄, Wk.frame _ _ _ hst₄ fun b hb o e => hs₅.extBut b o (fun q => by
            have q' : @Eq Nat b (I + 1) := q
            rcases List.mem_cons.mp hb with hb | hb
            · have hb' : @Eq Nat b I := hb; omega
            · have hb' : @Eq Nat b l := List.mem_singleton.mp hb; omega) e, F₄.change hs₅ hDL (fresh₀ _ (Nat.le_add_right _ _)), (hoC.ns zC).sameBut hs₅ (Ne.symm hDC), fun p hp => ?_⟩
        rcases List.mem_cons.mp hp with rfl | hp
        · exact ⟨hD₅.trans (congrArg some (LCg.lst_snoc ys y)), hDL, fresh₀ _ (Nat.le_add_right _ _)⟩
        · exact ⟨hs₅.extBut _ _ (neN (a := p.1) (b := I + 1) (by have := hN1 p hp; omega)) (N₄' p hp).1, (N₄' p hp).2⟩
      · obtain rfl : i = vs.length := Nat.le_antisymm hi (Nat.not_lt.mp hlt)
        refine wpAny_grow (Wk.done _ _ _ hst fun h₂ tk₂ hk₂ htk => ?_)
        have F₂ := LCg.fr_but F' hk₂ (neN (a := L) (b := I) (by omega)) (fresh₀ _ (Nat.le_refl _))
        have N₂ := LCg.news_but N' hk₂ offI
        refine ⟨m', hn'.at' fun o e => hk₂ _ o (by simp) e, fun h'' hs'' => fin (I + 1) h'' tk₂ ys (hKup _ _ _ htk hK) hyl (F₂.change hs'' hCL (fresh₀ _ (Nat.le_add_right _ _))) (fun p hp => ?_) (LCg.Off3.one hoff)⟩
        refine ⟨hs''.extBut _ _ ?_ (N₂ p hp).1, (N₂ p hp).2⟩
        rcases List.mem_cons.mp hp with rfl | hp
        · exact hDC
        · exact neN (a := p.1) (b := I + 2) (by have := hN1 p hp; omega)
    · rcases List.mem_cons.mp hp with rfl | hp
      · exact ⟨hacc, neN (a := I + 1) (b := L) (by omega), fresh₀ _ (Nat.le_add_right _ _)⟩
      · exact ⟨old _ _ (N p hp).1, (N p hp).2⟩
  exact codeAny_compStart_list (key _ rfl) (Wk.self 0 _ _ _ ⟨⟨_, hit, rfl, rfl⟩, ⟨_, old _ _ hol, rfl, nn, rfl⟩⟩ (key _ rfl))
end
end Mine
namespace Mine
section
variable {prog : Program} {w : World} {A : Around} {E : Value → Shared → Prop} {s : Shared} {env : Env} {h₀ : Heap} {target : PySem.Expr} {body : List Stmt} {Q : Flow → Shared → Prop}
theorem tT_list {σ : Type} {l : Addr} {vs : List Value} {nn : Nat} {m₀ : Str → Option Value} (x : Str) (Led : σ → List (Addr × Obj)) (ps : σ → List (Str × Value)) (stored : List Str) (P : Nat → Nat → σ → Prop) (hup : ∀ i k k' c, k ≤ k' → P i k c → P i k' c) (c₀ : σ)
    (hl : ∀ c, (l, W.listOf vs.toArray nn) ∈ Led c) (hh : A.handled = none) (F : Fr h₀ env.locals s.heap m₀) (N : News h₀ env.locals s.heap (Led c₀)) (hk : ∀ p ∈ ps c₀, m₀ p.1 = some p.2) (hp : P 0 s.toks c₀)
    (turn : ∀ (c : σ) i v (u : Str → Option Value) h tk own, vs[i]? = some v → OwnOff own ((Led c).map (·.1)) → P i tk c →
      Fr h₀ env.locals h (fun y => if y = x then u y else kstB (fun z => if stored.contains z then u z else m₀ z) (ps c) y) → News h₀ env.locals h (Led c ++ own) →
      wpAny (model prog w) A (assign target env v) (fun _ s₂ => wpAny (model prog w) A (execs body env) (TPost h₀ env.locals (fun k m nx => KstS Led ps (fun _ => True) x stored m₀ (fun _ => P (i + 1) k) [] m nx) own { s with heap := h, toks := tk } Q) E s₂) E { s with heap := h, toks := tk })
    (done : ∀ (c : σ) (u : Str → Option Value) h tk, P vs.length tk c → Fr h₀ env.locals h (fun y => if y = x then u y else kstB (fun z => if stored.contains z then u z else m₀ z) (ps c) y) → News h₀ env.locals h (Led c) → Q .next { s with heap := h, toks := tk })
    (hE : PassesOwn (model prog w) A env E := by passes_own) :
    wpAny (model prog w) A (pyIter (.ref l)) (fun it s₂ => ForAt prog w A env target body Q E it s₂) E s := by
  refine list_T (l := l) (vs := vs) (nn := nn) (fun i k m nx => KstS Led ps (fun _ => True) x stored m₀ (fun _ => P i k) [] m nx) ?_ ?_ hh F N ⟨c₀, rfl, trivial, hk, fun _ _ _ _ => rfl, hp⟩ ?_ ?_ hE
  · rintro i k m nx ⟨c, rfl, _⟩; exact hl c
  · rintro i k k' m nx hk ⟨c, rfl, a, b, d, hp⟩; exact ⟨c, rfl, a, b, d, hup _ _ _ _ hk hp⟩
  · rintro i v m₁ nx h tk own hi hoff ⟨c, rfl, _, h1, h2, hp'⟩ F₁ N₁
    exact turn c i v m₁ h tk own hi hoff hp' (kst_frOut h1 h2 F₁) N₁
  · rintro m₁ nx h tk ⟨c, rfl, _, h1, h2, hp'⟩ F₁ N₁
    exact done c m₁ h tk hp' (kst_frOut h1 h2 F₁) N₁
theorem tT_range {σ : Type} {r : Addr} {a₀ b₀ st : Int} {t₀ u₀ v₀ : Tok} {n : Nat} {m₀ : Str → Option Value} (x : Str) (Led : σ → List (Addr × Obj)) (ps : σ → List (Str × Value)) (stored : List Str) (P : Nat → Nat → σ → Prop) (hup : ∀ i k k' c, k ≤ k' → P i k c → P i k' c) (c₀ : σ)
    (hh : A.handled = none) (hr : IsRange s.heap r a₀ b₀ st t₀ u₀ v₀) (hsmall : Builtin.Range.small a₀ b₀ st = true) (hn : Builtin.Range.rangeSize a₀ b₀ st = (n : Int)) (F : Fr h₀ env.locals s.heap m₀) (N : News h₀ env.locals s.heap (Led c₀)) (hk : ∀ p ∈ ps c₀, m₀ p.1 = some p.2) (hp : P 0 s.toks c₀)
    (turn : ∀ (c : σ) (i : Nat) t (u : Str → Option Value) h tk own, i < n → OwnOff own ((Led c).map (·.1)) → P i tk c →
      Fr h₀ env.locals h (fun y => if y = x then u y else kstB (fun z => if stored.contains z then u z else m₀ z) (ps c) y) → News h₀ env.locals h (Led c ++ own) →
      wpAny (model prog w) A (assign target env (.int (a₀ + (i : Int) * st) t)) (fun _ s₂ => wpAny (model prog w) A (execs body env) (TPost h₀ env.locals (fun k m nx => KstS Led ps (fun _ => True) x stored m₀ (fun _ => P (i + 1) k) [] m nx) own { s with heap := h, toks := tk } Q) E s₂) E { s with heap := h, toks := tk })
    (done : ∀ (c : σ) (u : Str → Option Value) h tk, P n tk c → Fr h₀ env.locals h (fun y => if y = x then u y else kstB (fun z => if stored.contains z then u z else m₀ z) (ps c) y) → News h₀ env.locals h (Led c) → Q .next { s with heap := h, toks := tk })
    (hE : PassesOwn (model prog w) A env E := by passes_own) (ht : ∀ r v, letOwnedTupleGo target r v = pure () := by intro _ _; rfl) :
    wpAny (model prog w) A (pyIter (.ref r)) (fun it s₂ => ForAt prog w A env target body Q E it s₂) E s := by
  refine range_T (fun i k m nx => KstS Led ps (fun _ => True) x stored m₀ (fun _ => P i k) [] m nx) ?_ hh hr hsmall hn F N ⟨c₀, rfl, trivial, hk, fun _ _ _ _ => rfl, hp⟩ ?_ ?_ hE ht
  · rintro i k k' m nx hk ⟨c, rfl, a, b, d, hp⟩; exact ⟨c, rfl, a, b, d, hup _ _ _ _ hk hp⟩
  · rintro i t m₁ nx h tk own hi hoff ⟨c, rfl, _, h1, h2, hp'⟩ F₁ N₁
    exact turn c i t m₁ h tk own hi hoff hp' (kst_frOut h1 h2 F₁) N₁
  · rintro m₁ nx h tk ⟨c, rfl, _, h1, h2, hp'⟩ F₁ N₁
    exact done c m₁ h tk hp' (kst_frOut h1 h2 F₁) N₁
end
theorem tT_end {σ : Type} {h₀ : Heap} {x : Str} {Led : σ → List (Addr × Obj)} {ps : σ → List (Str × Value)} {stored : List Str} {m₀ : Str → Option Value} {P : Nat → σ → Prop} (c : σ) {L : Addr} {m' : Str → Option Value} {own news' : List (Addr × Obj)} {s₁ : Shared} {h' : Heap} {tk : Nat}
    (F : Fr h₀ L h' m') (N : News h₀ L h' news') (hn : ∀ p ∈ Led c, p ∈ news') (ho : ∀ p ∈ own, p ∈ news') (ha : OwnOff own ((Led c).map (·.1))) (hk : ∀ p ∈ ps c, m' p.1 = some p.2) (hr : ∀ z, z ≠ x → (∀ p ∈ ps c, z ≠ p.1) → stored.contains z = false → m' z = m₀ z) (hp : P tk c) :
    TEnd h₀ L (fun k m nx => KstS Led ps (fun _ => True) x stored m₀ (fun _ => P k) [] m nx) own s₁ { s₁ with heap := h', toks := tk } :=
  ⟨h', tk, m', news', Led c, rfl, F, N, hn, ho, ha, c, rfl, trivial, hk, hr, hp⟩
/-- an item may be held against b by «is»: its token is no other value's -/
noncomputable def CmpOk (vs : List Value) (b : Int) (u : Tok) : Prop := u ≠ 0 ∧ ∀ v ∈ vs, ∃ i t, v = .int i t ∧ t ≠ 0 ∧ (i ≠ b → t ≠ u) ∧ 0 ≤ i ∧ i ≤ 7
end Mine
namespace Mine
noncomputable def cnt (ns : List Int) (b : Int) : Int := (ns.countP (fun a => decide (a = b)) : Nat)
theorem take_snoc {α : Type} {l : List α} {i : Nat} {a : α} (h : l[i]? = some a) : l.take (i + 1) = l.take i ++ [a] := by
  rw [List.take_add_one, h]; rfl
theorem cnt_turn1 {ns : List Int} {i : Nat} {b c k : Int} (h : c = cnt (ns.take i) b) (hk : ns[i]? = some k) (e : k = b) : c + 1 = cnt (ns.take (i + 1)) b := by
  rw [take_snoc hk, h]; unfold cnt; rw [List.countP_append]; simp [e]
theorem cnt_turn2 {ns : List Int} {i : Nat} {b c k : Int} (h : c = cnt (ns.take i) b) (hk : ns[i]? = some k) (e : k ≠ b) : c = cnt (ns.take (i + 1)) b := by
  rw [take_snoc hk, h]; unfold cnt; rw [List.countP_append]; simp [e]
theorem cnt_le (ns : List Int) (b : Int) : 0 ≤ cnt ns b ∧ cnt ns b ≤ (ns.length : Int) := by
  have h : ns.countP (fun a => decide (a = b)) ≤ ns.length := List.countP_le_length
  unfold cnt; omega
theorem cmp_at {vs : List Value} {ns : List Int} {b : Int} {u : Tok} {i : Nat} {v : Value} (hc : CmpOk vs b u) (hI : IntsAre vs ns) (h : vs[i]? = some v) :
    ∃ n t, v = .int n t ∧ ns[i]? = some n ∧ (0 ≤ n ∧ n ≤ 7) ∧ (t == 0 || u == 0) = false ∧ (n ≠ b → t ≠ u) := by
  obtain ⟨n, t, hv, hn⟩ := IntsAre.at hI i v h
  obtain ⟨j, t', hv', h0, hne, h1, h2⟩ := hc.2 v (List.mem_of_getElem? h)
  rw [hv'] at hv
  obtain ⟨rfl, rfl⟩ : j = n ∧ t' = t := by cases hv; exact ⟨rfl, rfl⟩
  refine ⟨j, t', hv', hn, ⟨h1, h2⟩, ?_, hne⟩
  rw [beq_eq_false_iff_ne.mpr h0, beq_eq_false_iff_ne.mpr hc.1]; rfl
theorem cn_end {l : Addr} {o : Obj} {news own : Led} {ns : List Int} {b c : Int} {t : Tok} {i : Nat} {h₀ h' : Heap} {L : Addr} {m' m₀ : Str → Option Value} {s₁ : Shared} {tk : Nat}
    (F : Fr h₀ L h' m') (N : News h₀ L h' ((l, o) :: news ++ own)) (hoff : OwnOff own (l :: news.map (·.1))) (h1 : m' "count" = some (.int c t)) (hr : ∀ z : Str, z ≠ "i" → z ≠ "count" → m' z = m₀ z) (hc : c = cnt (ns.take (i + 1)) b) (hl : ns.length ≤ 8) :
    TEnd h₀ L (fun _ m nx => KstS (σ := Int × Tok) (fun _ => (l, o) :: news) (fun c => [("count", .int c.1 c.2)]) (fun _ => True) "i" [] m₀ (fun _ c => c.1 = cnt (ns.take (i + 1)) b ∧ 0 ≤ c.1 ∧ c.1 ≤ 1000) [] m nx) own s₁ { s₁ with heap := h', toks := tk } := by
  have hcl := cnt_le (ns.take (i + 1)) b
  have hcl2 : (ns.take (i + 1)).length ≤ ns.length := by rw [List.length_take]; omega
  have hb : 0 ≤ c ∧ c ≤ 1000 := by omega
  refine tT_end (σ := Int × Tok) (Led := fun _ => (l, o) :: news) (ps := fun c => [("count", .int c.1 c.2)]) (P := fun _ c => c.1 = cnt (ns.take (i + 1)) b ∧ 0 ≤ c.1 ∧ c.1 ≤ 1000) (c, t) F N (fun p hp => List.mem_append_left _ hp) (fun p hp => List.mem_append_right _ hp) hoff ?_ ?_ ⟨hc, hb⟩
  · intro p hp
    rw [List.mem_singleton.mp hp]; exact h1
  · intro z hz hps _
    exact hr z hz (hps _ (.head _))
theorem count_spec {w : World} {news : Led} {l : Addr} {n : Nat} {vs : List Value} {ns : List Int} {b : Int} {t : Tok} (hm : (l, W.listOf vs.toArray n) ∈ news) (hI : IntsAre vs ns) (hl : ns.length ≤ 8) (hc : CmpOk vs b t) :
    Claim 4 w 125 news [.ref l, .int b t] (fun r news' => news' = news ∧ ∃ t', r = .int (cnt ns b) t') := by
  k_with_none
  (k_with "compareOp Is int int" => ((k_here; (refine' is_int ?wq_h1 ?wq_h2 ?wq_h3 ?_; (case wq_h1 => assumption); (case wq_h2 => assumption); (case wq_h3 => assumption)))))
  (k_with "exec For Name Name cons nil" => ((k_here; k_dflt (refine' For_T ?_))))
  (k_with "TPost" => (dsimp only [TPost]))
  intro mean mg mb dp un gd cn cs a1 ccd cl outer A₀ base h₀ L m s Q E B F X N T hk hdp hun hret
  obtain ⟨ck, c2, c3, c4, c5⟩ := cs
  cases hk
  replace N := news_add N hm
  have hMk : KstMark := kstMark
  (repeat ((fail_if_success (first | with_reducible show wpAny _ _ (pyIter _) _ _ _)); walk_at "mine step"))
  rename Fr _ _ _ _ => F9
  rename News _ _ _ _ => N9
  with_unfolding_all refine' tT_list (σ := Int × Tok) "i" (fun _ => (l, W.listOf vs.toArray n) :: news) (fun c => [("count", .int c.1 c.2)]) [] (fun i _ c => c.1 = cnt (ns.take i) b ∧ 0 ≤ c.1 ∧ c.1 ≤ 1000) (fun _ _ _ _ _ h => h) (0, _) (fun _ => .head _) rfl F9 N9 ?hk ?hp ?turn ?done
  case hk =>
    intro p hp
    rw [List.mem_singleton.mp hp]; rfl
  case hp => exact ⟨rfl, Int.le_refl 0, by show (0 : Int) ≤ 1000; decide⟩
  case turn =>
    clear F9 N9
    rintro ⟨c, tc⟩ i v u h9 tk9 own hv hoff ⟨hc1, hc2⟩ F9 N9
    obtain ⟨k, tv, rfl, hk, hb, h0, hne⟩ := cmp_at hc hI hv
    dsimp only [kstB] at *
    simp only [List.cons_append] at N9
    simp only [List.map_cons] at hoff
    k_steps
    all_goals first
      | refine cn_end (by assumption) (by assumption) hoff rfl ?_ (cnt_turn1 hc1 hk (by assumption)) hl
      | refine cn_end (by assumption) (by assumption) hoff rfl ?_ (cnt_turn2 hc1 hk (by assumption)) hl
    all_goals
      intro z z1 z2
      simp only [z1, z2, if_false, List.contains_nil, Bool.false_eq_true]
  case done =>
    clear F9 N9
    rintro ⟨c, tc⟩ u h9 tk9 ⟨hc1, hc2⟩ F9 N9
    dsimp only [kstB] at *
    have hlv := hI.length
    rw [hlv, List.take_length] at hc1
    k_steps
    subst hc1
    exact hret _ _ _ _ ⟨rfl, _, rfl⟩ (by assumption) (fun p hp => (by assumption : News _ _ _ (_ :: news)) p (.tail _ hp))
end Mine
namespace Mine
/-- the loop with an else that stands at its iterator -/
noncomputable def ForElse (prog : Program) (w : World) (A : Around) (env : Env) (target : PySem.Expr) (body orelse : List Stmt) (Q : Flow → Shared → Prop) (E : Value → Shared → Prop) (it : Value) (s₂ : Shared) : Prop :=
  codeAny (model prog w) A (.forLoop target it body orelse env) (fun r s' => match r with | .ok f => Q f s' | .error e => cameBackBy (model prog w) A env E e s') s₂
noncomputable def IxEnd (h₀ : Heap) (L : Addr) (all : Led) (J : (Str → Option Value) → Prop) (s₁ s₂ : Shared) : Prop :=
  ∃ h' tk m', s₂ = { s₁ with heap := h', toks := tk } ∧ Fr h₀ L h' m' ∧ News h₀ L h' all ∧ J m'
theorem ix_end {h₀ : Heap} {L : Addr} {all : Led} {x y : Str} {m₀ m' : Str → Option Value} {P : Prop} {s₁ : Shared} {h' : Heap} {tk : Nat} (F : Fr h₀ L h' m') (N : News h₀ L h' all) (hp : P) (hr : ∀ z : Str, z ≠ x → z ≠ y → m' z = m₀ z) :
    IxEnd h₀ L all (fun m' => P ∧ ∀ z : Str, z ≠ x → z ≠ y → m' z = m₀ z) s₁ { s₁ with heap := h', toks := tk } := ⟨h', tk, m', rfl, F, N, hp, hr⟩
/-- a turn of a search: it ends with the value, or goes on with the ledger as it was -/
noncomputable def IxPost (h₀ : Heap) (L : Addr) (all : Led) (J : (Str → Option Value) → Prop) (s₁ : Shared) (Q : Flow → Shared → Prop) (f : Flow) (s₂ : Shared) : Prop :=
  match f with
  | .ret v => Q (.ret v) s₂
  | .brk => False
  | _ => IxEnd h₀ L all J s₁ s₂
section
variable {prog : Program} {w : World} {A : Around} {E : Value → Shared → Prop} {s : Shared} {env : Env} {h₀ : Heap} {target : PySem.Expr} {body orelse : List Stmt} {Q : Flow → Shared → Prop}
theorem For_E {iter : PySem.Expr} {pos : Pos} (h : wpAny (model prog w) A (eval iter env) (fun xv s₁ => wpAny (model prog w) A (pyIter xv) (fun it s₂ => ForElse prog w A env target body orelse Q E it s₂) E s₁) E s)
    (hs : ∀ x, foldedSetIterable iter env x = pure x := by intro _; rfl) :
    wpAny (model prog w) A (exec (.For target iter body orelse pos) env) Q E s := wpAny_For h hs
theorem enum_E {elts : List PySem.Expr} {k : Nat} {pos : Pos} {l : Addr} {vs : List Value} {n : Nat} {m₀ : Str → Option Value} {news : Led} (J : Nat → (Str → Option Value) → Prop)
    (hh : A.handled = none) (F : Fr h₀ env.locals s.heap m₀) (N : News h₀ env.locals s.heap news) (hm : (l, W.listOf vs.toArray n) ∈ news) (hj : J 0 m₀) (hno : ∀ m, ¬ J vs.length m)
    (turn : ∀ i v m₁ h tk T t I oe oi, vs[i]? = some v → J i m₁ → IsTup h T #[.int (i : Int) t, v] → Fr h₀ env.locals h m₁ → News h₀ env.locals h ((I + 1, oe) :: (I, oi) :: news) → oe.cls = .type "enumerate" → oi.cls = .type "list_iterator" → (∀ p ∈ news, p.1 < I) →
      wpAny (model prog w) A (assign (.Tuple elts k pos) env (.ref T)) (fun _ s₂ => wpAny (model prog w) A (execs body env) (IxPost h₀ env.locals ((I + 1, oe) :: (I, oi) :: news) (J (i + 1)) { s with heap := h, toks := tk } Q) E s₂) E { s with heap := h, toks := tk })
    (hE : PassesOwn (model prog w) A env E := by passes_own) :
    wpAny (model prog w) A (call (.type "enumerate") [.ref l]) (fun xv s₁ => wpAny (model prog w) A (pyIter xv) (fun it s₂ => ForElse prog w A env (.Tuple elts k pos) body orelse Q E it s₂) E s₁) E s := by
  have hax := N _ hm
  have hl : s.heap.IsList l vs.toArray := ⟨_, hax.1, rfl, n, rfl⟩
  have hlt : l < s.heap.objs.size := Heap.lt_size hax.1
  have hLs : env.locals < s.heap.objs.size := F.ns.lt
  refine call_enumerate_list hl fun h' hE' hI hsz hk => ?_
  refine wpAny_pyIter_enum hE' ?_
  have hL0 : h₀.get? (s.heap.objs.size + 1) = none := ktu_new F (Nat.le_add_right _ _)
  have hL1 : h₀.get? s.heap.objs.size = none := ktu_new F (Nat.le_refl _)
  have hnew : ∀ p ∈ news, p.1 < s.heap.objs.size := fun p hp => Heap.lt_size (N p hp).1
  have Fk := F.keeps hk
  have Nk := N.grown hk
  have hlk := hl.at fun o e => hk l o e
  generalize s.heap.objs.size = I at *
  have W0 := (KTurns.ofWalksU (elts := elts) (k := k) (pos := pos) (WalksT.enumerate (prog := prog) (w := w) hh (I + 1) I l (Nat.succ_ne_self _) (ktu_ne 1 hlt) (Nat.ne_of_lt hlt) vs.toArray).toU)
  have hlen : vs.toArray.size = vs.length := by simp
  rw [hlen] at W0
  refine codeAny_forLoop_any (fun k s' => ∃ (h' : Heap) (tk : Nat) (m' : Str → Option Value) (i : Nat), s' = { s with heap := h', toks := tk } ∧ ((∃ old, IsEnum h' (I + 1) I (i : Int) old) ∧ h'.IsListIter I l i ∧ h'.IsList l vs.toArray) ∧ Fr h₀ env.locals h' m' ∧ News h₀ env.locals h' news ∧ J i m' ∧ i ≤ vs.length ∧ k = vs.length + 1 - i) ?_ (vs.length + 1)
    ⟨_, _, m₀, 0, rfl, ⟨⟨.none, hE'⟩, hI, hlk⟩, Fk, Nk, hj, Nat.zero_le _, rfl⟩
  rintro k' s' ⟨h₁, tk₁, m₁, i, rfl, hst, F₁, N₁, hJ, hi, rfl⟩
  have hlt' : i < vs.length := by
    rcases Nat.lt_or_ge i vs.length with h | h
    · exact h
    · have e : i = vs.length := Nat.le_antisymm hi h
      exact absurd (e ▸ hJ) (hno _)
  have hw : ∀ p ∈ news, p.1 ∉ [I + 1, I] := fun p hp hm => by
    have hp' := hnew p hp
    rcases List.mem_cons.mp hm with e | e
    · exact ktu_ne 1 hp' e
    · exact Nat.ne_of_lt hp' (List.mem_singleton.mp e)
  have hLw : env.locals ∉ [I + 1, I] := fun hm => by
    rcases List.mem_cons.mp hm with e | e
    · exact ktu_ne 1 hLs e
    · exact Nat.ne_of_lt hLs (List.mem_singleton.mp e)
  have old : ∀ b o, h₀.get? b = some o → b ∉ [I + 1, I] := fun b o e hb => by
    rcases List.mem_cons.mp hb with rfl | hb
    · rw [hL0] at e; cases e
    · rw [List.mem_singleton.mp hb, hL1] at e; cases e
  have next : ∀ ha hb : Heap, (∀ b o, b ∉ [I + 1, I] → ha.get? b = some o → hb.get? b = some o) → Fr h₀ env.locals ha m₁ → News h₀ env.locals ha news → Fr h₀ env.locals hb m₁ ∧ News h₀ env.locals hb news := fun ha hb hk Fa Na =>
    ⟨⟨Fa.ns.at' fun o e => hk _ o hLw e, fun b o e => hk b o (old b o e) (Fa.keep b o e), Fa.above⟩, fun p hp => ⟨hk _ _ (hw p hp) (Na p hp).1, (Na p hp).2⟩⟩
  refine W0.item i _ _ _ hlt' hst fun v h₂ tk₂ hMd hk₂ => ?_
  refine W0.go i v _ _ _ hMd fun h₃ hP hst₃ hk₃ => ?_
  obtain ⟨F₂, N₂⟩ := next _ _ hk₂ F₁ N₁
  obtain ⟨F₃, N₃⟩ := next _ _ hk₃ F₂ N₂
  obtain ⟨T, vals, rfl, ⟨t, x, hx, rfl⟩, hT⟩ := hP
  obtain ⟨⟨oe', he⟩, ⟨oi, hoi, hic, hid⟩, hl3⟩ := hst₃
  obtain ⟨oe, hoe, hoc, hoeq⟩ : ∃ oe : Obj, h₃.get? (I + 1) = some oe ∧ oe.cls = .type "enumerate" ∧ ∀ h'', h''.get? (I + 1) = some oe → IsEnum h'' (I + 1) I ((i + 1 : Nat) : Int) oe' := ⟨_, he, rfl, fun h'' e => e⟩
  have N₄ : News h₀ env.locals h₃ ((I + 1, oe) :: (I, oi) :: news) := fun p hp => by
    rcases List.mem_cons.mp hp with rfl | hp
    · exact ⟨hoe, fun e => hLw (by rw [← e]; exact .head _), hL0⟩
    · rcases List.mem_cons.mp hp with rfl | hp
      · exact ⟨hoi, fun e => hLw (by rw [← e]; exact .tail _ (.head _)), hL1⟩
      · exact N₃ p hp
  refine wpAny_mono (turn i x m₁ h₃ tk₂ T t I oe oi (by simpa using hx) hJ hT F₃ N₄ hoc hic hnew) (fun _ s₂ h₂ => wpAny_mono h₂ (fun f s₃ p => ?_) hE) hE
  have fin : (∃ h' tk m', s₃ = { { s with heap := h₃, toks := tk₂ } with heap := h', toks := tk } ∧ Fr h₀ env.locals h' m' ∧ News h₀ env.locals h' ((I + 1, oe) :: (I, oi) :: news) ∧ J (i + 1) m') →
      ∃ m, m < vs.length + 1 - i ∧ ∃ (h' : Heap) (tk : Nat) (m' : Str → Option Value) (j : Nat), s₃ = { s with heap := h', toks := tk } ∧ ((∃ old, IsEnum h' (I + 1) I (j : Int) old) ∧ h'.IsListIter I l j ∧ h'.IsList l vs.toArray) ∧ Fr h₀ env.locals h' m' ∧ News h₀ env.locals h' news ∧ J j m' ∧ j ≤ vs.length ∧ m = vs.length + 1 - j := by
    rintro ⟨h', tk, m', rfl, F', N', hJ'⟩
    have e1 := (N' (I + 1, oe) (.head _)).1
    have e2 := (N' (I, oi) (.tail _ (.head _))).1
    have N'' : News h₀ env.locals h' news := fun p hp => N' p (.tail _ (.tail _ hp))
    exact ⟨vs.length + 1 - (i + 1), by omega, h', tk, m', i + 1, rfl, ⟨⟨oe', hoeq _ e1⟩, ⟨oi, e2, hic, hid⟩, ⟨_, (N'' _ hm).1, rfl, n, rfl⟩⟩, F', N'', hJ', hlt', rfl⟩
  cases f with
  | ret v => exact p
  | brk => exact p.elim
  | next => exact fin p
  | cont => exact fin p
end
theorem ix_fr {h₀ : Heap} {L : Addr} {h : Heap} {x y : Str} {m₁ m₀ : Str → Option Value} (h2 : ∀ z : Str, z ≠ x → z ≠ y → m₁ z = m₀ z) (F : Fr h₀ L h m₁) : Fr h₀ L h (fun z => if z = x then m₁ z else if z = y then m₁ z else m₀ z) := by
  have em : (fun z => if z = x then m₁ z else if z = y then m₁ z else m₀ z) = m₁ := by
    funext z
    by_cases h : z = x
    · rw [if_pos h]
    · rw [if_neg h]
      by_cases h' : z = y
      · rw [if_pos h']
      · rw [if_neg h']; exact (h2 z h h').symm
  rw [em]; exact F
theorem enum_K {prog : Program} {w : World} {A : Around} {E : Value → Shared → Prop} {s : Shared} {env : Env} {h₀ : Heap} {body orelse : List Stmt} {Q : Flow → Shared → Prop} {elts : List PySem.Expr} {k : Nat} {pos : Pos} {l : Addr} {vs : List Value} {n : Nat} {m₀ : Str → Option Value} {news : Led} (x y : Str) (P : Nat → Prop)
    (hh : A.handled = none) (F : Fr h₀ env.locals s.heap m₀) (N : News h₀ env.locals s.heap news) (hm : (l, W.listOf vs.toArray n) ∈ news) (hj : P 0) (hno : ¬ P vs.length)
    (turn : ∀ i v (u : Str → Option Value) h tk T t I oe oi, vs[i]? = some v → P i → IsTup h T #[.int (i : Int) t, v] → Fr h₀ env.locals h (fun z => if z = x then u z else if z = y then u z else m₀ z) → News h₀ env.locals h ((I + 1, oe) :: (I, oi) :: news) → oe.cls = .type "enumerate" → oi.cls = .type "list_iterator" → (∀ p ∈ news, p.1 < I) →
      wpAny (model prog w) A (assign (.Tuple elts k pos) env (.ref T)) (fun _ s₂ => wpAny (model prog w) A (execs body env) (IxPost h₀ env.locals ((I + 1, oe) :: (I, oi) :: news) (fun m' => P (i + 1) ∧ ∀ z : Str, z ≠ x → z ≠ y → m' z = m₀ z) { s with heap := h, toks := tk } Q) E s₂) E { s with heap := h, toks := tk })
    (hE : PassesOwn (model prog w) A env E := by passes_own) :
    wpAny (model prog w) A (call (.type "enumerate") [.ref l]) (fun xv s₁ => wpAny (model prog w) A (pyIter xv) (fun it s₂ => ForElse prog w A env (.Tuple elts k pos) body orelse Q E it s₂) E s₁) E s :=
  enum_E (fun i m => P i ∧ ∀ z : Str, z ≠ x → z ≠ y → m z = m₀ z) hh F N hm ⟨hj, fun _ _ _ => rfl⟩ (fun m h => hno h.1)
    (fun i v m₁ h tk T t I oe oi hv hJ hT F₁ N₁ h1 h2 h3 => turn i v m₁ h tk T t I oe oi hv hJ.1 hT (ix_fr hJ.2 F₁) N₁ h1 h2 h3) hE
theorem ix_next {ns : List Int} {b k : Int} {i : Nat} (h : ∀ j, j < i → ns[j]? ≠ some b) (hk : ns[i]? = some k) (hne : ¬ k = b) : ∀ j, j < i + 1 → ns[j]? ≠ some b := by
  intro j hj e
  rcases Nat.lt_or_ge j i with h' | h'
  · exact h j h' e
  · have : j = i := by omega
    subst this
    rw [hk] at e
    exact hne (Option.some.inj e)
theorem ix_ret {Q : Value → Shared → Prop} {h₀ : Heap} {L : Addr} {m : Str → Option Value} {s : Shared} {news news9 : Led} {ns : List Int} {b k : Int} {i : Nat} {t : Tok} {h' : Heap} {tk : Nat}
    (hret : ∀ (r : Value) (news' : Led) (h' : Heap) (tk' : Nat), (news' = news ∧ ∃ k t', r = .int k t' ∧ (0 ≤ k ∧ k < 4) ∧ ns.getD k.toNat 0 = b) → Fr h₀ L h' m → News h₀ L h' news' → Q r { s with heap := h', toks := tk' })
    (F : Fr h₀ L h' m) (N : News h₀ L h' news9) (hs : ∀ {p}, p ∈ news → p ∈ news9) (hi : i < 4) (hk : ns[i]? = some k) (e : k = b) : Q (.int (i : Int) t) { s with heap := h', toks := tk } := by
  refine hret _ _ _ _ ⟨rfl, _, _, rfl, by omega, ?_⟩ F fun p hp => N p (hs hp)
  show ns.getD i 0 = b
  rw [List.getD_eq_getElem?_getD, hk, ← e]; rfl
theorem index_spec {w : World} {news : Led} {l : Addr} {n : Nat} {vs : List Value} {ns : List Int} {b : Int} {t : Tok} (hm : (l, W.listOf vs.toArray n) ∈ news) (hI : IntsAre vs ns) (hl : ns.length = 4) (hb : b ∈ ns) (hc : CmpOk vs b t) :
    Claim 4 w 139 news [.ref l, .int b t] (fun r news' => news' = news ∧ ∃ k t', r = .int k t' ∧ (0 ≤ k ∧ k < 4) ∧ ns.getD k.toNat 0 = b) := by
  k_with_none
  (k_with "compareOp Is int int" => ((k_here; (refine' is_int ?wq_h1 ?wq_h2 ?wq_h3 ?_; (case wq_h1 => assumption); (case wq_h2 => assumption); (case wq_h3 => assumption)))))
  (k_with "IxPost" => (dsimp only [IxPost]))
  (k_with "exec For Tuple Call cons cons" => ((k_here; k_dflt (refine' For_E ?_))))
  intro mean mg mb dp un gd cn cs a1 ccd cl outer A₀ base h₀ L m s Q E B F X N T hk hdp hun hret
  obtain ⟨ck, c2, c3, c4, c5⟩ := cs
  cases hk
  replace N := news_add N hm
  have hMk : KstMark := kstMark
  (repeat ((fail_if_success (first | with_reducible show wpAny _ _ (call (Value.type "enumerate") ..) _ _ _ | with_reducible show wpAny _ _ (call (Value.type "enumerate") _) _ _ _)); walk_at "mine step"))
  rename Fr _ _ _ _ => F9
  rename News _ _ _ _ => N9
  with_unfolding_all refine' enum_K "i" "j" (fun i => ∀ j, j < i → ns[j]? ≠ some b) rfl F9 N9 (.head _) ?hj ?hno ?turn
  case hj => exact fun j h => absurd h (Nat.not_lt_zero _)
  case hno =>
    intro h
    obtain ⟨j, hj, e⟩ := List.getElem_of_mem hb
    exact h j (by rw [hI.length]; exact hj) (by rw [List.getElem?_eq_getElem hj, e])
  case turn =>
    clear F9 N9
    intro i v u h9 tk9 T9 t9 I oe oi hv hj hT F9 N9 hoe hoi hnew
    obtain ⟨k, tv, rfl, hk, hbd, h0, hne⟩ := cmp_at hc hI hv
    have hi4 : i < 4 := by
      have := (List.getElem?_eq_some_iff.mp hk).1
      omega
    k_steps
    all_goals first
      | exact ix_ret hret (by assumption) (by assumption) (fun hp => .tail _ (.tail _ (.tail _ hp))) hi4 hk (by assumption)
      | (refine ix_end (by assumption) (by assumption) (ix_next hj hk (by assumption)) ?_; intro z z1 z2; simp only [z1, z2, if_false])
end Mine
namespace Mine
/-- the tokens of these ints: none is 0, all lie below T, and no token is two values' -/
structure TkOk (V : List Value) (T : Nat) : Prop where
  pos : ∀ v ∈ V, ∃ i t, v = .int i t ∧ @LT.lt Nat _ 0 t ∧ @LT.lt Nat _ t T
  fn : ∀ i j t, Value.int i t ∈ V → Value.int j t ∈ V → i = j
theorem TkOk.up {V : List Value} {T T' : Nat} (h : TkOk V T) (hT : T ≤ T') : TkOk V T' :=
  ⟨fun v hv => by obtain ⟨i, t, e, h0, h1⟩ := h.pos v hv; exact ⟨i, t, e, h0, Nat.lt_of_lt_of_le h1 hT⟩, h.fn⟩
theorem TkOk.sub {V V' : List Value} {T : Nat} (h : TkOk V T) (hs : ∀ v ∈ V', v ∈ V) : TkOk V' T :=
  ⟨fun v hv => h.pos v (hs v hv), fun i j t h1 h2 => h.fn i j t (hs _ h1) (hs _ h2)⟩
theorem TkOk.add {V : List Value} {T T' : Nat} {x : Int} {t : Tok} (h : TkOk V T) (h0 : @LT.lt Nat _ 0 T) (h1 : @LE.le Nat _ T t) (h2 : @LT.lt Nat _ t T') : TkOk (.int x t :: V) T' := by
  have key : ∀ i (u : Tok), Value.int i u ∈ V → @LT.lt Nat _ u T := fun i u hm => by
    obtain ⟨j, t', e, _, hlt⟩ := h.pos _ hm
    cases e; exact hlt
  refine ⟨fun v hv => ?_, fun i j u hi hj => ?_⟩
  · rcases List.mem_cons.mp hv with rfl | hv
    · exact ⟨x, t, rfl, Nat.lt_of_lt_of_le h0 h1, h2⟩
    · obtain ⟨i, u, e, a, b⟩ := h.pos v hv
      exact ⟨i, u, e, a, Nat.lt_of_lt_of_le b (Nat.le_trans h1 (Nat.le_of_lt h2))⟩
  · rcases List.mem_cons.mp hi with ei | hi
    · rcases List.mem_cons.mp hj with ej | hj
      · cases ei; cases ej; rfl
      · cases ei; exact absurd (key _ _ hj) (Nat.not_lt.mpr h1)
    · rcases List.mem_cons.mp hj with ej | hj
      · cases ej; exact absurd (key _ _ hi) (Nat.not_lt.mpr h1)
      · exact h.fn i j u hi hj
theorem TkOk.cmp {V vs : List Value} {T : Nat} {ns : List Int} {b : Int} {u : Tok} (h : TkOk V T) (hb : Value.int b u ∈ V) (hs : ∀ v ∈ vs, v ∈ V) (hI : IntsAre vs ns) (hn : ∀ n ∈ ns, 0 ≤ n ∧ n ≤ 7) : CmpOk vs b u := by
  obtain ⟨_, _, e, hu, _⟩ := h.pos _ hb
  cases e
  refine ⟨Nat.ne_of_gt hu, fun v hv => ?_⟩
  obtain ⟨i, t, e, ht, _⟩ := h.pos v (hs v hv)
  obtain ⟨k, hk⟩ := List.getElem?_of_mem hv
  obtain ⟨n, t', hv', hn'⟩ := IntsAre.at hI k v hk
  subst e; cases hv'
  refine ⟨i, t, rfl, Nat.ne_of_gt ht, fun hne e => hne ?_, hn _ (List.mem_of_getElem? hn')⟩
  subst e
  exact h.fn _ _ _ (hs _ hv) hb
theorem cmp_fresh {vs : List Value} {T : Nat} {ns : List Int} {b : Int} {u : Tok} (h : ∀ v ∈ vs, ∃ i t, v = .int i t ∧ @LT.lt Nat _ 0 t ∧ @LT.lt Nat _ t T) (h1 : @LE.le Nat _ T u) (h0 : @LT.lt Nat _ 0 T) (hI : IntsAre vs ns) (hn : ∀ n ∈ ns, 0 ≤ n ∧ n ≤ 7) : CmpOk vs b u := by
  refine ⟨Nat.ne_of_gt (Nat.lt_of_lt_of_le h0 h1), fun v hv => ?_⟩
  obtain ⟨i, t, e, ht, ht2⟩ := h v hv
  obtain ⟨k, hk⟩ := List.getElem?_of_mem hv
  obtain ⟨n, t', hv', hn'⟩ := IntsAre.at hI k v hk
  subst e; cases hv'
  exact ⟨i, t, rfl, Nat.ne_of_gt ht, fun _ => Nat.ne_of_lt (Nat.lt_of_lt_of_le ht2 h1), hn _ (List.mem_of_getElem? hn')⟩
/-- a claim's use that knows its tokens -/
theorem useCg {lvl : Nat} {w : World} {f : Addr} {news : Led} {vs : List Value} {Post : Value → Led → Prop} (C : Claim lvl w f news vs Post)
    {mean : ExcName → Option Value} {mg mb : Str → Option Value} {dp un : Nat} {gd : Option (List Code)} {cn : Str} {cs : Scope} {a : Addr} {ccd : Value} {cl : List (Str × Addr)} {outer : List Env} {A₀ : Around} {base h₀ : Heap} {L : Addr} {m : Str → Option Value} {s : Shared} {Q E : Value → Shared → Prop}
    (hB : Below A₀ base outer h₀) (F : Fr h₀ L s.heap m) (X : (_root_.Mine.hd.heap_39 w.params).In h₀) (N : News h₀ L s.heap news) (T : Top _root_.Mine.hd.view_39 LOO mean mg mb h₀) (hk : cs.kind = .function)
    (hd : dp + lvl < recursionLimit) (hu : un + 20 * lvl < cLine)
    (hret : ∀ (r : Value) (news' : Led) (h' : Heap) (tk' : Nat), s.toks ≤ tk' → Post r news' → Fr h₀ L h' m → News h₀ L h' news' → Q r { s with heap := h', toks := tk' }) :
    wpAny (model PR w) (ktrTop dp un gd cn cs L a ccd cl outer) (call (.ref f) vs) Q E s :=
  wpAny_grow (useC C hB F X N T hk hd hu fun r news' h' tk' hp F' N' htk => hret r news' h' tk' htk hp F' N')
/-- a claim whose end may speak of the tokens -/
noncomputable abbrev ClaimT (lvl : Nat) (w : World) (f : Addr) (news : Led) (vs : List Value) (Pre : Nat → Prop) (Post : Nat → Value → Led → Prop) : Prop :=
  ∀ (mean : ExcName → Option Value) (mg mb : Str → Option Value) (dp un : Nat) (gd : Option (List Code)) (cn : Str) (cs : Scope) (a : Addr) (ccd : Value) (cl : List (Str × Addr)) (outer : List Env) (A₀ : Around) (base h₀ : Heap) (L : Addr) (m : Str → Option Value) (s : Shared) (Q E : Value → Shared → Prop),
    Below A₀ base outer h₀ → Fr h₀ L s.heap m → (_root_.Mine.hd.heap_39 w.params).In h₀ → News h₀ L s.heap news → Top _root_.Mine.hd.view_39 LOO mean mg mb h₀ → cs.kind = .function →
    dp + lvl < recursionLimit → un + 20 * lvl < cLine → Pre s.toks →
    (∀ (r : Value) (news' : Led) (h' : Heap) (tk' : Nat), Post tk' r news' → Fr h₀ L h' m → News h₀ L h' news' → Q r { s with heap := h', toks := tk' }) →
      wpAny (model PR w) (ktrTop dp un gd cn cs L a ccd cl outer) (call (.ref f) vs) Q E s
theorem useT {lvl : Nat} {w : World} {f : Addr} {news : Led} {vs : List Value} {Pre : Nat → Prop} {Post : Nat → Value → Led → Prop} (C : ClaimT lvl w f news vs Pre Post)
    {mean : ExcName → Option Value} {mg mb : Str → Option Value} {dp un : Nat} {gd : Option (List Code)} {cn : Str} {cs : Scope} {a : Addr} {ccd : Value} {cl : List (Str × Addr)} {outer : List Env} {A₀ : Around} {base h₀ : Heap} {L : Addr} {m : Str → Option Value} {s : Shared} {Q E : Value → Shared → Prop}
    (hB : Below A₀ base outer h₀) (F : Fr h₀ L s.heap m) (X : (_root_.Mine.hd.heap_39 w.params).In h₀) (N : News h₀ L s.heap news) (T : Top _root_.Mine.hd.view_39 LOO mean mg mb h₀) (hk : cs.kind = .function)
    (hd : dp + lvl < recursionLimit) (hu : un + 20 * lvl < cLine) (hpre : Pre s.toks)
    (hret : ∀ (r : Value) (news' : Led) (h' : Heap) (tk' : Nat), s.toks ≤ tk' → Post tk' r news' → Fr h₀ L h' m → News h₀ L h' news' → Q r { s with heap := h', toks := tk' }) :
    wpAny (model PR w) (ktrTop dp un gd cn cs L a ccd cl outer) (call (.ref f) vs) Q E s :=
  wpAny_grow (C mean mg mb dp un gd cn cs a ccd cl outer A₀ base h₀ L m s _ E hB F X N T hk hd hu hpre fun r news' h' tk' hp F' N' htk => hret r news' h' tk' htk hp F' N')
end Mine
namespace Mine
theorem ins_V {prog : Program} {w : World} {A : Around} {E : Value → Shared → Prop} {s : Shared} {h₀ : Heap} {L D : Addr} {m : Str → Option Value} {rest : Led} {n : Nat} {vs : List Value} {ns : List Int} {k x : Int} {tk tx : Tok} {Q : Value → Shared → Prop}
    (F : Fr h₀ L s.heap m) (N : News h₀ L s.heap ((D, W.listOf vs.toArray n) :: rest)) (hoff : OwnOff rest [D]) (hi : IntsAre vs ns) (h0 : 0 ≤ k) (hk : k ≤ ns.length) (hl : ns.length ≤ 8)
    (h : ∀ h' vs', IntsAre vs' (ins ns k.toNat x) → (∀ v ∈ vs', v = .int x tx ∨ v ∈ vs) → Fr h₀ L h' m → News h₀ L h' ((D, W.listOf vs'.toArray (n + 1)) :: rest) → Q .none { s with heap := h' }) :
    wpAny (model prog w) A (call (.builtin "list.insert") [.ref D, .int k tk, .int x tx]) Q E s := by
  have hlen := hi.length
  refine kl_insert (l := kl_ins vs k (.int x tx)) F N (fits_small h0 (by omega)) rfl (Upd.head fun p hp => hoff p hp D (.head _)) (by rw [sizeLine_eq]; simp only; omega) fun h' F' N' => h h' _ ?_ ?_ F' N'
  rotate_left
  · intro v hv
    unfold kl_ins at hv
    rcases List.mem_append.mp hv with hv | hv
    · exact .inr (List.mem_of_mem_take hv)
    · rcases List.mem_cons.mp hv with hv | hv
      · exact .inl hv
      · exact .inr (List.mem_of_mem_drop hv)
  have e : (if k < 0 then (k + (vs.length : Int)).toNat else min k.toNat vs.length) = k.toNat := by
    rw [if_neg (by omega), Nat.min_eq_left (by omega)]
  unfold kl_ins ins
  rw [e]
  exact (hi.take _).append (.cons _ _ (hi.drop _))
theorem ins_retV {Q : Value → Shared → Prop} {h₀ : Heap} {L l : Addr} {m : Str → Option Value} {s : Shared} {rest : Led} {g : Obj → Led} {b : Nat} {ns : List Int} {x k : Int} {vs' : List Value} {n' : Nat} {h' : Heap} {tk : Nat} {vs : List Value} {tx : Tok}
    (hret : ∀ (r : Value) (news' : Led) (h' : Heap) (tk' : Nat), (r = .none ∧ ∃ vs' n', IntsAre vs' (ins ns b x) ∧ (∀ v ∈ vs', v = .int x tx ∨ v ∈ vs) ∧ news' = g (W.listOf vs'.toArray n')) → Fr h₀ L h' m → News h₀ L h' news' → Q r { s with heap := h', toks := tk' })
    (hout : ∀ o' h₀ L h, News h₀ L h ((l, o') :: rest) → News h₀ L h (g o')) (F : Fr h₀ L h' m) (N : News h₀ L h' ((l, W.listOf vs'.toArray n') :: rest)) (hI : IntsAre vs' (ins ns k.toNat x)) (hM : ∀ v ∈ vs', v = .int x tx ∨ v ∈ vs) (e : k.toNat = b) : Q .none { s with heap := h', toks := tk } :=
  hret _ _ _ _ ⟨rfl, vs', n', e ▸ hI, hM, rfl⟩ F (hout _ _ _ _ N)
theorem insort_vals {w : World} {news : Led} {g : Obj → Led} {l : Addr} {n : Nat} {vs : List Value} {ns : List Int} {x : Int} {tx : Tok} (hU : UpdF l (W.listOf vs.toArray n) news g) (hi : IntsAre vs ns) (hl : ns.length ≤ 8) (hs : ns.Pairwise (· ≤ ·)) :
    Claim 5 w 30 news [.ref l, .int x tx] (fun r news' => r = .none ∧ ∃ vs' n', IntsAre vs' (ins ns (br ns x) x) ∧ (∀ v ∈ vs', v = .int x tx ∨ v ∈ vs) ∧ news' = g (W.listOf vs'.toArray n')) := by
  k_with_none
  (k_with "call builtin:list.insert" => ((k_here; k_dflt (refine' ins_V ?wq_k1 ?wq_k2 ?wq_k3 ?wq_k4 ?wq_k5 ?wq_k6 ?wq_k7 ?_; (case wq_k1 => k_asm); (case wq_k2 => k_asm); (case wq_k3 => assumption); (case wq_k4 => assumption); (case wq_k5 => omega); (case wq_k6 => omega); (case wq_k7 => omega); k_whole); intro h' vs' hI' hM' F' N')))
  intro mean mg mb dp un gd cn cs a ccd cl outer A₀ base h₀ L m s Q E B F X N T hk hdp hun hret
  obtain ⟨ck, c2, c3, c4, c5⟩ := cs
  cases hk
  obtain ⟨rest, hoff, hin, hout⟩ := UpdF.opens hU
  replace N := hin _ _ _ N
  have hMk : KstMark := kstMark
  have hble := br_le ns x
  (k_with "state" => first | exact br_turn1 (by assumption) (by assumption) (by assumption) (by assumption) (by assumption) (by assumption) | exact br_turn2 (by assumption) (by assumption) (by assumption) (by assumption) (by assumption) (by assumption) (by assumption))
  (k_with "measure" => first | exact bl_meas1 (by assumption) | exact bl_meas2 (by assumption))
  (repeat ((fail_if_success (first | with_reducible show wpAny _ _ (exec (PySem.Stmt.While ..) _) _ _ _)); walk_at "mine step"))
  k_while_given ["a", "x"] (fun xs x script lo hi => 0 ≤ lo ∧ lo ≤ hi ∧ hi ≤ (xs.length : Int) ∧ lo ≤ (br xs x : Int) ∧ (br xs x : Int) ≤ hi) (fun xs x script lo hi => (hi - lo).toNat) "lo" "hi"
  (repeat ((fail_if_success (first | with_reducible show wpAny _ _ (execs [] _) _ _ _)); walk_at "mine step"))
  k_steps
  all_goals (refine ins_retV hret hout (by assumption) (by assumption) (by assumption) (by assumption) ?_; omega)
local macro_rules | `(tactic| k_upd) => `(tactic| first | exact upd_first (by assumption) (by assumption) | exact upd_second (by assumption) (by assumption))
local macro_rules | `(tactic| k_updF) => `(tactic| exact updF_first (by assumption) (by assumption))
theorem del_V {prog : Program} {w : World} {A : Around} {E : Value → Shared → Prop} {s : Shared} {h₀ : Heap} {L D : Addr} {m : Str → Option Value} {news : Led} {g : Obj → Led} {n : Nat} {vs : List Value} {ns : List Int} {k : Nat} {u : Tok} {Q : Unit → Shared → Prop}
    (F : Fr h₀ L s.heap m) (N : News h₀ L s.heap news) (U : UpdF D (W.listOf vs.toArray n) news g) (hi : IntsAre vs ns) (hk : (k : Int) < ns.length) (hl : ns.length ≤ 8)
    (h : ∀ h' vs', IntsAre vs' (ns.eraseIdx k) → (∀ v ∈ vs', v ∈ vs) → Fr h₀ L h' m → News h₀ L h' (g (W.listOf vs'.toArray (n + 1))) → Q () { s with heap := h' }) : wpAny (model prog w) A (delItem (.ref D) (.int (k : Int) u)) Q E s := by
  have hlen := hi.length
  have hsz : vs.toArray.size = ns.length := by rw [List.size_toArray]; exact hlen
  have hn : ¬ (k : Int) < 0 := by omega
  have hj : seqIndex? (k : Int) ns.length = some k := by
    simp only [seqIndex?, hn, if_false]
    rw [if_pos (by simp only [Bool.and_eq_true, decide_eq_true_eq]; omega)]; rfl
  exact ki_del (its := vs.toArray) F N (fits_small (by omega) (by omega)) (k := k) (by rw [hsz]; exact hj) (q := vs.eraseIdx k) (show ki_delL vs k = _ from del_delL (by omega)) (updF_upd U) (by show vs.length ≤ sizeLine; rw [sizeLine_eq]; omega) fun h' F' N' => h h' _ (ints_erase hi _) (fun v hv => List.mem_of_mem_eraseIdx hv) F' N'
noncomputable def TkPostV (R H : Addr) (rest : Led) (row hs : List Int) (spot left : Int) (rvs hvs : List Value) (u : Tok) (r : Value) (news' : Led) : Prop :=
  r = .none ∧ ∃ rvs' hvs' n' m', news' = (R, W.listOf rvs'.toArray n') :: (H, W.listOf hvs'.toArray m') :: rest ∧ IntsAre rvs' (ins (row.eraseIdx (bl row (hs.getD spot.toNat 0))) (br (row.eraseIdx (bl row (hs.getD spot.toNat 0))) left) left) ∧ IntsAre hvs' (hs.set spot.toNat left) ∧
    (∀ v ∈ rvs', v = .int left u ∨ v ∈ rvs) ∧ ∀ v ∈ hvs', v = .int left u ∨ v ∈ hvs
theorem mem_setV {vs : List Value} {k : Nat} {x : Value} : ∀ v ∈ vs.set k x, v = x ∨ v ∈ vs := fun v hv => by
  rcases List.mem_or_eq_of_mem_set hv with h | h
  · exact .inr h
  · exact .inl h
theorem mem_twice {a b c : List Value} {x : Value} (h1 : ∀ v ∈ b, v = x ∨ v ∈ a) (h2 : ∀ v ∈ a, v ∈ c) : ∀ v ∈ b, v = x ∨ v ∈ c := fun v hv => (h1 v hv).imp id (h2 v)
theorem take_vals {w : World} {rest : Led} {H R : Addr} {n m : Nat} {hvs rvs : List Value} {hs row : List Int} {spot left : Int} {t u : Tok} (hne : R ≠ H) (hoff : OwnOff rest [R, H]) (hH : IntsAre hvs hs) (hR : IntsAre rvs row) (h4 : hs.length = 4) (h0 : 0 ≤ spot ∧ spot < 4) (hl : row.length ≤ 8) (hso : row.Pairwise (· ≤ ·))
    (hb : (bl row (hs.getD spot.toNat 0) : Int) < row.length) :
    Claim 8 w 243 ((R, W.listOf rvs.toArray n) :: (H, W.listOf hvs.toArray m) :: rest) [.ref H, .ref R, .int spot t, .int left u] (TkPostV R H rest row hs spot left rvs hvs u) := by
  k_with_none
  (k_with "call builtin:list.insert" => ((k_here; k_dflt (refine' ins_V ?wq_k1 ?wq_k2 ?wq_k3 ?wq_k4 ?wq_k5 ?wq_k6 ?wq_k7 ?_; (case wq_k1 => k_asm); (case wq_k2 => k_asm); (case wq_k3 => assumption); (case wq_k4 => assumption); (case wq_k5 => omega); (case wq_k6 => omega); (case wq_k7 => omega); k_whole); intro h' vs' hI' hM' F' N')))
  (k_with "mine asks" => ((
  (case wq_k1 => k_asm); (case wq_k2 => k_asm); (case wq_k3 => k_asm); (case wq_k4 => k_asm); (case wq_k5 => k_asm); (case wq_k6 => exact rfl); (case wq_k7 => ((try simp only [ktrTop, depth_under_make, depth_under_kw, depth_in1, depth_deeper, depth_caller]); omega)); (case wq_k8 => ((try simp only [ktrTop, units_in1, units_deeper, Around.mark_units, units_caller]); omega)))))
  (k_with "delItem ref int" => ((k_here; k_dflt (refine' del_V ?wq_k1 ?wq_k2 ?wq_k3 ?wq_k4 ?wq_k5 ?wq_k6 ?_; (case wq_k1 => k_asm); (case wq_k2 => k_asm); (case wq_k3 => k_updF); (case wq_k4 => assumption); (case wq_k5 => omega); (case wq_k6 => omega); k_whole); intro h' vs' hI' hM' F' N'; (try dsimp only at N'))))
  (k_with "call ref" => ((k_here; (with_reducible show wpAny _ _ (call (Value.ref 48) [Value.ref _, Value.int _ _] _) _ _ _); k_dflt (refine' useC (bl_spec ?wq_hm ?wq_hi ?wq_hl ?wq_hs) ?wq_k1 ?wq_k2 ?wq_k3 ?wq_k4 ?wq_k5 ?wq_k6 ?wq_k7 ?wq_k8 ?_; walk_at "mine asks"; (case wq_hm => k_mem); (case wq_hi => assumption); (case wq_hl => omega); (case wq_hs => assumption); intro r' n' h' tk' hp' F' N'; obtain ⟨hp1, t', hp2⟩ := hp'; subst hp1; subst hp2; (try dsimp only)))))
  (k_with "call ref" => ((k_here; (with_reducible show wpAny _ _ (call (Value.ref 30) [Value.ref _, Value.int _ _] _) _ _ _); k_dflt (refine' useC (insort_vals ?wq_hU ?wq_hi ?wq_hl ?wq_hs) ?wq_k1 ?wq_k2 ?wq_k3 ?wq_k4 ?wq_k5 ?wq_k6 ?wq_k7 ?wq_k8 ?_; walk_at "mine asks"; (case wq_hU => k_updF); (case wq_hi => assumption); (case wq_hl => assumption); (case wq_hs => assumption); intro r' n' h' tk' hp' F' N'; obtain ⟨hp1, vs', nn', hI', hM', hp2⟩ := hp'; subst hp2; subst hp1; (try dsimp only at N')))))
  intro mean mg mb dp un gd cn cs a ccd cl outer A₀ base h₀ L m s Q E B F X N T hk hdp hun hret
  obtain ⟨ck, c2, c3, c4, c5⟩ := cs
  cases hk
  have hMk : KstMark := kstMark
  have hso2 := erase_sorted hso (bl row (hs.getD spot.toNat 0))
  have hl2 := erase_len (k := bl row (hs.getD spot.toNat 0)) hl
  k_steps
  exact hret _ _ _ _ (show TkPostV R H rest row hs spot left rvs hvs u .none _ from ⟨rfl, _, _, _, _, rfl, by assumption, by assumption, mem_twice (by assumption) (by assumption), mem_setV⟩) (by assumption) (by assumption)
end Mine
namespace Mine
section
variable {prog : Program} {w : World} {A : Around} {E : Value → Shared → Prop} {s : Shared} {h₀ : Heap} {L : Addr} {m : Str → Option Value} {news : Led} {Q : Value → Shared → Prop}
theorem hasattr_listK' {a : Addr} {its : Array Value} {k : Nat} {tk : Tok} (F : Fr h₀ L s.heap m) (N : News h₀ L s.heap news) (hm : (a, W.listOf its k) ∈ news) (h : ∀ h', Fr h₀ L h' m → News h₀ L h' news → Q (.bool true) { s with heap := h' }) :
    wpAny (model prog w) A (call (.builtin "hasattr") [.ref a, .str "__getitem__" tk]) Q E s := hasattr_listK F N hm h
theorem add_vals {p q : Addr} {va vb : List Value} {na nb : Nat} (F : Fr h₀ L s.heap m) (N : News h₀ L s.heap news) (hp : (p, W.listOf va.toArray na) ∈ news) (hq : (q, W.listOf vb.toArray nb) ∈ news) (ha : va.length ≤ 1000) (hb : vb.length ≤ 1000)
    (h : ∀ D h', Fr h₀ L h' m → News h₀ L h' ((D, W.listOf (va ++ vb).toArray 0) :: news) → (∀ p ∈ news, p.1 < D) → Q (.ref D) { s with heap := h' }) :
    wpAny (model prog w) A (binaryOp .Add (.ref p) (.ref q)) Q E s :=
  add_arrays F N (its := va.toArray) (its2 := vb.toArray) ⟨_, (N _ hp).1, rfl, na, rfl⟩ ⟨_, (N _ hq).1, rfl, nb, rfl⟩ (fun h' F' N' => h _ h' F' N' fun p hp => Heap.lt_size (N p hp).1) (by rw [List.size_toArray, List.size_toArray, PySem.sizeLine_eq]; omega)
theorem slice_vals {l : Addr} {vs : List Value} {nn : Nat} {value slice : PySem.Expr} {vl vu : Value} {lo hi : Option Int} (F : Fr h₀ L s.heap m) (N : News h₀ L s.heap news) (hm : (l, W.listOf vs.toArray nn) ∈ news) (hz : vs.length ≤ 1000) (pl : IsPart vl lo) (pu : IsPart vu hi)
    (h : ∀ D h', Fr h₀ L h' m → News h₀ L h' ((D, W.listOf (kms_pick vs lo hi).toArray 0) :: news) → (∀ p ∈ news, p.1 < D) → Q (.ref D) { s with heap := h' })
    (hs : subscripted slice false (.ref l) (.ref s.heap.objs.size) = operate [.ref s.heap.objs.size, .ref l] (getItem (.ref l) (.ref s.heap.objs.size))) (ht : ∀ r, letTemporaryGo value (.ref l) r = pure ()) :
    wpAny (model prog w) A (subscriptTail value slice (.ref l) (.ref s.heap.objs.size)) Q E { s with heap := s.heap.push { cls := .type "slice", data := .fields #[vl, vu, .none] } } :=
  kms_slice_lit F N ⟨_, (N _ hm).1, rfl, nn, rfl⟩ pl pu rfl h hs ht (by rw [List.size_toArray, PySem.sizeLine_eq]; omega)
end
theorem pick_mem {vs : List Value} {lo hi : Option Int} : ∀ v ∈ kms_pick vs lo hi, v ∈ vs := fun v hv => List.mem_of_mem_drop (List.mem_of_mem_take hv)
theorem pick_run_ints {vs : List Value} {ns : List Int} {x y : Int} (hi : IntsAre vs ns) (h : 0 ≤ x) (h2 : 0 ≤ y) : IntsAre (kms_pick vs (some x) (some y)) ((ns.drop x.toNat).take (min y.toNat ns.length - x.toNat)) := by
  have := kmk_run hi h h2
  rw [kms_pick_eq] at this
  exact this
theorem concat_vals {w : World} {news : Led} {p q : Addr} {va vb : List Value} {na nb : Nat} (hp : (p, W.listOf va.toArray na) ∈ news) (hq : (q, W.listOf vb.toArray nb) ∈ news) (ha : va.length ≤ 1000) (hb : vb.length ≤ 1000) :
    Claim 3 w 118 news [.ref p, .ref q] (fun r news' => ∃ x, r = .ref x ∧ news' = (x, W.listOf (va ++ vb).toArray 0) :: news ∧ AllLt x news) := by
  k_with_none
  (k_with "call builtin:hasattr" => ((k_here; k_dflt (refine' hasattr_listK' ?wq_k1 ?wq_k2 ?wq_k3 ?_; (case wq_k1 => k_asm); (case wq_k2 => k_asm); (case wq_k3 => k_mem); k_whole); intro h' F' N')))
  (k_with "binaryOp Add ref ref" => ((k_here; k_dflt (refine' add_vals ?wq_k1 ?wq_k2 ?wq_k3 ?wq_k4 ?wq_k5 ?wq_k6 ?_; (case wq_k1 => k_asm); (case wq_k2 => k_asm); (case wq_k3 => k_mem); (case wq_k4 => k_mem); (case wq_k5 => assumption); (case wq_k6 => assumption); k_whole); intro D' h' F' N' l1)))
  intro mean mg mb dp un gd cn cs a1 ccd cl outer A₀ base h₀ L m s Q E B F X N T hk hdp hun hret
  obtain ⟨ck, c2, c3, c4, c5⟩ := cs
  cases hk
  replace N := news_add (news_add N hp) (.tail _ hq)
  k_steps
  all_goals exact hret _ _ _ _ ⟨_, rfl, rfl, allLt_of fun p hp => (by assumption : ∀ p ∈ _ :: _ :: news, p.1 < _) p (.tail _ (.tail _ hp))⟩ (by assumption) (by
    intro p hp
    rcases List.mem_cons.mp hp with h | h
    · rw [h]; exact (by assumption : News _ _ _ (_ :: _ :: _ :: news)) _ (.head _)
    · exact (by assumption : News _ _ _ (_ :: _ :: _ :: news)) _ (.tail _ (.tail _ (.tail _ h))))
noncomputable def OnPostV (news : Led) (vs : List Value) (c : List Int) (r : Value) (news' : Led) : Prop := ∃ x vs' n', r = .ref x ∧ news' = (x, W.listOf vs'.toArray n') :: news ∧ IntsAre vs' c ∧ AllLt x news ∧ (∀ v ∈ vs', v ∈ vs)
theorem ones_endV {x x' l : Addr} {vx : List Value} {k : Nat} {p2 p3 : Addr × Obj} {row : List Int} {wd : Int} {i : Nat} {news own : Led} {h₀ h' : Heap} {L : Addr} {m' m₀ : Str → Option Value} {s₁ : Shared} {tk : Nat} {o : Obj}
    (F : Fr h₀ L h' m') (N : News h₀ L h' ((x', W.listOf vx.toArray k) :: p2 :: p3 :: (l, o) :: (news ++ own))) (hlt : ∀ p ∈ p2 :: p3 :: (l, o) :: (news ++ own), p.1 < x') (hoff : OwnOff own (x :: l :: news.map (·.1)))
    (h1 : m' "found" = some (.ref x')) (hr : ∀ z : Str, z ≠ "low" → z ≠ "found" → m' z = m₀ z) (hI : IntsAre vx (onesG row wd (i + 1))) {rvs : List Value} (hM : ∀ v ∈ vx, v ∈ rvs) :
    GEnd h₀ L (KstS (σ := Addr × List Value × Nat) (fun c => (c.1, W.listOf c.2.1.toArray c.2.2) :: (l, o) :: news) (fun c => [("found", .ref c.1)]) (fun _ => True) "low" [] m₀ (fun _ c => l < c.1 ∧ AllLt c.1 news ∧ IntsAre c.2.1 (onesG row wd (i + 1)) ∧ (∀ v ∈ c.2.1, v ∈ rvs)) []) own s₁ { s₁ with heap := h', toks := tk } := by
  refine gst_end (x', vx, k) F N ?_ ?_ ?_ ?_ ?_ ⟨?_, ?_, hI, hM⟩
  · intro p hp
    rcases List.mem_cons.mp hp with rfl | hp
    · exact .head _
    · rcases List.mem_cons.mp hp with rfl | hp
      · exact .tail _ (.tail _ (.tail _ (.head _)))
      · exact .tail _ (.tail _ (.tail _ (.tail _ (List.mem_append_left _ hp))))
  · exact fun p hp => .tail _ (.tail _ (.tail _ (.tail _ (List.mem_append_right _ hp))))
  · intro p hp q hq
    rcases List.mem_cons.mp hq with rfl | hq
    · exact Nat.ne_of_lt (hlt p (.tail _ (.tail _ (.tail _ (List.mem_append_right _ hp)))))
    · exact hoff p hp q (.tail _ hq)
  · intro p hp
    rw [List.mem_singleton.mp hp]
    exact h1
  · intro z hz hps _
    exact hr z hz (hps _ (.head _))
  · exact hlt _ (.tail _ (.tail _ (.head _)))
  · exact allLt_of fun p hp => hlt p (.tail _ (.tail _ (.tail _ (List.mem_append_left _ hp))))
theorem ones_retV {Q : Value → Shared → Prop} {h₀ : Heap} {L : Addr} {m : Str → Option Value} {s : Shared} {news : Led} {c c' : List Int} {x : Addr} {vx : List Value} {k : Nat} {p2 : Addr × Obj} {h' : Heap} {tk : Nat} {rvs : List Value}
    (hret : ∀ (r : Value) (news' : Led) (h' : Heap) (tk' : Nat), OnPostV news rvs c r news' → Fr h₀ L h' m → News h₀ L h' news' → Q r { s with heap := h', toks := tk' })
    (F : Fr h₀ L h' m) (N : News h₀ L h' ((x, W.listOf vx.toArray k) :: p2 :: news)) (hI : IntsAre vx c') (e : c' = c) (ho : AllLt x news) (hM : ∀ v ∈ vx, v ∈ rvs) : Q (.ref x) { s with heap := h', toks := tk } := by
  subst e
  have P : OnPostV news rvs c' (.ref x) ((x, W.listOf vx.toArray k) :: news) := ⟨x, vx, k, rfl, rfl, hI, ho, hM⟩
  refine hret _ _ _ _ P F fun p hp => N p ?_
  cases List.mem_cons.mp hp with
  | inl h => rw [h]; exact .head _
  | inr h => exact .tail _ (.tail _ h)
theorem pick_len {vs : List Value} {lo hi : Option Int} : (kms_pick vs lo hi).length ≤ vs.length := by
  unfold kms_pick
  rw [List.length_take, List.length_drop]; omega
theorem allLt_mem {x : Addr} {l : Led} (h : AllLt x l) : ∀ p ∈ l, p.1 < x := kst_ltOf h
theorem ones_mem {vx vs : List Value} {lo hi : Option Int} (h : ∀ v ∈ vx, v ∈ vs) : ∀ v ∈ vx ++ kms_pick vs lo hi, v ∈ vs := fun v hv => (List.mem_append.mp hv).elim (h v) (pick_mem v)
theorem ones_ints {vx vs : List Value} {row : List Int} {wd : Int} {i : Nat} (h : IntsAre vx (onesG row wd i)) (hI : IntsAre vs row) : IntsAre (vx ++ kms_pick vs (some (bl row (wd + (i : Int) * (2 * wd)) : Int)) (some (bl row (wd + (i : Int) * (2 * wd) + wd) : Int))) (onesG row wd (i + 1)) :=
  h.append (pick_run_ints hI (by omega) (by omega))
theorem ones_vals {w : World} {news : Led} {l : Addr} {n : Nat} {vs : List Value} {row : List Int} {p wd : Int} {t : Tok} (hm : (l, W.listOf vs.toArray n) ∈ news) (hI : IntsAre vs row) (hl : row.length ≤ 4) (hl1 : 1 ≤ row.length) (hso : row.Pairwise (· ≤ ·)) (hb : ∀ a ∈ row, 0 ≤ a ∧ a ≤ 7)
    (hp : 0 ≤ p ∧ p ≤ 3) (hwd : 1 * 2 ^ p.toNat = wd) (hw1 : 1 ≤ wd ∧ wd ≤ 4) :
    Claim 8 w 231 news [.ref l, .int p t] (OnPostV news vs (onesF row wd)) := by
  k_with_none
  (k_with "call builtin:hasattr" => ((k_here; k_dflt (refine' hasattr_listK' ?wq_k1 ?wq_k2 ?wq_k3 ?_; (case wq_k1 => k_asm); (case wq_k2 => k_asm); (case wq_k3 => k_mem); k_whole); intro h' F' N')))
  (k_with "binaryOp Add ref ref" => ((k_here; k_dflt (refine' add_vals ?wq_k1 ?wq_k2 ?wq_k3 ?wq_k4 ?wq_k5 ?wq_k6 ?_; (case wq_k1 => k_asm); (case wq_k2 => k_asm); (case wq_k3 => k_mem); (case wq_k4 => k_mem); (case wq_k5 => assumption); (case wq_k6 => assumption); k_whole); intro D' h' F' N' l1)))
  (k_with "mine asks" => ((
  (case wq_k1 => k_asm); (case wq_k2 => k_asm); (case wq_k3 => k_asm); (case wq_k4 => k_asm); (case wq_k5 => k_asm); (case wq_k6 => exact rfl); (case wq_k7 => ((try simp only [ktrTop, depth_under_make, depth_under_kw, depth_in1, depth_deeper, depth_caller]); omega)); (case wq_k8 => ((try simp only [ktrTop, units_in1, units_deeper, Around.mark_units, units_caller]); omega)))))
  (k_with "call ref" => ((k_here; (with_reducible show wpAny _ _ (call (Value.ref 48) [Value.ref _, Value.int _ _] _) _ _ _); k_dflt (refine' useC (bl_spec ?wq_hm ?wq_hi ?wq_hl ?wq_hs) ?wq_k1 ?wq_k2 ?wq_k3 ?wq_k4 ?wq_k5 ?wq_k6 ?wq_k7 ?wq_k8 ?_; walk_at "mine asks"; (case wq_hm => k_mem); (case wq_hi => assumption); (case wq_hl => omega); (case wq_hs => assumption); intro r' n' h' tk' hp' F' N'; obtain ⟨hp1, t', hp2⟩ := hp'; subst hp1; subst hp2; (try dsimp only)))))
  (k_with "call ref" => ((k_here; (with_reducible show wpAny _ _ (call (Value.ref 76) [Value.int 1 _, Value.int _ _] _) _ _ _); k_dflt (refine' useC (lsh_spec ?wq_h1 ?wq_h2) ?wq_k1 ?wq_k2 ?wq_k3 ?wq_k4 ?wq_k5 ?wq_k6 ?wq_k7 ?wq_k8 ?_; (case wq_h1 => assumption); (case wq_h2 => assumption); walk_at "mine asks"; intro r' n' h' tk' hp' F' N'; obtain ⟨hp1, t', hp2⟩ := hp'; subst hp1; subst hp2; (try dsimp only)))))
  (k_with "subscriptTail Name Slice ref ref" => ((k_here; (with_reducible show wpAny _ _ (subscriptTail _ (PySem.Expr.Slice _ _ none _) (Value.ref _) (Value.ref _)) _ _ _); k_dflt (refine' slice_vals ?wq_F ?wq_N ?wq_l ?wq_z ?wq_p ?wq_q ?_ ?wq_s ?wq_t; (case wq_F => k_asm); (case wq_N => k_asm); (case wq_l => k_mem); (case wq_z => assumption); (case wq_p => kmk_part); (case wq_q => kmk_part); (case wq_s => with_unfolding_all rfl); (case wq_t => kmk_pure)); intro D' h' F' N' l1; k_lt l1)))
  (k_with "call ref" => ((k_here; (with_reducible show wpAny _ _ (call (Value.ref 118) [Value.ref _, Value.ref _] _) _ _ _); k_dflt (refine' useC (concat_vals ?wq_hm ?wq_hm2 ?wq_hl ?wq_hl2) ?wq_k1 ?wq_k2 ?wq_k3 ?wq_k4 ?wq_k5 ?wq_k6 ?wq_k7 ?wq_k8 ?_; walk_at "mine asks"; (case wq_hm => k_mem); (case wq_hm2 => k_mem); (case wq_hl => walk_at "mine len"); (case wq_hl2 => walk_at "mine len"); intro r' n' h' tk' hp' F' N'; obtain ⟨x', hp1, hp2, hlt'⟩ := hp'; subst hp2; subst hp1; (try dsimp only)))))
  (k_with "mine len" => (first | assumption | exact Nat.le_trans pick_len (by assumption) | omega))
  intro mean mg mb dp un gd cn cs a1 ccd cl outer A₀ base h₀ L m s Q E B F X N T hk hdp hun hret
  obtain ⟨ck, c2, c3, c4, c5⟩ := cs
  cases hk
  replace N := news_add N hm
  have hMk : KstMark := kstMark
  have hlast : 0 ≤ row.getD (-1 + (row.length : Int)).toNat 0 ∧ row.getD (-1 + (row.length : Int)).toNat 0 ≤ 7 := by
    have hk : (-1 + (row.length : Int)).toNat < row.length := by omega
    rw [List.getD_eq_getElem?_getD, List.getElem?_eq_getElem hk]
    exact hb _ (List.getElem_mem hk)
  obtain ⟨r1, r2, r3⟩ := rs_facts hp hwd hw1 hlast
  (repeat ((fail_if_success (first | with_reducible show wpAny _ _ (pyIter (Value.ref _)) _ _ _)); walk_at "mine step"))
  rename Fr _ _ _ _ => F9
  rename News _ _ _ _ => N9
  rename IsRange _ _ _ _ _ _ _ _ => R9
  (rename _ < _ ∧ AllLt _ _ => l9)
  with_unfolding_all refine' gst_range (σ := Addr × List Value × Nat) (fun c => (c.1, W.listOf c.2.1.toArray c.2.2) :: (l, W.listOf vs.toArray n) :: news) (fun c => [("found", .ref c.1)]) [] (fun i c => l < c.1 ∧ AllLt c.1 news ∧ IntsAre c.2.1 (onesG row wd i) ∧ (∀ v ∈ c.2.1, v ∈ vs)) (_, [], 0) rfl R9 r1 r2 F9 N9 ?hk ?hp ?turn ?done
  case hk => 
    intro p hp
    rw [List.mem_singleton.mp hp]
    rfl
  case hp => exact ⟨l9.1, l9.2, .nil, fun _ h => nomatch h⟩
  case turn =>
    clear F9 N9 l9 R9
    rintro ⟨x, vx, kx⟩ i t9 u h9 tk9 own hi hoff ⟨hx1, hx2, hx3, hxM⟩ F9 N9
    have hvl := hI.length
    have hvz : vs.length ≤ 1000 := by omega
    have hxl := hx3.length
    have hx4 := onesG_len row wd hl i
    have hx5 := Nat.lt_of_lt_of_le hi r3
    have hxz : vx.length ≤ 1000 := by dsimp only at hxl; omega
    dsimp only [kstB, AllLt] at *
    simp only [List.cons_append] at N9
    simp only [List.map_cons] at hoff
    k_steps
    refine ones_endV (by assumption) (by assumption) (allLt_mem (by assumption)) hoff rfl ?_ (ones_ints hx3 hI) (ones_mem hxM)
    intro z z1 z2
    simp only [z1, z2, if_false, List.contains_nil, Bool.false_eq_true]
  case done =>
    clear F9 N9 l9 R9
    rintro ⟨x, vx, kx⟩ u h9 tk9 ⟨hx1, hx2, hx3, hxM⟩ F9 N9
    dsimp only [kstB, AllLt] at *
    k_steps
    exact ones_retV hret (by assumption) (by assumption) hx3 rfl hx2 hxM
end Mine
namespace Mine
/-- a def with cells is entered, and no token is lost -/
theorem enter_T {prog : Program} {w : World} {A A₀ : Around} {s : Shared} {K : Frag} {L : Addr} {h₀ base : Heap} {m mg mb : Str → Option Value} {news : Led} {p : Program} {loose : List Str} {mean : ExcName → Option Value}
    {env : Env} {outer : List Env} {R : Result → Shared → Prop} {name qual : Str} {params : Arguments} {body : List Stmt} {scope : Scope} {dV kV doc pm cdv ct oc : Value} {an od : Option Addr} {osl : Array (Option Value)} {f : Addr} {args : Args} {binds : List (Str × Value)}
    (B : Below A₀ base outer h₀) (F : Fr h₀ L s.heap m) (X₀ : K.In h₀) (N : News h₀ L s.heap news) (T : Top p loose mean mg mb h₀) (hA : A.frames = some (env :: outer)) (hf : env.frame = some L) (hke : env.scope.kind = .function)
    (ho : K.lookup f = some ⟨oc, od, .func (fnOf name qual params body scope dV kV doc pm an cdv ct), osl⟩) (hcd : codeIn K cdv qual = true) (hroom : A.depth < recursionLimit)
    (hbind : BindsTo s (fnOf name qual params body scope dV kV doc pm an cdv ct) args binds) (hkind : (binds.all fun y => scope.names.lookup y.1 == some .local || scope.names.lookup y.1 == some .cell) = true)
    (hnd : ((cellsFrom 0 scope.names []).map (·.1)).Nodup)
    (h : ∀ g L' h₁ tk cells, @LE.le Nat _ s.toks tk → Fr h₀ L g m → Fr g L' h₁ (bindL (envOfC qual scope L' f cdv).kindOf binds fun _ => none) → News g L' h₁ (cells ++ news) →
      CellsAre (bindC (envOfC qual scope L' f cdv).kindOf binds fun _ => none) (cellsFrom (L' + 1) scope.names []) cells → Below A base (env :: outer) g → K.In g → Top p loose mean mg mb g → (∀ p ∈ news, p.1 < L') →
      wpAny (model prog w) (A.deeper (envOfC qual scope L' f cdv)) (execs body (envOfC qual scope L' f cdv))
        (fun fl s' => LeaveK h₀ L m g R (match fl with | .ret v => v | _ => .none) s')
        (fun e s' => wpAny (model prog w) (A.deeper (envOfC qual scope L' f cdv)) (leaving (envOfC qual scope L' f cdv) e) (fun _ s'' => R (.error e) s'') (fun e' s'' => R (.error e') s'') s')
        { s with heap := h₁, toks := tk })
    (hco : scope.isCoroutine = false) (hgen : scope.isGenerator = false) (hk : scope.kind = .function) : codeAny (model prog w) A (.call (.ref f) args) R s := by
  obtain ⟨FG, BG, st, lv⟩ := groundX (R := R) B F N hA hf hke
  refine codeAny_call_function hroom ((X₀.keeps F.keep) _ _ ho) rfl hco hgen rfl (codeRec_of (X₀.keeps F.keep) hcd) (hbind _ _ _ _ ?_)
  refine wpAny_grow (wpAny_newFunctionEnv_cells hk (kindsX hkind _) fun env' he s' x htk => ?_)
  subst he
  obtain ⟨h₁, tk, rfl, _⟩ := x.done
  have hk₁ := x.toInCall.keep
  refine ⟨(T.nolimit.keeps F.keep).keeps hk₁, codeAny_func ?_⟩
  obtain ⟨cells, NC, Y⟩ := Cl.news (h₀ := s.heap) (Nat.le_refl _) fun n c hm => ⟨x.cell n c (lookup_of_mem_nodup (cellsFrom_names scope.names 0 (s.heap.objs.size + 1) [] [] rfl ▸ hnd) hm), x.above n c hm⟩
  have hidden : ∀ p ∈ news, (hideAll s.heap (news.map (·.1))).get? p.1 = none := fun p hp => hideAll_none _ (List.mem_map_of_mem hp)
  have N₁ : News (hideAll s.heap (news.map (·.1))) s.heap.objs.size h₁ (cells ++ news) := fun p hp => by
    rcases List.mem_append.mp hp with hp | hp
    · refine ⟨(NC p hp).1, (NC p hp).2.1, ?_⟩
      cases q : (hideAll s.heap (news.map (·.1))).get? p.1 with
      | none => rfl
      | some o => have := of_hideAll _ q; rw [(NC p hp).2.2] at this; cases this
    · exact ⟨hk₁ _ _ (N p hp).1, Nat.ne_of_lt (Heap.lt_size (N p hp).1), hidden p hp⟩
  exact wpAny_mono (h _ s.heap.objs.size h₁ tk cells htk FG ⟨x.toInCall.ns, fun b o e => hk₁ b o (of_hideAll _ e), Nat.le_of_eq (hideAll_size _ _)⟩ N₁ Y BG (X₀.keeps st) (T.keeps st) fun p hp => Heap.lt_size (N p hp).1) (fun fl s' hl => lv _ _ hl) fun _ _ y => y
end Mine
namespace Mine
-- the plain part
noncomputable def bitOf (o p : Int) : Int := Builtin.bitAnd (Int.fdiv o (2 ^ p.toNat)) 1
noncomputable def newOf (p o : Int) : Int := Int.fdiv o (2 ^ (p + 1).toNat) * 2 ^ (p + 1).toNat
noncomputable abbrev PSt := List Int × List (Int × Int) × Bool
noncomputable def addF (p : Int) (s : PSt) (old : Int) : PSt := (s.1.eraseIdx (bl s.1 old), s.2.1 ++ [(old, newOf p old)], s.2.2 && decide (bl s.1 old < s.1.length))
noncomputable def setF (wd : Int) (j : Nat) (hs : List (Int × Int)) : List (Int × Int) := (hs.take j).map (fun q => (q.1, Builtin.bitOr q.2 wd)) ++ hs.drop j
noncomputable def needF (most wd : Int) (row : List Int) : Int := ((onesF row wd).length : Int).fmod (most + 1)
noncomputable def turnF (most p wd : Int) (s : PSt) : PSt :=
  if 0 < needF most wd s.1 ∧ most + 1 - needF most wd s.1 ≤ (s.2.1.length : Int) then (s.1, setF wd (most + 1 - needF most wd s.1).toNat s.2.1, s.2.2)
  else if 0 < needF most wd s.1 then ((onesF s.1 wd).take (needF most wd s.1).toNat).foldl (addF p) s else s
noncomputable def ansF (most : Int) (row : List Int) : Nat → PSt
  | 0 => (row, [], true)
  | i + 1 => turnF most (2 - ((i : Nat) : Int)) (2 ^ (2 - ((i : Nat) : Int)).toNat) (ansF most row i)
noncomputable def knownF (p : Int) (hs : List (Int × Int)) : Int := cnt (hs.map fun q => bitOf q.1 p) 1
noncomputable def okT (p wd c : Int) (s : PSt) : Bool := decide (1 ≤ s.1.length) && decide (s.2.1.length ≤ 3) && decide (((onesF s.1 wd).length : Int) + knownF p s.2.1 = c)
/-- the answer never meets a count that is another one, nor an empty row -/
noncomputable def AnsOk (most : Int) (row cs : List Int) : Prop := (∀ i : Nat, i < 3 → okT (2 - (i : Int)) (2 ^ (2 - (i : Int)).toNat) (cs.getD (2 - (i : Int)).toNat 0) (ansF most row i) = true) ∧ (ansF most row 3).2.2 = true
-- the objects
/-- a held pair: where it lies, the old heap and the new one -/
structure PC where
  a : Addr
  n : Nat
  o : Int
  to : Tok
  x : Int
  tx : Tok
noncomputable def PC.ent (q : PC) : Addr × Obj := (q.a, W.listOf [Value.int q.o q.to, Value.int q.x q.tx].toArray q.n)
noncomputable abbrev heldO (ps : List PC) (n : Nat) : Obj := W.listOf (ps.map fun q => Value.ref q.a).toArray n
noncomputable def pvals (ps : List PC) : List Value := ps.flatMap fun q => [Value.int q.o q.to, Value.int q.x q.tx]
noncomputable def pints (ps : List PC) : List (Int × Int) := ps.map fun q => (q.o, q.x)
structure AnC where
  rv : List Value
  rn : Nat
  row : List Int
  hn : Nat
  ps : List PC
  oc : Obj
/-- what holds of the answer's objects and tokens, over the rest of the ledger -/
structure AnP (most : Int) (row0 : List Int) (vs V : List Value) (rest : Led) (fix : List Addr) (st : PSt) (T : Nat) (c : AnC) : Prop where
  ir : IntsAre c.rv c.row
  mr : ∀ v ∈ c.rv, v ∈ vs
  sub : c.row.Sublist row0
  nd : (c.ps.map (·.a)).Nodup
  off : ∀ q ∈ c.ps, ∀ p ∈ rest, p.1 ≠ q.a
  offF : ∀ q ∈ c.ps, q.a ∉ fix
  bd : ∀ q ∈ c.ps, Value.int q.o q.to ∈ vs ∧ (0 ≤ q.o ∧ q.o ≤ 7) ∧ (0 ≤ q.x ∧ q.x ≤ 7)
  st1 : st.1 = c.row
  st2 : st.2.1 = pints c.ps
  cel : ∃ v, c.oc.data = .cell v
  tk2 : 2 ≤ T
  tk : TkOk (pvals c.ps ++ V) T
theorem AnP.up {most : Int} {row0 : List Int} {vs V : List Value} {rest : Led} {fix : List Addr} {st : PSt} {T T' : Nat} {c : AnC} (h : AnP most row0 vs V rest fix st T c) (hT : T ≤ T') : AnP most row0 vs V rest fix st T' c :=
  { h with tk2 := Nat.le_trans h.tk2 hT, tk := h.tk.up hT }
theorem pl_item {i : Nat} {v : Value} {t0 t1 t2 : Tok} (h : [Value.int 2 t0, Value.int 1 t1, Value.int 0 t2][i]? = some v) : i < 3 ∧ ∃ p t, v = .int p t ∧ p = 2 - (i : Int) ∧ (0 ≤ p ∧ p ≤ 3) ∧ p ≤ 2 ∧ ∃ wd, 1 * 2 ^ p.toNat = wd ∧ 1 ≤ wd ∧ wd ≤ (4 : Int) := by
  match i, h with
  | 0, h => exact ⟨by omega, 2, t0, (Option.some.inj h).symm, rfl, by omega, by omega, 4, by decide, by omega, by omega⟩
  | 1, h => exact ⟨by omega, 1, t1, (Option.some.inj h).symm, rfl, by omega, by omega, 2, by decide, by omega, by omega⟩
  | 2, h => exact ⟨by omega, 0, t2, (Option.some.inj h).symm, rfl, by omega, by omega, 1, by decide, by omega, by omega⟩
  | n + 3, h => exact absurd h (by simp)
theorem ap_0 {most : Int} {row : List Int} {vs V : List Value} {rest : Led} {fix : List Addr} {T T' n n' : Nat} {oc : Obj} (hI : IntsAre vs row) (hc : ∃ v, oc.data = .cell v) (h2 : 2 ≤ T) (hT : TkOk V T) (h : T ≤ T') : AnP most row vs V rest fix (ansF most row 0) T' ⟨vs, n, row, n', [], oc⟩ :=
  ⟨hI, fun _ h => h, List.Sublist.refl _, List.nodup_nil, fun _ h => (nomatch h), fun _ h => (nomatch h), fun _ h => (nomatch h), rfl, rfl, hc, Nat.le_trans h2 h, hT.up h⟩
noncomputable def anLed (h0 r0 ce k : Addr) (ko : Obj) (rest : Led) (c : AnC) : Led := (h0, heldO c.ps c.hn) :: (r0, W.listOf c.rv.toArray c.rn) :: (ce, c.oc) :: (k, ko) :: (c.ps.map PC.ent ++ rest)
theorem an_loop {prog : Program} {w : World} {A : Around} {E : Value → Shared → Prop} {s : Shared} {env : Env} {h₀ : Heap} {target : PySem.Expr} {body : List Stmt} {Q : Flow → Shared → Prop} {m₀ : Str → Option Value} {h0 r0 ce k pl l : Addr} {ko oc lo : Obj} {news : Led} {vs V : List Value} {row : List Int} {most : Int} {t2 t1 t0 : Tok} {rn hn T : Nat}
    (hh : A.handled = none) (F : Fr h₀ env.locals s.heap m₀) (N : News h₀ env.locals s.heap ((pl, W.listOf [Value.int 2 t2, Value.int 1 t1, Value.int 0 t0].toArray 0) :: (h0, W.listOf #[] hn) :: (r0, W.listOf vs.toArray rn) :: (ce, oc) :: (k, ko) :: (l, lo) :: news))
    (hI : IntsAre vs row) (hc : ∃ v, oc.data = .cell v) (hp2 : 2 ≤ T) (hT : TkOk V T) (hTs : T ≤ s.toks)
    (turn : ∀ (c : AnC) (i : Nat) (v : Value) (u : Str → Option Value) (h : Heap) (tk : Nat) (own : Led), [Value.int 2 t2, Value.int 1 t1, Value.int 0 t0][i]? = some v → OwnOff own ((anLed h0 r0 ce k ko ((pl, W.listOf [Value.int 2 t2, Value.int 1 t1, Value.int 0 t0].toArray 0) :: (l, lo) :: news) c).map (·.1)) →
      AnP most row vs V ((pl, W.listOf [Value.int 2 t2, Value.int 1 t1, Value.int 0 t0].toArray 0) :: (l, lo) :: news) [h0, r0, ce, k] (ansF most row i) tk c →
      Fr h₀ env.locals h (fun y => if y = "ones" then u y else kstB (fun z => if (["known", "need", "pair", "old"] : List Str).contains z then u z else m₀ z) [] y) →
      News h₀ env.locals h (anLed h0 r0 ce k ko ((pl, W.listOf [Value.int 2 t2, Value.int 1 t1, Value.int 0 t0].toArray 0) :: (l, lo) :: news) c ++ own) →
      wpAny (model prog w) A (assign target env v) (fun _ s₂ => wpAny (model prog w) A (execs body env) (TPost h₀ env.locals (fun kk m nx => KstS (anLed h0 r0 ce k ko ((pl, W.listOf [Value.int 2 t2, Value.int 1 t1, Value.int 0 t0].toArray 0) :: (l, lo) :: news)) (fun _ => []) (fun _ => True) "ones" ["known", "need", "pair", "old"] m₀
        (fun _ => AnP most row vs V ((pl, W.listOf [Value.int 2 t2, Value.int 1 t1, Value.int 0 t0].toArray 0) :: (l, lo) :: news) [h0, r0, ce, k] (ansF most row (i + 1)) kk) [] m nx) own { s with heap := h, toks := tk } Q) E s₂) E { s with heap := h, toks := tk })
    (done : ∀ (c : AnC) (u : Str → Option Value) h tk, AnP most row vs V ((pl, W.listOf [Value.int 2 t2, Value.int 1 t1, Value.int 0 t0].toArray 0) :: (l, lo) :: news) [h0, r0, ce, k] (ansF most row 3) tk c →
      Fr h₀ env.locals h (fun y => if y = "ones" then u y else kstB (fun z => if (["known", "need", "pair", "old"] : List Str).contains z then u z else m₀ z) [] y) →
      News h₀ env.locals h (anLed h0 r0 ce k ko ((pl, W.listOf [Value.int 2 t2, Value.int 1 t1, Value.int 0 t0].toArray 0) :: (l, lo) :: news) c) → Q .next { s with heap := h, toks := tk })
    (hE : PassesOwn (model prog w) A env E := by passes_own) :
    wpAny (model prog w) A (pyIter (.ref pl)) (fun it s₂ => ForAt prog w A env target body Q E it s₂) E s := by
  refine tT_list (σ := AnC) "ones" (anLed h0 r0 ce k ko ((pl, W.listOf [Value.int 2 t2, Value.int 1 t1, Value.int 0 t0].toArray 0) :: (l, lo) :: news)) (fun _ => []) ["known", "need", "pair", "old"]
    (fun i T c => AnP most row vs V ((pl, W.listOf [Value.int 2 t2, Value.int 1 t1, Value.int 0 t0].toArray 0) :: (l, lo) :: news) [h0, r0, ce, k] (ansF most row i) T c) (fun _ _ _ _ h h' => AnP.up h' h) ⟨vs, rn, row, hn, [], oc⟩
    (fun c => .tail _ (.tail _ (.tail _ (.tail _ (List.mem_append_right _ (.head _)))))) hh F ?_ (fun _ h => nomatch h) (ap_0 hI hc hp2 hT hTs) turn done hE
  intro p hp
  refine N p ?_
  simp only [anLed, List.mem_cons, List.map_nil, List.nil_append] at hp ⊢
  rcases hp with h | h | h | h | h | h | h
  · exact .inr (.inl h)
  · exact .inr (.inr (.inl h))
  · exact .inr (.inr (.inr (.inl h)))
  · exact .inr (.inr (.inr (.inr (.inl h))))
  · exact .inl h
  · exact .inr (.inr (.inr (.inr (.inr (.inl h)))))
  · exact .inr (.inr (.inr (.inr (.inr (.inr h)))))
theorem an_tail {h0 r0 ce k pl l : Addr} {po lo : Obj} {news own : Led} {ps : List PC} (h1 : @LT.lt Nat _ h0 pl) (h2 : @LT.lt Nat _ r0 pl) (h3 : @LT.lt Nat _ ce pl) (h4 : @LT.lt Nat _ l ce) (h5 : @LT.lt Nat _ ce r0) (h6 : @LT.lt Nat _ r0 h0) (h7 : AllLt ce news)
    (ho : OwnOff own (h0 :: r0 :: ce :: k :: (ps.map PC.ent ++ (pl, po) :: (l, lo) :: news).map (·.1))) (hF : ∀ q ∈ ps, q.a ∉ [h0, r0, ce, k]) : OwnOff (ps.map PC.ent ++ (pl, po) :: (l, lo) :: news ++ own) [h0, r0, ce] := by
  intro p hp b hb
  have hb3 : b = h0 ∨ b = r0 ∨ b = ce := by simpa using hb
  rcases List.mem_append.mp hp with hp | hp
  · rcases List.mem_append.mp hp with hp | hp
    · obtain ⟨q, hq, rfl⟩ := List.mem_map.mp hp
      intro e
      refine hF q hq ?_
      have e' : q.a = b := e
      rw [e']
      rcases hb3 with rfl | rfl | rfl
      · exact .head _
      · exact .tail _ (.head _)
      · exact .tail _ (.tail _ (.head _))
    · refine neN (a := p.1) (b := b) ?_
      rcases List.mem_cons.mp hp with rfl | hp
      · rcases hb3 with rfl | rfl | rfl <;> dsimp only <;> omega
      · rcases List.mem_cons.mp hp with rfl | hp
        · rcases hb3 with rfl | rfl | rfl <;> dsimp only <;> omega
        · have h8 := ltN (kst_ltOf h7 p hp)
          rcases hb3 with rfl | rfl | rfl <;> omega
  · refine ho p hp b ?_
    rcases hb3 with rfl | rfl | rfl
    · exact .head _
    · exact .tail _ (.head _)
    · exact .tail _ (.tail _ (.head _))
theorem ok_facts {most p wd : Int} {row row' cs : List Int} {ps : List PC} {i : Nat} (hok : AnsOk most row cs) (hi : i < 3) (hp : p = 2 - (i : Int)) (hwd : 1 * 2 ^ p.toNat = wd) (h1 : (ansF most row i).1 = row') (h2 : (ansF most row i).2.1 = pints ps) :
    1 ≤ row'.length ∧ ps.length ≤ 3 ∧ ((onesF row' wd).length : Int) + knownF p (pints ps) = cs.getD p.toNat 0 := by
  have h := hok.1 i hi
  subst hp
  rw [Int.one_mul] at hwd
  unfold okT at h
  rw [h1, h2, hwd] at h
  simp only [Bool.and_eq_true, decide_eq_true_eq] at h
  obtain ⟨⟨a, b⟩, c⟩ := h
  exact ⟨a, by simpa [pints] using b, c⟩
theorem pair_item {prog : Program} {w : World} {A : Around} {E : Value → Shared → Prop} {s : Shared} {h₀ : Heap} {L : Addr} {news : Led} {q : PC} {value slice : PySem.Expr} {u : Tok} {Q : Value → Shared → Prop} (N : News h₀ L s.heap news) (hm : q.ent ∈ news) (h : Q (.int q.o q.to) s)
    (hs : subscripted slice false (.ref q.a) (.int 0 u) = operate [.ref q.a, .int 0 u] (getItem (.ref q.a) (.int 0 u)) := by with_unfolding_all rfl) :
    wpAny (model prog w) A (subscriptTail value slice (.ref q.a) (.int 0 u)) Q E s := by
  have hL : s.heap.IsList q.a [Value.int q.o q.to, Value.int q.x q.tx].toArray := ⟨_, (N _ hm).1, rfl, q.n, rfl⟩
  exact tail_any hL.typeIs slot_list_getitem.lookup (wpAny_getItem_list hL (Int.le_refl 0) (by decide) (by rfl) h) hs
theorem pair_item1 {prog : Program} {w : World} {A : Around} {E : Value → Shared → Prop} {s : Shared} {h₀ : Heap} {L : Addr} {news : Led} {q : PC} {value slice : PySem.Expr} {u : Tok} {Q : Value → Shared → Prop} (N : News h₀ L s.heap news) (hm : q.ent ∈ news) (h : Q (.int q.x q.tx) s)
    (hs : subscripted slice false (.ref q.a) (.int 1 u) = operate [.ref q.a, .int 1 u] (getItem (.ref q.a) (.int 1 u)) := by with_unfolding_all rfl) :
    wpAny (model prog w) A (subscriptTail value slice (.ref q.a) (.int 1 u)) Q E s := by
  have hL : s.heap.IsList q.a [Value.int q.o q.to, Value.int q.x q.tx].toArray := ⟨_, (N _ hm).1, rfl, q.n, rfl⟩
  exact tail_any hL.typeIs slot_list_getitem.lookup (wpAny_getItem_list hL (by decide) (by decide) (by rfl) h) hs
theorem ref_at {ps : List PC} {i : Nat} {v : Value} (h : (ps.map fun q => Value.ref q.a)[i]? = some v) : ∃ q, ps[i]? = some q ∧ v = .ref q.a ∧ q ∈ ps := by
  rw [List.getElem?_map] at h
  obtain ⟨q, hq, e⟩ := Option.map_eq_some_iff.mp h
  exact ⟨q, hq, e.symm, List.mem_of_getElem? hq⟩
/-- what the bits that were found keep -/
noncomputable def KBit (ps : List PC) (p : Int) (T : Nat) (ys : List Value) : Prop := 2 ≤ T ∧ IntsAre ys ((ps.take ys.length).map fun q => bitOf q.o p) ∧ ∀ y ∈ ys, ∃ i t, y = .int i t ∧ @LT.lt Nat _ 0 t ∧ @LT.lt Nat _ t T
theorem KBit.up {ps : List PC} {p : Int} {T T' : Nat} {ys : List Value} (hT : T ≤ T') (h : KBit ps p T ys) : KBit ps p T' ys :=
  ⟨Nat.le_trans h.1 hT, h.2.1, fun y hy => by obtain ⟨i, t, e, a, b⟩ := h.2.2 y hy; exact ⟨i, t, e, a, Nat.lt_of_lt_of_le b hT⟩⟩
theorem KBit.add {ps : List PC} {p : Int} {T T' : Nat} {ys : List Value} {q : PC} {x : Int} {t : Tok} (h : KBit ps p T ys) (hq : ps[ys.length]? = some q) (hx : x = bitOf q.o p) (h1 : @LE.le Nat _ T t) (h2 : @LT.lt Nat _ t T') : KBit ps p T' (ys ++ [.int x t]) := by
  have hT : T ≤ T' := Nat.le_trans h1 (Nat.le_of_lt h2)
  refine ⟨Nat.le_trans h.1 hT, ?_, fun y hy => ?_⟩
  · rw [List.length_append, List.length_singleton, List.take_add_one, hq, List.map_append]
    subst hx
    exact IntsAre.append h.2.1 (.cons _ _ .nil)
  · rcases List.mem_append.mp hy with hy | hy
    · exact (h.up hT).2.2 y hy
    · exact ⟨x, t, List.mem_singleton.mp hy, Nat.lt_of_lt_of_le (Nat.lt_of_lt_of_le (by decide) h.1) h1, h2⟩
theorem el_end {h₀ : Heap} {L : Addr} {m : Str → Option Value} {s₁ : Shared} {all : Led} {K : Nat → Value → Prop} {y : Value} {h' : Heap} {tk : Nat} (F : Fr h₀ L h' m) (N : News h₀ L h' all) (hK : K tk y) : ElEnd h₀ L m s₁ all K y { s₁ with heap := h', toks := tk } := ⟨h', tk, rfl, F, N, hK⟩
theorem ent_mem {q : PC} {ps : List PC} {a b tl : Led} (h : ps.map PC.ent ++ a ++ b = tl) (hq : q ∈ ps) : q.ent ∈ tl := h ▸ List.mem_append_left _ (List.mem_append_left _ (List.mem_map_of_mem hq))
theorem bit_all : ∀ o < 8, ∀ p < 4, 0 ≤ bitOf ((o : Nat) : Int) ((p : Nat) : Int) ∧ bitOf ((o : Nat) : Int) ((p : Nat) : Int) ≤ 7 := by decide +kernel
theorem bit_bd {o p : Int} (h : 0 ≤ o ∧ o ≤ 7) (hp : 0 ≤ p ∧ p ≤ 3) : 0 ≤ bitOf o p ∧ bitOf o p ≤ 7 := by
  have := bit_all o.toNat (by omega) p.toNat (by omega)
  rw [show ((o.toNat : Nat) : Int) = o from by omega, show ((p.toNat : Nat) : Int) = p from by omega] at this
  exact this
noncomputable def Cmp1 (T : Nat) (ys : List Value) : Prop := ∀ u, @LE.le Nat _ T u → CmpOk ys 1 u
theorem cmp1_of {ps : List PC} {p : Int} {T : Nat} {ys vs : List Value} (h : KBit ps p T ys) (hl : ys.length = ps.length) (hb : ∀ q ∈ ps, Value.int q.o q.to ∈ vs ∧ (0 ≤ q.o ∧ q.o ≤ 7) ∧ (0 ≤ q.x ∧ q.x ≤ 7)) (hp : 0 ≤ p ∧ p ≤ 3) :
    IntsAre ys (ps.map fun q => bitOf q.o p) ∧ Cmp1 T ys := by
  obtain ⟨h2, hI, ht⟩ := h
  rw [hl, List.take_length] at hI
  refine ⟨hI, fun u hu => cmp_fresh ht hu (by omega) hI fun n hn => ?_⟩
  obtain ⟨q, hq, rfl⟩ := List.mem_map.mp hn
  exact bit_bd (hb q hq).2.1 hp
theorem known_eq (ps : List PC) (p : Int) : cnt (ps.map fun q => bitOf q.o p) 1 = knownF p (pints ps) := by
  unfold knownF pints
  rw [List.map_map]; rfl
theorem len_vals {prog : Program} {w : World} {A : Around} {E : Value → Shared → Prop} {s : Shared} {h₀ : Heap} {L l : Addr} {news : Led} {vs : List Value} {nn k : Nat} {Q : Value → Shared → Prop} (N : News h₀ L s.heap news) (hm : (l, W.listOf vs.toArray nn) ∈ news) (e : vs.length = k) (hl : k ≤ 1000)
    (h : Q (.int (k : Int) (s.toks + 1)) { s with toks := s.toks + 1 + 1 }) : wpAny (model prog w) A (call (.builtin "len") [.ref l]) Q E s := by
  have e2 : vs.toArray.size = k := by rw [List.size_toArray, e]
  refine Calls.call_len_list (items := vs.toArray) ⟨_, (N _ hm).1, rfl, nn, rfl⟩ (by rw [e2]; omega) ?_
  rw [e2]; exact h
theorem len_refs (ps : List PC) : (ps.map fun q => Value.ref q.a).length = ps.length := List.length_map ..
theorem onesF_len {p wd : Int} {row : List Int} (hl : row.length ≤ 4) (hl1 : 1 ≤ row.length) (hb : ∀ a ∈ row, 0 ≤ a ∧ a ≤ 7) (hp : 0 ≤ p ∧ p ≤ 3) (hwd : 1 * 2 ^ p.toNat = wd) (hw1 : 1 ≤ wd ∧ wd ≤ 4) : (onesF row wd).length ≤ 16 := by
  have hk : (-1 + (row.length : Int)).toNat < row.length := by omega
  have hlast : 0 ≤ row.getD (-1 + (row.length : Int)).toNat 0 ∧ row.getD (-1 + (row.length : Int)).toNat 0 ≤ 7 := by
    rw [List.getD_eq_getElem?_getD, List.getElem?_eq_getElem hk]
    exact hb _ (List.getElem_mem hk)
  obtain ⟨_, _, r3⟩ := rs_facts hp hwd hw1 hlast
  have := onesG_len row wd hl (onesN (row.getD (-1 + (row.length : Int)).toNat 0) wd)
  unfold onesF; omega
theorem ne_self {prog : Program} {w : World} {A : Around} {E : Value → Shared → Prop} {s : Shared} {a b : Int} {t u : Tok} {Q : Value → Shared → Prop} (e : a = b) (h : Q (.bool false) s) : wpAny (model prog w) A (compareOp .NotEq (.int a t) (.int b u)) Q E s := by
  refine PyProof.Rows.ne_int ?_
  have : (a != b) = false := by rw [e]; exact bne_self_eq_false b
  rw [this]; exact h
end Mine
namespace Mine
theorem or_all : ∀ x < 8, ∀ y < 8, 0 ≤ Builtin.bitOr ((x : Nat) : Int) ((y : Nat) : Int) ∧ Builtin.bitOr ((x : Nat) : Int) ((y : Nat) : Int) ≤ 7 := by decide +kernel
theorem or_bd {x y : Int} (h : 0 ≤ x ∧ x ≤ 7) (hp : 0 ≤ y ∧ y ≤ 7) : 0 ≤ Builtin.bitOr x y ∧ Builtin.bitOr x y ≤ 7 := by
  have := or_all x.toNat (by omega) y.toNat (by omega)
  rw [show ((x.toNat : Nat) : Int) = x from by omega, show ((y.toNat : Nat) : Int) = y from by omega] at this
  exact this
theorem new_all : ∀ x < 8, ∀ y < 3, 0 ≤ newOf ((y : Nat) : Int) ((x : Nat) : Int) ∧ newOf ((y : Nat) : Int) ((x : Nat) : Int) ≤ 7 := by decide +kernel
theorem new_bd {x p : Int} (h : 0 ≤ x ∧ x ≤ 7) (hp : 0 ≤ p ∧ p ≤ 2) : 0 ≤ newOf p x ∧ newOf p x ≤ 7 := by
  have := new_all x.toNat (by omega) p.toNat (by omega)
  rw [show ((x.toNat : Nat) : Int) = x from by omega, show ((p.toNat : Nat) : Int) = p from by omega] at this
  exact this
theorem setF_zero (wd : Int) (hs : List (Int × Int)) : setF wd 0 hs = hs := by simp [setF]
theorem setF_succ {wd : Int} {hs : List (Int × Int)} {i : Nat} {h : Int × Int} (hi : hs[i]? = some h) : setF wd (i + 1) hs = (setF wd i hs).set i (h.1, Builtin.bitOr h.2 wd) := by
  have hlt : i < hs.length := (List.getElem?_eq_some_iff.mp hi).1
  have hd : hs.drop i = h :: hs.drop (i + 1) := by
    rw [List.drop_eq_getElem_cons hlt]
    congr 1
    exact Option.some.inj ((List.getElem?_eq_getElem hlt).symm.trans hi)
  unfold setF
  rw [take_snoc hi, List.map_append, hd, List.append_assoc]
  have hl : ((hs.take i).map fun q => (q.1, Builtin.bitOr q.2 wd)).length = i := by rw [List.length_map, List.length_take]; omega
  rw [List.set_append_right _ _ (by omega), hl, Nat.sub_self]
  rfl
theorem setF_get {wd : Int} {hs : List (Int × Int)} {i : Nat} : (setF wd i hs)[i]? = hs[i]? := by
  unfold setF
  by_cases h : i ≤ hs.length
  · have hl : ((hs.take i).map fun q => (q.1, Builtin.bitOr q.2 wd)).length = i := by rw [List.length_map, List.length_take]; omega
    rw [List.getElem?_append_right (by omega), hl, Nat.sub_self, List.getElem?_drop]; rfl
  · have : hs[i]? = none := List.getElem?_eq_none (by omega)
    rw [this]
    refine List.getElem?_eq_none ?_
    rw [List.length_append, List.length_map, List.length_take, List.length_drop]; omega
theorem pints_get {ps : List PC} {i : Nat} {q : PC} (h : ps[i]? = some q) : (pints ps)[i]? = some (q.o, q.x) := by
  unfold pints; rw [List.getElem?_map, h]; rfl
/-- what holds within the loop that sets bits -/
noncomputable def BP (most : Int) (row0 : List Int) (vs V : List Value) (rs : Led) (fix : List Addr) (row' : List Int) (ps : List PC) (wd : Int) (f : Bool) (rv : List Value) (rn hn : Nat) (oc : Obj) (i T : Nat) (c : List PC) : Prop :=
  AnP most row0 vs V rs fix (row', setF wd i (pints ps), f) T ⟨rv, rn, row', hn, c, oc⟩ ∧ c.map (·.a) = ps.map (·.a)
section
variable {prog : Program} {w : World} {A : Around} {E : Value → Shared → Prop} {s : Shared} {env : Env} {h₀ : Heap} {target : PySem.Expr} {body : List Stmt} {Q : Flow → Shared → Prop} {m₀ : Str → Option Value}
  {most : Int} {row0 : List Int} {vs V : List Value} {rs pre : Led} {fix : List Addr} {row' : List Int} {ps : List PC} {wd : Int} {f : Bool} {rv : List Value} {rn hn : Nat} {oc : Obj}
theorem b_loop {sl : Addr} {nn j : Nat} {sv : List Value} (hsv : sv = (ps.take j).map fun q => Value.ref q.a) (hj : j ≤ ps.length) (hsl : (sl, W.listOf sv.toArray nn) ∈ pre)
    (hh : A.handled = none) (F : Fr h₀ env.locals s.heap m₀) (N : News h₀ env.locals s.heap (pre ++ (ps.map PC.ent ++ rs)))
    (h0 : AnP most row0 vs V rs fix (row', pints ps, f) s.toks ⟨rv, rn, row', hn, ps, oc⟩)
    (turn : ∀ (c : List PC) (i : Nat) (v : Value) (u : Str → Option Value) (h : Heap) (tk : Nat) (own : Led), sv[i]? = some v → OwnOff own ((pre ++ (c.map PC.ent ++ rs)).map (·.1)) → BP most row0 vs V rs fix row' ps wd f rv rn hn oc i tk c →
      Fr h₀ env.locals h (fun y => if y = "pair" then u y else kstB (fun z => if ([] : List Str).contains z then u z else m₀ z) [] y) → News h₀ env.locals h (pre ++ (c.map PC.ent ++ rs) ++ own) →
      wpAny (model prog w) A (assign target env v) (fun _ s₂ => wpAny (model prog w) A (execs body env) (TPost h₀ env.locals (fun kk m nx => KstS (fun c => pre ++ (List.map PC.ent c ++ rs)) (fun _ => []) (fun _ => True) "pair" [] m₀
        (fun _ => BP most row0 vs V rs fix row' ps wd f rv rn hn oc (i + 1) kk) [] m nx) own { s with heap := h, toks := tk } Q) E s₂) E { s with heap := h, toks := tk })
    (done : ∀ (c : List PC) (u : Str → Option Value) h tk, BP most row0 vs V rs fix row' ps wd f rv rn hn oc j tk c →
      Fr h₀ env.locals h (fun y => if y = "pair" then u y else kstB (fun z => if ([] : List Str).contains z then u z else m₀ z) [] y) → News h₀ env.locals h (pre ++ (c.map PC.ent ++ rs)) → Q .next { s with heap := h, toks := tk })
    (hE : PassesOwn (model prog w) A env E := by passes_own) :
    wpAny (model prog w) A (pyIter (.ref sl)) (fun it s₂ => ForAt prog w A env target body Q E it s₂) E s := by
  have hlen : sv.length = j := by rw [hsv, List.length_map, List.length_take]; omega
  refine tT_list (σ := List PC) (vs := sv) (nn := nn) "pair" (fun c => pre ++ (List.map PC.ent c ++ rs)) (fun _ => []) [] (fun i T c => BP most row0 vs V rs fix row' ps wd f rv rn hn oc i T c) (fun _ _ _ _ h h' => ⟨h'.1.up h, h'.2⟩) ps (fun c => List.mem_append_left _ hsl) hh F N (fun _ h => nomatch h) ⟨by rw [setF_zero]; exact h0, rfl⟩ turn ?_ hE
  intro c u h tk hp F N
  exact done c u h tk (hlen ▸ hp) F N
end
/-- all of a ledger that lies elsewhere -/
noncomputable def elsewhere (l : Led) (a : Addr) : Led := l.filter fun p => decide (p.1 ≠ a)
theorem else_off (l : Led) (a : Addr) : OwnOff (elsewhere l a) [a] := by
  intro p hp b hb
  rw [List.mem_singleton.mp hb]
  have := (List.mem_filter.mp hp).2
  simpa using this
theorem else_news {h₀ h : Heap} {L : Addr} {l : Led} {a ce : Addr} {q : PC} {oc : Obj} (N : News h₀ L h l) (hq : q.ent ∈ l) (hc : (ce, oc) ∈ l) : News h₀ L h (q.ent :: (ce, oc) :: elsewhere l a) := by
  intro p hp
  rcases List.mem_cons.mp hp with rfl | hp
  · exact N _ hq
  · rcases List.mem_cons.mp hp with rfl | hp
    · exact N _ hc
    · exact N _ (List.mem_filter.mp hp).1
theorem get_map_eq {c ps : List PC} {i : Nat} {q : PC} (h : c.map (·.a) = ps.map (·.a)) (hq : ps[i]? = some q) : ∃ q', c[i]? = some q' ∧ q'.a = q.a := by
  have h1 : (c.map (·.a))[i]? = some q.a := by rw [h, List.getElem?_map, hq]; rfl
  rw [List.getElem?_map] at h1
  obtain ⟨q', hq', e⟩ := Option.map_eq_some_iff.mp h1
  exact ⟨q', hq', e⟩
theorem pvals_mem {ps : List PC} {v : Value} : v ∈ pvals ps ↔ ∃ q ∈ ps, v = .int q.o q.to ∨ v = .int q.x q.tx := by
  unfold pvals
  simp [List.mem_flatMap]
theorem nodup_inj {α : Type} {l : List α} (h : l.Nodup) {i j : Nat} {a : α} (hi : l[i]? = some a) (hj : l[j]? = some a) : i = j := by
  obtain ⟨l1, g1⟩ := List.getElem?_eq_some_iff.mp hi
  obtain ⟨l2, g2⟩ := List.getElem?_eq_some_iff.mp hj
  have hp := List.pairwise_iff_getElem.mp h
  rcases Nat.lt_trichotomy i j with h' | h' | h'
  · exact absurd (g1.trans g2.symm) (hp i j l1 l2 h')
  · exact h'
  · exact absurd (g2.trans g1.symm) (hp j i l2 l1 h')
/-- one bit set -/
theorem b_end {most : Int} {row0 : List Int} {vs V : List Value} {rs pre own : Led} {fix : List Addr} {row' : List Int} {ps c : List PC} {wd : Int} {f : Bool} {rv : List Value} {rn hn i tk0 tk : Nat} {oc oc' : Obj} {q : PC} {ce : Addr} {x' : Int} {t' : Tok} {h₀ h' : Heap} {L : Addr} {m' m₀ : Str → Option Value} {s₁ : Shared}
    (hB : BP most row0 vs V rs fix row' ps wd f rv rn hn oc i tk0 c) (hq : c[i]? = some q) (hpre : ∀ p ∈ pre, p.1 ≠ q.a) (hoff : OwnOff own ((pre ++ (c.map PC.ent ++ rs)).map (·.1)))
    (F : Fr h₀ L h' m') (N : News h₀ L h' ((q.a, W.listOf [Value.int q.o q.to, Value.int x' t'].toArray q.n) :: (ce, oc') :: elsewhere (pre ++ (c.map PC.ent ++ rs) ++ own) q.a))
    (hx : x' = Builtin.bitOr q.x wd) (hwd : 0 ≤ wd ∧ wd ≤ 7) (ht1 : @LE.le Nat _ tk0 t') (ht2 : @LT.lt Nat _ t' tk) (hr : ∀ z : Str, z ≠ "pair" → m' z = m₀ z) :
    TEnd h₀ L (fun kk m nx => KstS (fun c => pre ++ (List.map PC.ent c ++ rs)) (fun _ => []) (fun _ => True) "pair" [] m₀ (fun _ => BP most row0 vs V rs fix row' ps wd f rv rn hn oc (i + 1) kk) [] m nx) own s₁ { s₁ with heap := h', toks := tk } := by
  obtain ⟨hA, ha⟩ := hB
  have hqm := List.mem_of_getElem? hq
  have hi : i < c.length := (List.getElem?_eq_some_iff.mp hq).1
  have hst2 : setF wd i (pints ps) = pints c := hA.st2
  have hgi : (pints ps)[i]? = some (q.o, q.x) := by rw [← setF_get (wd := wd), hst2]; exact pints_get hq
  have hqe : q.ent ∈ List.map PC.ent c := List.mem_map_of_mem hqm
  have hofq := hA.off q hqm
  have mem_old : ∀ p ∈ pre ++ (c.map PC.ent ++ rs) ++ own, p.1 ≠ q.a → p ∈ (q.a, W.listOf [Value.int q.o q.to, Value.int x' t'].toArray q.n) :: (ce, oc') :: elsewhere (pre ++ (c.map PC.ent ++ rs) ++ own) q.a := fun p hp hne =>
    .tail _ (.tail _ (List.mem_filter.mpr ⟨hp, by simpa using hne⟩))
  have hownq : ∀ p ∈ own, p.1 ≠ q.a := fun p hp => hoff p hp q.a (List.mem_map.mpr ⟨q.ent, List.mem_append_right _ (List.mem_append_left _ hqe), rfl⟩)
  have hnd := hA.nd
  have ent_set : (c.set i { q with x := x', tx := t' }).map PC.ent = (c.map PC.ent).set i (q.a, W.listOf [Value.int q.o q.to, Value.int x' t'].toArray q.n) := by rw [List.map_set]; rfl
  have addr_set : (c.set i { q with x := x', tx := t' }).map (·.a) = c.map (·.a) := by
    rw [List.map_set]
    refine List.ext_getElem? fun k => ?_
    rw [List.getElem?_set]
    split
    · rename_i e
      subst e
      simp only [List.length_map, hi, if_true, List.getElem?_map, hq, Option.map_some]
    · rfl
  refine tT_end (σ := List PC) (Led := fun c => pre ++ (List.map PC.ent c ++ rs)) (ps := fun _ => []) (P := fun kk => BP most row0 vs V rs fix row' ps wd f rv rn hn oc (i + 1) kk) (c.set i { q with x := x', tx := t' }) F N ?_ (fun p hp => mem_old p (List.mem_append_right _ hp) (hownq p hp)) ?_ (fun _ h => nomatch h) (fun z hz _ _ => hr z hz) ?_
  · intro p hp
    rcases List.mem_append.mp hp with hp | hp
    · exact mem_old p (List.mem_append_left _ (List.mem_append_left _ hp)) (hpre p hp)
    · rcases List.mem_append.mp hp with hp | hp
      · rw [ent_set] at hp
        obtain ⟨k, hk⟩ := List.getElem?_of_mem hp
        rw [List.getElem?_set] at hk
        split at hk
        · split at hk
          · rw [← Option.some.inj hk]; exact .head _
          · cases hk
        · rename_i hne
          have hp' : p ∈ c.map PC.ent := List.mem_of_getElem? hk
          refine mem_old p (List.mem_append_left _ (List.mem_append_right _ (List.mem_append_left _ hp'))) fun e => hne ?_
          rw [List.getElem?_map] at hk
          obtain ⟨q2, hq2, e2⟩ := Option.map_eq_some_iff.mp hk
          have hk2 : (c.map (·.a))[k]? = some q2.a := by rw [List.getElem?_map, hq2]; rfl
          have hi2 : (c.map (·.a))[i]? = some q.a := by rw [List.getElem?_map, hq]; rfl
          have e3 : q2.a = q.a := by rw [← e, ← e2]; rfl
          rw [e3] at hk2
          exact nodup_inj hnd hi2 hk2
      · exact mem_old p (List.mem_append_left _ (List.mem_append_right _ (List.mem_append_right _ hp))) (hofq p hp)
  · intro p hp b hb
    refine hoff p hp b ?_
    have e1 : (pre ++ ((c.set i { q with x := x', tx := t' }).map PC.ent ++ rs)).map (·.1) = (pre ++ (c.map PC.ent ++ rs)).map (·.1) := by
      simp only [List.map_append, List.map_map]
      have : ∀ l : List PC, l.map ((fun x : Addr × Obj => x.1) ∘ PC.ent) = l.map (·.a) := fun l => rfl
      rw [this, this, addr_set]
    rw [← e1]; exact hb
  · have mem_c : ∀ q2 ∈ c.set i { q with x := x', tx := t' }, q2 = { q with x := x', tx := t' } ∨ q2 ∈ c := fun q2 h2 => (List.mem_or_eq_of_mem_set h2).symm
    have hbq := hA.bd q hqm
    refine ⟨⟨hA.ir, hA.mr, hA.sub, by show ((c.set i _).map (·.a)).Nodup; rw [addr_set]; exact hnd, fun q2 h2 => ?_, fun q2 h2 => ?_, fun q2 h2 => ?_, rfl, ?_, hA.cel, Nat.le_trans hA.tk2 (Nat.le_trans ht1 (Nat.le_of_lt ht2)), ?_⟩, addr_set.trans ha⟩
    · rcases mem_c q2 h2 with rfl | h2
      · exact hofq
      · exact hA.off q2 h2
    · rcases mem_c q2 h2 with rfl | h2
      · exact hA.offF q hqm
      · exact hA.offF q2 h2
    · rcases mem_c q2 h2 with rfl | h2
      · exact ⟨hbq.1, hbq.2.1, by show 0 ≤ x' ∧ x' ≤ 7; rw [hx]; exact or_bd hbq.2.2 hwd⟩
      · exact hA.bd q2 h2
    · show setF wd (i + 1) (pints ps) = pints (c.set i _)
      rw [setF_succ hgi, hst2]
      unfold pints
      rw [List.map_set]
      show List.set _ i (q.o, Builtin.bitOr q.x wd) = List.set _ i (q.o, x')
      rw [hx]
    · refine (hA.tk.add (x := x') (t := t') (Nat.lt_of_lt_of_le (by decide) hA.tk2) ht1 ht2).sub fun v hv => ?_
      rcases List.mem_append.mp hv with hv | hv
      · obtain ⟨q2, h2, hv⟩ := pvals_mem.mp hv
        rcases mem_c q2 h2 with rfl | h2
        · rcases hv with rfl | rfl
          · exact .tail _ (List.mem_append_left _ (pvals_mem.mpr ⟨q, hqm, .inl rfl⟩))
          · exact .head _
        · exact .tail _ (List.mem_append_left _ (pvals_mem.mpr ⟨q2, h2, hv⟩))
      · exact .tail _ (List.mem_append_right _ hv)
end Mine
namespace Mine
theorem fold_flag (p : Int) : ∀ (l : List Int) (s : PSt), (l.foldl (addF p) s).2.2 = true → s.2.2 = true
  | [], _, h => h
  | a :: r, s, h => by
    have := fold_flag p r (addF p s a) h
    unfold addF at this
    simp only [Bool.and_eq_true] at this
    exact this.1
theorem flag_at {p : Int} {l : List Int} {s : PSt} {i : Nat} {o : Int} (h : (l.foldl (addF p) s).2.2 = true) (ho : l[i]? = some o) : bl ((l.take i).foldl (addF p) s).1 o < ((l.take i).foldl (addF p) s).1.length := by
  have hi : i < l.length := (List.getElem?_eq_some_iff.mp ho).1
  have e : l = l.take (i + 1) ++ l.drop (i + 1) := (List.take_append_drop _ _).symm
  rw [e, List.foldl_append] at h
  have h2 := fold_flag p _ _ h
  rw [take_snoc ho, List.foldl_append] at h2
  simp only [List.foldl_cons, List.foldl_nil] at h2
  unfold addF at h2
  simp only [Bool.and_eq_true, decide_eq_true_eq] at h2
  exact h2.2
/-- what holds within the loop that takes heaps up -/
noncomputable def CP (most : Int) (row0 : List Int) (vs V : List Value) (rs : Led) (fix : List Addr) (p : Int) (ones : List Int) (st0 : PSt) (oc : Obj) (i T : Nat) (c : AnC) : Prop :=
  AnP most row0 vs V rs fix ((ones.take i).foldl (addF p) st0) T c ∧ c.oc = oc
noncomputable def cLed (h0 r0 : Addr) (pre rs : Led) (c : AnC) : Led := (h0, heldO c.ps c.hn) :: (r0, W.listOf c.rv.toArray c.rn) :: (pre ++ (c.ps.map PC.ent ++ rs))
section
variable {prog : Program} {w : World} {A : Around} {E : Value → Shared → Prop} {s : Shared} {env : Env} {h₀ : Heap} {target : PySem.Expr} {body : List Stmt} {Q : Flow → Shared → Prop} {m₀ : Str → Option Value}
  {most : Int} {row0 : List Int} {vs V : List Value} {rs pre : Led} {fix : List Addr} {p : Int} {ones : List Int} {st0 : PSt} {oc : Obj} {h0 r0 : Addr}
theorem c_loop {sl : Addr} {nn : Nat} {sv : List Value} {c0 : AnC} (hI : IntsAre sv ones) (hsl : (sl, W.listOf sv.toArray nn) ∈ pre)
    (hh : A.handled = none) (F : Fr h₀ env.locals s.heap m₀) (N : News h₀ env.locals s.heap (cLed h0 r0 pre rs c0))
    (hc : AnP most row0 vs V rs fix st0 s.toks c0) (hoc : c0.oc = oc)
    (turn : ∀ (c : AnC) (i : Nat) (v : Value) (u : Str → Option Value) (h : Heap) (tk : Nat) (own : Led), sv[i]? = some v → OwnOff own ((cLed h0 r0 pre rs c).map (·.1)) → CP most row0 vs V rs fix p ones st0 oc i tk c →
      Fr h₀ env.locals h (fun y => if y = "old" then u y else kstB (fun z => if ([] : List Str).contains z then u z else m₀ z) [] y) → News h₀ env.locals h (cLed h0 r0 pre rs c ++ own) →
      wpAny (model prog w) A (assign target env v) (fun _ s₂ => wpAny (model prog w) A (execs body env) (TPost h₀ env.locals (fun kk m nx => KstS (cLed h0 r0 pre rs) (fun _ => []) (fun _ => True) "old" [] m₀
        (fun _ => CP most row0 vs V rs fix p ones st0 oc (i + 1) kk) [] m nx) own { s with heap := h, toks := tk } Q) E s₂) E { s with heap := h, toks := tk })
    (done : ∀ (c : AnC) (u : Str → Option Value) h tk, AnP most row0 vs V rs fix (ones.foldl (addF p) st0) tk c → c.oc = oc →
      Fr h₀ env.locals h (fun y => if y = "old" then u y else kstB (fun z => if ([] : List Str).contains z then u z else m₀ z) [] y) → News h₀ env.locals h (cLed h0 r0 pre rs c) → Q .next { s with heap := h, toks := tk })
    (hE : PassesOwn (model prog w) A env E := by passes_own) :
    wpAny (model prog w) A (pyIter (.ref sl)) (fun it s₂ => ForAt prog w A env target body Q E it s₂) E s := by
  refine tT_list (σ := AnC) (vs := sv) (nn := nn) "old" (cLed h0 r0 pre rs) (fun _ => []) [] (fun i T c => CP most row0 vs V rs fix p ones st0 oc i T c) (fun _ _ _ _ h h' => ⟨h'.1.up h, h'.2⟩) c0 (fun c => .tail _ (.tail _ (List.mem_append_left _ hsl))) hh F N (fun _ h => nomatch h) ⟨hc, hoc⟩ turn ?_ hE
  intro c u h tk hp F N
  have h1 := hp.1
  rw [hI.length, List.take_length] at h1
  exact done c u h tk h1 hp.2 F N
end
theorem c_end {most : Int} {row0 : List Int} {vs V : List Value} {rs pre own : Led} {p : Int} {ones : List Int} {st0 : PSt} {oc : Obj} {h0 r0 ce k : Addr} {c : AnC} {i tk0 tk : Nat} {h₀ h' : Heap} {L : Addr} {m' m₀ : Str → Option Value} {s₁ : Shared} {pn : Addr} {old new : Int} {to t' : Tok} {rv' hvs : List Value} {pk : Nat} {ko : Obj}
    (hC : CP most row0 vs V rs [h0, r0, ce, k] p ones st0 oc i tk0 c) (ho : ones[i]? = some old) (hov : Value.int old to ∈ vs) (hob : 0 ≤ old ∧ old ≤ 7) (hp : 0 ≤ p ∧ p ≤ 2) (hoff : OwnOff own ((cLed h0 r0 pre rs c).map (·.1))) (hk : (k, ko) ∈ pre) (hce : (ce, oc) ∈ pre)
    (F : Fr h₀ L h' m') (N : News h₀ L h' ((pn, W.listOf [Value.int old to, Value.int new t'].toArray pk) :: (h0, W.listOf (hvs ++ [Value.ref pn]).toArray (c.hn + 1)) :: (r0, W.listOf rv'.toArray (c.rn + 1)) :: (ce, oc) :: (pre ++ (c.ps.map PC.ent ++ rs) ++ own)))
    (hV : ∀ v ∈ vs, v ∈ V) (hhv : hvs = c.ps.map fun (q : PC) => Value.ref q.a) (hlt : h0 < pn ∧ r0 < pn ∧ ce < pn ∧ AllLt pn (pre ++ (c.ps.map PC.ent ++ rs) ++ own)) (hrI : IntsAre rv' (c.row.eraseIdx (bl c.row old))) (hrM : ∀ v ∈ rv', v ∈ c.rv)
    (hx : new = newOf p old) (ht1 : @LE.le Nat _ tk0 t') (ht2 : @LT.lt Nat _ t' tk) (hr : ∀ z : Str, z ≠ "old" → m' z = m₀ z) :
    TEnd h₀ L (fun kk m nx => KstS (cLed h0 r0 pre rs) (fun _ => []) (fun _ => True) "old" [] m₀ (fun _ => CP most row0 vs V rs [h0, r0, ce, k] p ones st0 oc (i + 1) kk) [] m nx) own s₁ { s₁ with heap := h', toks := tk } := by
  obtain ⟨hA, hoc⟩ := hC
  obtain ⟨hl1, hl2, hl3, hl4⟩ := hlt
  have hlt4 := kst_ltOf hl4
  have lt_ps : ∀ q ∈ c.ps, q.a < pn := fun q hq => hlt4 q.ent (List.mem_append_left _ (List.mem_append_right _ (List.mem_append_left _ (List.mem_map_of_mem hq))))
  have lt_rs : ∀ q ∈ rs, q.1 < pn := fun q hq => hlt4 q (List.mem_append_left _ (List.mem_append_right _ (List.mem_append_right _ hq)))
  have lt_pre : ∀ q ∈ pre, q.1 < pn := fun q hq => hlt4 q (List.mem_append_left _ (List.mem_append_left _ hq))
  have lt_own : ∀ q ∈ own, q.1 < pn := fun q hq => hlt4 q (List.mem_append_right _ hq)
  have hentm : ∀ q ∈ c.ps ++ [(⟨pn, pk, old, to, new, t'⟩ : PC)], q ∈ c.ps ∨ q = ⟨pn, pk, old, to, new, t'⟩ := fun q hq => (List.mem_append.mp hq).imp id List.mem_singleton.mp
  refine tT_end (σ := AnC) (Led := cLed h0 r0 pre rs) (ps := fun _ => []) (P := fun kk => CP most row0 vs V rs [h0, r0, ce, k] p ones st0 oc (i + 1) kk) ⟨rv', c.rn + 1, c.row.eraseIdx (bl c.row old), c.hn + 1, c.ps ++ [⟨pn, pk, old, to, new, t'⟩], c.oc⟩ F N ?_ (fun q hq => .tail _ (.tail _ (.tail _ (.tail _ (List.mem_append_right _ hq))))) ?_ (fun _ h => nomatch h) (fun z hz _ _ => hr z hz) ⟨⟨hrI, fun v hv => hA.mr v (hrM v hv), (List.eraseIdx_sublist _ _).trans hA.sub, ?_, ?_, ?_, ?_, ?_, ?_, hA.cel, Nat.le_trans hA.tk2 (Nat.le_trans ht1 (Nat.le_of_lt ht2)), ?_⟩, hoc⟩
  · intro q hq
    rcases List.mem_cons.mp hq with rfl | hq
    · rw [hhv]
      show (h0, W.listOf ((c.ps ++ [_]).map fun (q : PC) => Value.ref q.a).toArray (c.hn + 1)) ∈ _
      rw [List.map_append]; exact .tail _ (.head _)
    · rcases List.mem_cons.mp hq with rfl | hq
      · exact .tail _ (.tail _ (.head _))
      · rcases List.mem_append.mp hq with hq | hq
        · exact .tail _ (.tail _ (.tail _ (.tail _ (List.mem_append_left _ (List.mem_append_left _ hq)))))
        · rcases List.mem_append.mp hq with hq | hq
          · obtain ⟨q2, h2, rfl⟩ := List.mem_map.mp hq
            rcases hentm q2 h2 with h2 | rfl
            · exact .tail _ (.tail _ (.tail _ (.tail _ (List.mem_append_left _ (List.mem_append_right _ (List.mem_append_left _ (List.mem_map_of_mem h2)))))))
            · exact .head _
          · exact .tail _ (.tail _ (.tail _ (.tail _ (List.mem_append_left _ (List.mem_append_right _ (List.mem_append_right _ hq))))))
  · intro q hq b hb
    simp only [cLed, List.map_cons, List.map_append, List.mem_cons, List.mem_append] at hb
    have old_b : b ∈ (cLed h0 r0 pre rs c).map (·.1) → q.1 ≠ b := hoff q hq b
    rcases hb with rfl | rfl | hb | hb | hb
    · exact old_b (.head _)
    · exact old_b (.tail _ (.head _))
    · exact old_b (by simp only [cLed, List.map_cons, List.map_append, List.mem_cons, List.mem_append]; exact .inr (.inr (.inl hb)))
    · rcases hb with hb | hb
      · exact old_b (by simp only [cLed, List.map_cons, List.map_append, List.mem_cons, List.mem_append]; exact .inr (.inr (.inr (.inl hb))))
      · have : b = pn := by simpa [PC.ent] using hb
        rw [this]; exact Nat.ne_of_lt (lt_own q hq)
    · exact old_b (by simp only [cLed, List.map_cons, List.map_append, List.mem_cons, List.mem_append]; exact .inr (.inr (.inr (.inr hb))))
  · show ((c.ps ++ [(⟨pn, pk, old, to, new, t'⟩ : PC)]).map (·.a)).Nodup
    rw [List.map_append]
    refine List.nodup_append.mpr ⟨hA.nd, List.pairwise_singleton _ _, fun a ha b hb => ?_⟩
    obtain ⟨q, hq, rfl⟩ := List.mem_map.mp ha
    have hb' : b = pn := by simpa using hb
    rw [hb']; exact Nat.ne_of_lt (lt_ps q hq)
  · intro q hq
    rcases hentm q hq with h2 | rfl
    · exact hA.off q h2
    · exact fun r hr' => Nat.ne_of_lt (lt_rs r hr')
  · intro q hq
    rcases hentm q hq with h2 | rfl
    · exact hA.offF q h2
    · intro hm
      have hm' : pn = h0 ∨ pn = r0 ∨ pn = ce ∨ pn = k := by simpa using hm
      have hlk := lt_pre _ hk
      rcases hm' with e | e | e | e
      · exact Nat.ne_of_lt hl1 e.symm
      · exact Nat.ne_of_lt hl2 e.symm
      · exact Nat.ne_of_lt hl3 e.symm
      · exact Nat.ne_of_lt hlk e.symm
  · intro q hq
    rcases hentm q hq with h2 | rfl
    · exact hA.bd q h2
    · exact ⟨hov, hob, by show 0 ≤ new ∧ new ≤ 7; rw [hx]; exact new_bd hob hp⟩
  · show ((ones.take (i + 1)).foldl (addF p) st0).1 = _
    rw [take_snoc ho, List.foldl_append]
    show ((List.foldl (addF p) st0 (List.take i ones)).1.eraseIdx (bl (List.foldl (addF p) st0 (List.take i ones)).1 old)) = _
    rw [hA.st1]
  · show ((ones.take (i + 1)).foldl (addF p) st0).2.1 = pints (c.ps ++ [_])
    rw [take_snoc ho, List.foldl_append]
    show (List.foldl (addF p) st0 (List.take i ones)).2.1 ++ [(old, newOf p old)] = _
    rw [hA.st2]
    unfold pints
    rw [List.map_append]
    show _ = _ ++ [(old, new)]
    rw [hx]
  · refine (hA.tk.add (x := new) (t := t') (Nat.lt_of_lt_of_le (by decide) hA.tk2) ht1 ht2).sub fun v hv => ?_
    rcases List.mem_append.mp hv with hv | hv
    · obtain ⟨q2, h2, hv⟩ := pvals_mem.mp hv
      rcases hentm q2 h2 with h2 | rfl
      · exact .tail _ (List.mem_append_left _ (pvals_mem.mpr ⟨q2, h2, hv⟩))
      · rcases hv with rfl | rfl
        · exact .tail _ (List.mem_append_right _ (hV _ hov))
        · exact .head _
    · exact .tail _ (List.mem_append_right _ hv)
end Mine
namespace Mine
theorem ans_step {most p wd : Int} {row : List Int} {i : Nat} (hp : p = 2 - (i : Int)) (hwd : 1 * 2 ^ p.toNat = wd) : ansF most row (i + 1) = turnF most p wd (ansF most row i) := by
  rw [Int.one_mul] at hwd
  subst hp; subst hwd; rfl
section
variable {most p wd : Int} {row row' : List Int} {ps : List PC} {i : Nat} (hp : p = 2 - (i : Int)) (hwd : 1 * 2 ^ p.toNat = wd) (h1 : (ansF most row i).1 = row') (h2 : (ansF most row i).2.1 = pints ps)
include hp hwd h1 h2
theorem ans_b (hn : 0 < ((onesF row' wd).length : Int).fmod (most + 1)) (hj : most + 1 - ((onesF row' wd).length : Int).fmod (most + 1) ≤ (ps.length : Int)) :
    ansF most row (i + 1) = (row', setF wd (most + 1 - ((onesF row' wd).length : Int).fmod (most + 1)).toNat (pints ps), (ansF most row i).2.2) := by
  rw [ans_step hp hwd]
  unfold turnF needF
  rw [h1, h2]
  have hl : (pints ps).length = ps.length := by simp [pints]
  rw [hl, if_pos ⟨hn, hj⟩]
theorem ans_c (hn : 0 < ((onesF row' wd).length : Int).fmod (most + 1)) (hj : ¬ most + 1 - ((onesF row' wd).length : Int).fmod (most + 1) ≤ (ps.length : Int)) :
    ansF most row (i + 1) = ((onesF row' wd).take (((onesF row' wd).length : Int).fmod (most + 1)).toNat).foldl (addF p) (ansF most row i) := by
  rw [ans_step hp hwd]
  unfold turnF needF
  rw [h1, h2]
  have hl : (pints ps).length = ps.length := by simp [pints]
  rw [hl, if_neg (fun h => hj h.2), if_pos hn]
theorem ans_n (hn : ¬ 0 < ((onesF row' wd).length : Int).fmod (most + 1)) : ansF most row (i + 1) = ansF most row i := by
  rw [ans_step hp hwd]
  unfold turnF needF
  rw [h1, if_neg (fun h => hn h.1), if_neg hn]
end
theorem ap_mid {most : Int} {row0 : List Int} {vs V : List Value} {rest own : Led} {h0 r0 ce k : Addr} {st : PSt} {T T' : Nat} {rv : List Value} {rn hn : Nat} {row' : List Int} {ps : List PC} {oc oc' : Obj} {v : Option Value}
    (h : AnP most row0 vs V rest [h0, r0, ce, k] st T ⟨rv, rn, row', hn, ps, oc⟩) (hoff : OwnOff own (h0 :: r0 :: ce :: k :: (ps.map PC.ent ++ rest).map (·.1))) (hd : oc'.data = .cell v) (hT : T ≤ T') :
    AnP most row0 vs V (rest ++ own) [h0, r0, ce, k] (row', pints ps, st.2.2) T' ⟨rv, rn, row', hn, ps, oc'⟩ := by
  have h' := h.up hT
  refine { h' with off := fun q hq p hp => ?_, st1 := rfl, st2 := rfl, cel := ⟨v, hd⟩ }
  rcases List.mem_append.mp hp with hp | hp
  · exact h.off q hq p hp
  · exact hoff p hp q.a (.tail _ (.tail _ (.tail _ (.tail _ (List.mem_map.mpr ⟨q.ent, List.mem_append_left _ (List.mem_map_of_mem hq), rfl⟩)))))
theorem an_end {most : Int} {row0 : List Int} {vs V : List Value} {rest own all : Led} {h0 r0 ce k : Addr} {ko : Obj} {st : PSt} {i tk : Nat} {c : AnC} {ps0 : List PC} {h₀ h' : Heap} {L : Addr} {m' m₀ : Str → Option Value} {s₁ : Shared}
    (hA : AnP most row0 vs V (rest ++ own) [h0, r0, ce, k] st tk c) (hst : ansF most row0 (i + 1) = st) (F : Fr h₀ L h' m') (N : News h₀ L h' all) (hs : ∀ p ∈ anLed h0 r0 ce k ko rest c ++ own, p ∈ all)
    (hoff : OwnOff own (h0 :: r0 :: ce :: k :: (ps0.map PC.ent ++ rest).map (·.1))) (hr : ∀ z : Str, z ≠ "ones" → (["known", "need", "pair", "old"] : List Str).contains z = false → m' z = m₀ z) :
    TEnd h₀ L (fun kk m nx => KstS (anLed h0 r0 ce k ko rest) (fun _ => []) (fun _ => True) "ones" ["known", "need", "pair", "old"] m₀ (fun _ => AnP most row0 vs V rest [h0, r0, ce, k] (ansF most row0 (i + 1)) kk) [] m nx) own s₁ { s₁ with heap := h', toks := tk } := by
  subst hst
  refine tT_end (σ := AnC) (Led := anLed h0 r0 ce k ko rest) (ps := fun _ => []) (P := fun kk => AnP most row0 vs V rest [h0, r0, ce, k] (ansF most row0 (i + 1)) kk) c F N (fun p hp => hs p (List.mem_append_left _ hp)) (fun p hp => hs p (List.mem_append_right _ hp)) ?_ (fun _ h => nomatch h) (fun z hz _ hc => hr z hz hc) { hA with off := fun q hq p hp => hA.off q hq p (List.mem_append_left _ hp) }
  intro p hp b hb
  simp only [anLed, List.map_cons, List.map_append, List.mem_cons, List.mem_append] at hb
  rcases hb with rfl | rfl | rfl | rfl | hb | hb
  · exact hoff p hp _ (.head _)
  · exact hoff p hp _ (.tail _ (.head _))
  · exact hoff p hp _ (.tail _ (.tail _ (.head _)))
  · exact hoff p hp _ (.tail _ (.tail _ (.tail _ (.head _))))
  · obtain ⟨e, he, rfl⟩ := List.mem_map.mp hb
    obtain ⟨q, hq, rfl⟩ := List.mem_map.mp he
    exact hA.off q hq p (List.mem_append_right _ hp)
  · exact hoff p hp b (.tail _ (.tail _ (.tail _ (.tail _ (by rw [List.map_append]; exact List.mem_append_right _ hb)))))
theorem held_eq {c ps : List PC} {n : Nat} (h : c.map (·.a) = ps.map (·.a)) : heldO c n = heldO ps n := by
  have e : ∀ l : List PC, (l.map fun q => Value.ref q.a) = (l.map (·.a)).map Value.ref := fun l => by rw [List.map_map]; rfl
  unfold heldO
  rw [e, e, h]
theorem set1_V {prog : Program} {w : World} {A : Around} {E : Value → Shared → Prop} {s : Shared} {h₀ : Heap} {L D : Addr} {m : Str → Option Value} {rest : Led} {v0 : Value} {x y : Int} {t u t1 : Tok} {n : Nat} {Q : Unit → Shared → Prop}
    (F : Fr h₀ L s.heap m) (N : News h₀ L s.heap ((D, W.listOf [v0, Value.int x t].toArray n) :: rest)) (hoff : ∀ p ∈ rest, p.1 ≠ D)
    (h : ∀ h', Fr h₀ L h' m → News h₀ L h' ((D, W.listOf [v0, Value.int y u].toArray n) :: rest) → Q () { s with heap := h' }) : wpAny (model prog w) A (setItem (.ref D) (.int 1 t1) (.int y u)) Q E s :=
  ki_set F N (by decide) (by decide) (q := [v0, Value.int y u]) rfl (Upd.head hoff) h
theorem app_V {prog : Program} {w : World} {A : Around} {E : Value → Shared → Prop} {s : Shared} {h₀ : Heap} {L D : Addr} {m : Str → Option Value} {news : Led} {g : Obj → Led} {vs : List Value} {x : Value} {n : Nat} {Q : Value → Shared → Prop}
    (F : Fr h₀ L s.heap m) (N : News h₀ L s.heap news) (U : UpdF D (W.listOf vs.toArray n) news g) (hz : vs.length ≤ 1000)
    (h : ∀ h', Fr h₀ L h' m → News h₀ L h' (g (W.listOf (vs ++ [x]).toArray (n + 1))) → Q .none { s with heap := h' }) : wpAny (model prog w) A (call (.builtin "list.append") [.ref D, x]) Q E s := by
  refine append_K F N (news' := g (W.listOf (vs.toArray.push x) (n + 1))) (updF_upd U) (fun h' F' N' => h h' F' ?_) (by rw [List.size_toArray, PySem.sizeLine_eq]; omega)
  have e : vs.toArray.push x = (vs ++ [x]).toArray := by rw [List.push_toArray]
  rw [e] at N'; exact N'
theorem sl_at {sv : List Value} {ps : List PC} {j i : Nat} {v : Value} (hsv : sv = (ps.take j).map fun q => Value.ref q.a) (h : sv[i]? = some v) : ∃ q, ps[i]? = some q ∧ v = .ref q.a := by
  rw [hsv] at h
  obtain ⟨q, hq, e, _⟩ := ref_at h
  refine ⟨q, ?_, e⟩
  rw [List.getElem?_take] at hq
  split at hq
  · exact hq
  · cases hq
theorem fmod_bd {a b : Int} (hb : 0 < b) : 0 ≤ a.fmod b ∧ a.fmod b < b := ⟨Int.fmod_nonneg_of_pos a hb, Int.fmod_lt_of_pos a hb⟩
theorem st_eta {st : PSt} {row' : List Int} {ps : List PC} (h1 : st.1 = row') (h2 : st.2.1 = pints ps) : st = (row', pints ps, st.2.2) := by rw [← h1, ← h2]
theorem nstored {z : Str} (h : (["known", "need", "pair", "old"] : List Str).contains z = false) : z ≠ "known" ∧ z ≠ "need" ∧ z ≠ "pair" ∧ z ≠ "old" := by
  refine ⟨?_, ?_, ?_, ?_⟩ <;> (rintro rfl; exact absurd h (by decide))
theorem mem_n {p x1 x2 : Addr × Obj} {h0 r0 ce k : Addr} {ko : Obj} {rest own tl : Led} {rv : List Value} {rn hn : Nat} {row' : List Int} {ps : List PC} {oc : Obj} (htl : tl = ps.map PC.ent ++ (rest ++ own)) (h : p ∈ anLed h0 r0 ce k ko rest ⟨rv, rn, row', hn, ps, oc⟩ ++ own) :
    p ∈ x1 :: x2 :: (h0, heldO ps hn) :: (r0, W.listOf rv.toArray rn) :: (ce, oc) :: (k, ko) :: tl := by
  subst htl
  simp only [anLed, List.mem_append, List.mem_cons] at h ⊢
  rcases h with ((h | h | h | h | h | h) | h)
  · exact .inr (.inr (.inl h))
  · exact .inr (.inr (.inr (.inl h)))
  · exact .inr (.inr (.inr (.inr (.inl h))))
  · exact .inr (.inr (.inr (.inr (.inr (.inl h)))))
  · exact .inr (.inr (.inr (.inr (.inr (.inr (.inl h))))))
  · exact .inr (.inr (.inr (.inr (.inr (.inr (.inr (.inl h)))))))
  · exact .inr (.inr (.inr (.inr (.inr (.inr (.inr (.inr h)))))))
theorem mem_b {p x0 x1 x2 : Addr × Obj} {h0 r0 ce k : Addr} {ko ho : Obj} {rest own : Led} {rv : List Value} {rn hn : Nat} {row' : List Int} {ps c : List PC} {oc : Obj} (hc : c.map (·.a) = ps.map (·.a)) (hho : ho = heldO ps hn) (h : p ∈ anLed h0 r0 ce k ko rest ⟨rv, rn, row', hn, c, oc⟩ ++ own) :
    p ∈ [x0, x1, x2, (h0, ho), (r0, W.listOf rv.toArray rn), (ce, oc), (k, ko)] ++ (c.map PC.ent ++ (rest ++ own)) := by
  have := mem_n (x1 := x1) (x2 := x2) rfl h
  rw [held_eq hc, ← hho] at this
  exact .tail _ this
theorem mem_c {p x0 x1 x2 : Addr × Obj} {h0 r0 ce k : Addr} {ko : Obj} {rest own : Led} {c : AnC} {oc : Obj} (hoc : c.oc = oc) (h : p ∈ anLed h0 r0 ce k ko rest c ++ own) : p ∈ cLed h0 r0 [x0, x1, x2, (ce, oc), (k, ko)] (rest ++ own) c := by
  subst hoc
  simp only [anLed, cLed, List.mem_append, List.mem_cons, List.not_mem_nil, or_false] at h ⊢
  rcases h with ((h | h | h | h | h | h) | h)
  · exact .inl h
  · exact .inr (.inl h)
  · exact .inr (.inr (.inl (.inr (.inr (.inr (.inl h))))))
  · exact .inr (.inr (.inl (.inr (.inr (.inr (.inr h))))))
  · exact .inr (.inr (.inr (.inl h)))
  · exact .inr (.inr (.inr (.inr (.inl h))))
  · exact .inr (.inr (.inr (.inr (.inr h))))
/-- what the walk of one set bit starts from -/
theorem b_start {most : Int} {row0 : List Int} {vs V : List Value} {rs pre own : Led} {h0 r0 ce k : Addr} {row' : List Int} {ps c : List PC} {wd : Int} {f : Bool} {rv : List Value} {rn hn i T : Nat} {oc : Obj} {q : PC} {h₀ h : Heap} {L : Addr}
    (hB : BP most row0 vs V rs [h0, r0, ce, k] row' ps wd f rv rn hn oc i T c) (hq : c[i]? = some q) (hce : (ce, oc) ∈ pre) (N : News h₀ L h (pre ++ (c.map PC.ent ++ rs) ++ own)) :
    News h₀ L h ((q.a, W.listOf [Value.int q.o q.to, Value.int q.x q.tx].toArray q.n) :: (ce, oc) :: elsewhere (pre ++ (c.map PC.ent ++ rs) ++ own) q.a) ∧ (∀ p ∈ (ce, oc) :: elsewhere (pre ++ (c.map PC.ent ++ rs) ++ own) q.a, p.1 ≠ q.a) ∧ (0 ≤ q.x ∧ q.x ≤ 7) := by
  have hqm := List.mem_of_getElem? hq
  refine ⟨else_news N (List.mem_append_left _ (List.mem_append_right _ (List.mem_append_left _ (List.mem_map_of_mem hqm)))) (List.mem_append_left _ (List.mem_append_left _ hce)), fun p hp => ?_, (hB.1.bd q hqm).2.2⟩
  rcases List.mem_cons.mp hp with rfl | hp
  · intro e
    exact hB.1.offF q hqm (by rw [← e]; exact .tail _ (.tail _ (.head _)))
  · exact else_off _ _ p hp _ (.head _)
theorem b_pre {a0 a1 a2 h0 r0 ce k : Addr} {o0 o1 o2 o3 o4 o5 o6 : Obj} {tl rs : Led} {ps : List PC} {q0 q : PC} (hq0 : q0 ∈ ps) (hqa : q.a = q0.a) (htl : tl = ps.map PC.ent ++ rs) (l0 : AllLt a0 tl) (l1 : LCg.Off1 a1 tl) (l2 : AllLt a2 tl) (hF : ∀ q ∈ ps, q.a ∉ [h0, r0, ce, k]) :
    ∀ p ∈ ([(a0, o0), (a1, o1), (a2, o2), (h0, o3), (r0, o4), (ce, o5), (k, o6)] : Led), p.1 ≠ q.a := by
  have hm : q0.ent ∈ tl := htl ▸ List.mem_append_left _ (List.mem_map_of_mem hq0)
  have h0' : q0.a < a0 := kst_ltOf l0 _ hm
  have h1' : q0.a ≠ a1 := off1_of l1 _ hm
  have h2' : q0.a < a2 := kst_ltOf l2 _ hm
  have hF' := hF q0 hq0
  rw [hqa]
  intro p hp e
  simp only [List.mem_cons, List.not_mem_nil, or_false] at hp hF'
  rcases hp with rfl | rfl | rfl | rfl | rfl | rfl | rfl
  · exact Nat.ne_of_lt h0' e.symm
  · exact h1' e.symm
  · exact Nat.ne_of_lt h2' e.symm
  · exact hF' (.inl e.symm)
  · exact hF' (.inr (.inl e.symm))
  · exact hF' (.inr (.inr (.inl e.symm)))
  · exact hF' (.inr (.inr (.inr e.symm)))
theorem n_to_c {h₀ h : Heap} {L : Addr} {x0 x1 x2 a b c d : Addr × Obj} {t : Led} (N : News h₀ L h (x0 :: x1 :: x2 :: a :: b :: c :: d :: t)) : News h₀ L h (a :: b :: ([x0, x1, x2, c, d] ++ t)) := by
  intro p hp
  refine N p ?_
  simp only [List.mem_cons, List.mem_append, List.not_mem_nil, or_false] at hp ⊢
  rcases hp with h | h | (h | h | h | h | h) | h
  · exact .inr (.inr (.inr (.inl h)))
  · exact .inr (.inr (.inr (.inr (.inl h))))
  · exact .inl h
  · exact .inr (.inl h)
  · exact .inr (.inr (.inl h))
  · exact .inr (.inr (.inr (.inr (.inr (.inl h)))))
  · exact .inr (.inr (.inr (.inr (.inr (.inr (.inl h))))))
  · exact .inr (.inr (.inr (.inr (.inr (.inr (.inr h))))))
theorem turn_flag {most p wd : Int} {s : PSt} (h : (turnF most p wd s).2.2 = true) : s.2.2 = true := by
  unfold turnF at h
  split at h
  · exact h
  · split at h
    · exact fold_flag p _ _ h
    · exact h
theorem ans_flag {most : Int} {row : List Int} {i : Nat} (h : (ansF most row 3).2.2 = true) (hi : i < 3) : (ansF most row (i + 1)).2.2 = true := by
  have h2 : (ansF most row 2).2.2 = true := turn_flag h
  have h1 : (ansF most row 1).2.2 = true := turn_flag h2
  match i, hi with
  | 0, _ => exact h1
  | 1, _ => exact h2
  | 2, _ => exact h
theorem int_mem {vs : List Value} {ns : List Int} {o : Int} {t : Tok} (hI : IntsAre vs ns) (h : Value.int o t ∈ vs) : o ∈ ns := by
  obtain ⟨k, hk⟩ := List.getElem?_of_mem h
  obtain ⟨n, t', hv, hn⟩ := IntsAre.at hI k _ hk
  cases hv
  exact List.mem_of_getElem? hn
theorem c_start {most : Int} {row0 : List Int} {vs V : List Value} {rs pre own : Led} {p : Int} {ones : List Int} {st0 : PSt} {oc : Obj} {h0 r0 ce k : Addr} {c : AnC} {i T : Nat} {h₀ h : Heap} {L : Addr}
    (hC : CP most row0 vs V rs [h0, r0, ce, k] p ones st0 oc i T c) (hce : (ce, oc) ∈ pre) (hpre : ∀ q ∈ pre, q.1 ≠ h0 ∧ q.1 ≠ r0) (hrs : ∀ q ∈ rs, q.1 ≠ h0 ∧ q.1 ≠ r0) (hoff : OwnOff own ((cLed h0 r0 pre rs c).map (·.1))) (N : News h₀ L h (cLed h0 r0 pre rs c ++ own)) :
    News h₀ L h ((h0, heldO c.ps c.hn) :: (r0, W.listOf c.rv.toArray c.rn) :: (ce, oc) :: (pre ++ (c.ps.map PC.ent ++ rs) ++ own)) ∧ OwnOff (pre ++ (c.ps.map PC.ent ++ rs) ++ own) [h0, r0] := by
  refine ⟨fun q hq => N q ?_, fun q hq b hb => ?_⟩
  · rcases List.mem_cons.mp hq with rfl | hq
    · exact .head _
    · rcases List.mem_cons.mp hq with rfl | hq
      · exact .tail _ (.head _)
      · rcases List.mem_cons.mp hq with rfl | hq
        · exact .tail _ (.tail _ (List.mem_append_left _ (List.mem_append_left _ hce)))
        · exact .tail _ (.tail _ hq)
  · have hb2 : b = h0 ∨ b = r0 := by simpa using hb
    have key : q.1 ≠ h0 ∧ q.1 ≠ r0 := by
      rcases List.mem_append.mp hq with hq | hq
      · rcases List.mem_append.mp hq with hq | hq
        · exact hpre q hq
        · rcases List.mem_append.mp hq with hq | hq
          · obtain ⟨q2, h2, rfl⟩ := List.mem_map.mp hq
            have := hC.1.offF q2 h2
            simp only [List.mem_cons, List.not_mem_nil, or_false] at this
            exact ⟨fun e => this (.inl e), fun e => this (.inr (.inl e))⟩
          · exact hrs q hq
      · exact ⟨hoff q hq h0 (.head _), hoff q hq r0 (.tail _ (.head _))⟩
    rcases hb2 with rfl | rfl
    · exact key.1
    · exact key.2
theorem c_pre {a0 a1 a2 h0 r0 ce k : Addr} {o0 o1 o2 o5 o6 : Obj} (h1 : @Ne Nat a0 h0) (h2 : @Ne Nat a0 r0) (h3 : @Ne Nat a1 h0) (h4 : @Ne Nat a1 r0) (h5 : @Ne Nat a2 h0) (h6 : @Ne Nat a2 r0) (h7 : @Ne Nat ce h0) (h8 : @Ne Nat ce r0) (h9 : @Ne Nat k h0) (h10 : @Ne Nat k r0) :
    ∀ q ∈ ([(a0, o0), (a1, o1), (a2, o2), (ce, o5), (k, o6)] : Led), q.1 ≠ h0 ∧ q.1 ≠ r0 := by
  intro q hq
  simp only [List.mem_cons, List.not_mem_nil, or_false] at hq
  rcases hq with rfl | rfl | rfl | rfl | rfl
  · exact ⟨h1, h2⟩
  · exact ⟨h3, h4⟩
  · exact ⟨h5, h6⟩
  · exact ⟨h7, h8⟩
  · exact ⟨h9, h10⟩
theorem c_rs {tl rs : Led} {ps : List PC} {h0 r0 ce : Addr} (htl : tl = ps.map PC.ent ++ rs) (h : OwnOff tl [h0, r0, ce]) : ∀ q ∈ rs, q.1 ≠ h0 ∧ q.1 ≠ r0 := fun q hq =>
  ⟨h q (htl ▸ List.mem_append_right _ hq) h0 (.head _), h q (htl ▸ List.mem_append_right _ hq) r0 (.tail _ (.head _))⟩
theorem fold_len (p : Int) : ∀ (l : List Int) (s : PSt), (l.foldl (addF p) s).2.1.length = s.2.1.length + l.length
  | [], s => rfl
  | a :: r, s => by
    have := fold_len p r (addF p s a)
    rw [List.foldl_cons, this]
    show (s.2.1 ++ [(a, newOf p a)]).length + r.length = _
    rw [List.length_append, List.length_cons, List.length_cons, List.length_nil]; omega
theorem cp_len {most : Int} {row0 : List Int} {vs V : List Value} {rs : Led} {fix : List Addr} {p : Int} {ones row' : List Int} {ps : List PC} {f : Bool} {oc : Obj} {i T : Nat} {c : AnC} (hC : CP most row0 vs V rs fix p ones (row', pints ps, f) oc i T c) (h3 : ps.length ≤ 3) (hl : ones.length ≤ 16) : c.ps.length ≤ 19 := by
  have h1 := fold_len p (ones.take i) (row', pints ps, f)
  rw [hC.1.st2] at h1
  have h2 : (pints c.ps).length = c.ps.length := by simp [pints]
  have h4 : (pints ps).length = ps.length := by simp [pints]
  dsimp only at h1
  rw [h2, h4, List.length_take] at h1
  omega
theorem pick_upto {vs : List Value} {j : Int} (h : 0 ≤ j) : kms_pick vs none (some j) = vs.take j.toNat := by
  unfold kms_pick kms_lo kms_hi
  dsimp only
  rw [if_neg (by omega), List.drop_zero, Nat.sub_zero]
  by_cases hl : j.toNat ≤ vs.length
  · rw [Nat.min_eq_left hl]
  · rw [Nat.min_eq_right (by omega), List.take_of_length_le (Nat.le_refl _), List.take_of_length_le (by omega)]
end Mine
namespace Mine
noncomputable def AnPost (most : Int) (row : List Int) (vs V : List Value) (news : Led) (T : Nat) (r : Value) (news' : Led) : Prop :=
  ∃ (hd : Addr) (ps : List PC) (hn : Nat), r = .ref hd ∧ news' = (hd, heldO ps hn) :: (ps.map PC.ent ++ news) ∧ pints ps = (ansF most row 3).2.1 ∧ (∀ q ∈ ps, Value.int q.o q.to ∈ vs ∧ (0 ≤ q.o ∧ q.o ≤ 7) ∧ (0 ≤ q.x ∧ q.x ≤ 7)) ∧
    TkOk (pvals ps ++ V) T ∧ 2 ≤ T ∧ (∀ q ∈ ps, ∀ p ∈ news, p.1 ≠ q.a) ∧ (∀ q ∈ ps, q.a ≠ hd) ∧ (∀ p ∈ news, p.1 ≠ hd)
theorem an_ret {most : Int} {row : List Int} {vs V : List Value} {news : Led} {Q : Value → Shared → Prop} {h₀ : Heap} {L : Addr} {m : Str → Option Value} {s : Shared} {h' : Heap} {tk : Nat} {h0 r0 ce k pl l : Addr} {po lo ko : Obj} {c : AnC}
    (hret : ∀ (r : Value) (news' : Led) (h' : Heap) (tk' : Nat), AnPost most row vs V news tk' r news' → Fr h₀ L h' m → News h₀ L h' news' → Q r { s with heap := h', toks := tk' })
    (hA : AnP most row vs V ((pl, po) :: (l, lo) :: news) [h0, r0, ce, k] (ansF most row 3) tk c) (hlt : AllLt h0 news) (F : Fr h₀ L h' m) (N : News h₀ L h' (anLed h0 r0 ce k ko ((pl, po) :: (l, lo) :: news) c)) : Q (.ref h0) { s with heap := h', toks := tk } := by
  refine hret _ ((h0, heldO c.ps c.hn) :: (c.ps.map PC.ent ++ news)) _ _ ⟨h0, c.ps, c.hn, rfl, rfl, hA.st2.symm, hA.bd, hA.tk, hA.tk2, fun q hq p hp => hA.off q hq p (.tail _ (.tail _ hp)), fun q hq e => hA.offF q hq (by rw [e]; exact .head _), fun p hp => Nat.ne_of_lt (kst_ltOf hlt p hp)⟩ F fun p hp => N p ?_
  rcases List.mem_cons.mp hp with rfl | hp
  · exact .head _
  · refine .tail _ (.tail _ (.tail _ (.tail _ ?_)))
    rcases List.mem_append.mp hp with hp | hp
    · exact List.mem_append_left _ hp
    · exact List.mem_append_right _ (.tail _ (.tail _ hp))
theorem ans_spec {w : World} {news : Led} {l k : Addr} {n n2 : Nat} {vs us V : List Value} {row cs : List Int} {most : Int} {t : Tok} (hm : (l, W.listOf vs.toArray n) ∈ news) (hI : IntsAre vs row) (hm2 : (k, W.listOf us.toArray n2) ∈ news) (hI2 : IntsAre us cs) (hl : row.length ≤ 4) (hso : row.Pairwise (· ≤ ·)) (hb : ∀ a ∈ row, 0 ≤ a ∧ a ≤ 7)
    (hmo : 1 ≤ most ∧ most ≤ 3) (hcs : cs.length = 3) (hV : ∀ v ∈ vs, v ∈ V) (hok : AnsOk most row cs) :
    ClaimT 14 w 236 news [.ref l, .ref k, .int most t] (fun T => 2 ≤ T ∧ TkOk V T) (fun T' r news' => AnPost most row vs V news T' r news') := by
  k_with_none
  (k_with "mine asks" => ((
  (case wq_k1 => k_asm); (case wq_k2 => k_asm); (case wq_k3 => k_asm); (case wq_k4 => k_asm); (case wq_k5 => k_asm); (case wq_k6 => exact rfl); (case wq_k7 => ((try simp only [ktrTop, depth_under_make, depth_under_kw, depth_in1, depth_deeper, depth_caller]); omega)); (case wq_k8 => ((try simp only [ktrTop, units_in1, units_deeper, Around.mark_units, units_caller]); omega)))))
  (k_with "exec For Name List cons nil" => ((k_here; k_dflt (refine' For_T ?_))))
  (k_with "exec For Name Subscript cons nil" => ((k_here; k_dflt (refine' For_T ?_))))
  (k_with "TPost" => (dsimp only [TPost]))
  (k_with "execs cons" => ((k_here; first | (with_reducible refine gen_toks ?_; intro tk' htk'; (try dsimp only at htk')) | ((with_reducible show wpAny _ _ _ _ _ (Shared.mk _ _ _ (Shared.toks _) _)); dsimp only))))
  (k_with "execs nil" => ((k_here; first | (with_reducible refine gen_toks ?_; intro tk' htk'; (try dsimp only at htk')) | ((with_reducible show wpAny _ _ _ _ _ (Shared.mk _ _ _ (Shared.toks _) _)); dsimp only))))
  (k_with "call ref" => ((k_here; (with_reducible show wpAny _ _ (call (Value.ref 231) [Value.ref _, Value.int _ _] _) _ _ _); k_dflt (refine' useCg (ones_vals ?wq_hm ?wq_hi ?wq_hl ?wq_hl1 ?wq_hs ?wq_hb ?wq_hp ?wq_hwd ?wq_hw1) ?wq_k1 ?wq_k2 ?wq_k3 ?wq_k4 ?wq_k5 ?wq_k6 ?wq_k7 ?wq_k8 ?_; walk_at "mine asks"; (case wq_hm => k_mem); (case wq_hi => assumption); (case wq_hl => assumption); (case wq_hl1 => assumption); (case wq_hs => assumption); (case wq_hb => assumption); (case wq_hp => assumption); (case wq_hwd => assumption); (case wq_hw1 => assumption); intro r' n' h' tk' htk' hp' F' N'; obtain ⟨x', vs', nn', hp1, hp2, hI', hlt', hM'⟩ := hp'; subst hp2; subst hp1; (simp only [AllLt, and_true] at hlt'); (try dsimp only at htk'); (try dsimp only)))))
  (k_with "mine mem" => (first | (with_reducible_and_instances assumption) | exact List.Mem.head _ | (refine' List.Mem.tail _ ?_; walk_at "mine mem")))
  (k_with "subscriptTail Name Constant ref int" => ((k_here; (with_reducible show wpAny _ _ (subscriptTail _ _ (Value.ref (PC.a _)) (Value.int _ _)) _ _ _); k_dflt
  (refine' pair_item ?wq_k1 ?wq_k2 ?_ ?wq_k3; (case wq_k1 => k_asm); (case wq_k2 => walk_at "mine mem"); (case wq_k3 => with_unfolding_all rfl)))))
  (k_with "subscriptTail Name Constant ref int" => ((k_here; (with_reducible show wpAny _ _ (subscriptTail _ _ (Value.ref (PC.a _)) (Value.int 1 _)) _ _ _); k_dflt
  (refine' pair_item1 ?wq_k1 ?wq_k2 ?_ ?wq_k3; (case wq_k1 => k_asm); (case wq_k2 => exact List.Mem.head _); (case wq_k3 => with_unfolding_all rfl)))))
  (k_with "call ref" => ((k_here; (with_reducible show wpAny _ _ (call (Value.ref 125) [Value.ref _, Value.int 1 _] _) _ _ _); (rename Cmp1 _ _ => hc9); k_dflt (refine' useCg (count_spec ?wq_hm ?wq_hi ?wq_hl ?wq_hc) ?wq_k1 ?wq_k2 ?wq_k3 ?wq_k4 ?wq_k5 ?wq_k6 ?wq_k7 ?wq_k8 ?_; walk_at "mine asks"; (case wq_hm => k_mem); (case wq_hi => assumption); (case wq_hl => (rw [List.length_map]; omega)); (case wq_hc => exact hc9 _ (by first | exact Nat.le_refl _ | omega)); intro r' n' h' tk' htk' hp' F' N'; obtain ⟨hp1, t', hp2⟩ := hp'; subst hp1; subst hp2; (try dsimp only at htk'); (try dsimp only)))))
  (k_with "call builtin:len" => ((k_here; (with_reducible show wpAny _ _ (call (Value.builtin "len") [Value.ref _]) _ _ _); k_dflt (first
  | (refine' len_vals ?wq_k1 ?wq_k2 (len_refs _) ?wq_k4 ?_; (case wq_k1 => k_asm); (case wq_k2 => k_mem); (case wq_k4 => omega))
  | (refine' len_vals ?wq_k1 ?wq_k2 (IntsAre.length (by assumption)) ?wq_k4 ?_; (case wq_k1 => k_asm); (case wq_k2 => k_mem); (case wq_k4 => omega))))))
  (k_with "compareOp NotEq int int" => ((k_here; refine ne_self (by assumption) ?_)))
  (k_with "subscriptTail Name Slice ref ref" => ((k_here; (with_reducible show wpAny _ _ (subscriptTail _ (PySem.Expr.Slice _ _ none _) (Value.ref _) (Value.ref _)) _ _ _); k_dflt (refine' slice_vals ?wq_F ?wq_N ?wq_l ?wq_z ?wq_p ?wq_q ?_ ?wq_s ?wq_t; (case wq_F => k_asm); (case wq_N => k_asm); (case wq_l => k_mem); (case wq_z => first | ((rw [len_refs]; omega)) | omega); (case wq_p => kmk_part); (case wq_q => kmk_part); (case wq_s => with_unfolding_all rfl); (case wq_t => kmk_pure)); intro D' h' F' N' l1; k_lt l1)))
  (k_with "setItem ref int" => ((k_here; (with_reducible show wpAny _ _ (setItem (Value.ref (PC.a _)) (Value.int 1 _) (Value.int _ _)) _ _ _); k_dflt (refine' set1_V ?wq_k1 ?wq_k2 ?wq_k3 ?_; (case wq_k1 => k_asm); (case wq_k2 => k_asm); (case wq_k3 => assumption)); intro h' F' N')))
  (k_with "call ref" => ((k_here; (with_reducible show wpAny _ _ (call (Value.ref 48) [Value.ref _, Value.int _ _] _) _ _ _); k_dflt (refine' useCg (bl_spec ?wq_hm ?wq_hi ?wq_hl ?wq_hs) ?wq_k1 ?wq_k2 ?wq_k3 ?wq_k4 ?wq_k5 ?wq_k6 ?wq_k7 ?wq_k8 ?_; walk_at "mine asks"; (case wq_hm => k_mem); (case wq_hi => assumption); (case wq_hl => omega); (case wq_hs => assumption); intro r' n' h' tk' htk' hp' F' N'; obtain ⟨hp1, t', hp2⟩ := hp'; subst hp1; subst hp2; (try dsimp only at htk'); (try dsimp only)))))
  (k_with "delItem ref int" => ((k_here; k_dflt (refine' del_V ?wq_k1 ?wq_k2 ?wq_k3 ?wq_k4 ?wq_k5 ?wq_k6 ?_; (case wq_k1 => k_asm); (case wq_k2 => k_asm); (case wq_k3 => k_updF); (case wq_k4 => assumption); (case wq_k5 => omega); (case wq_k6 => omega); k_whole); intro h' vs' hI' hM' F' N'; (try dsimp only at N'))))
  (k_with "call builtin:list.append" => ((k_here; k_dflt (refine' app_V ?wq_k1 ?wq_k2 ?wq_k3 ?wq_k4 ?_; (case wq_k1 => k_asm); (case wq_k2 => k_asm); (case wq_k3 => k_updF); (case wq_k4 => (rw [len_refs]; omega)); k_whole); intro h' F' N'; (try dsimp only at N'))))
  (k_with "call ref" => ((k_here; (with_reducible show wpAny _ _ (call (Value.ref 236) _ _) _ _ _); k_dflt (refine wpAny_call ?_; (refine' enter_T ?wq_k1 ?wq_k2 ?wq_k3 ?wq_k4 ?wq_k5 ?wq_kA ?wq_kF ?wq_kK ?wq_k6 ?wq_k7 ?wq_k8 ?wq_k9 ?wq_kB ?wq_kD ?_ ?wq_c2 ?wq_c3 ?wq_c4; (case wq_kA => exact rfl); (case wq_kF => exact rfl); (case wq_kK => exact rfl); (case wq_k1 => k_asm); (case wq_k2 => k_asm); (case wq_k3 => k_asm); (case wq_k4 => k_asm); (case wq_k5 => k_asm); (case wq_k6 => k_is); (case wq_k7 => k_is); (case wq_k8 => k_room); (case wq_k9 => exact BindsTo.of_eq rfl); (case wq_kB => exact rfl); (case wq_kD => decide +kernel); (case wq_c2 => exact rfl); (case wq_c3 => exact rfl); (case wq_c4 => exact rfl); k_whole; intro g' L' h' tk' cells' htk' FG' F' N' Y' B' X' T' l1; (try k_lt l1); k_cells Y'; (try simp only [List.cons_append, List.nil_append] at N'); (try dsimp only); (try k_lift B'); (try k_fold))))))
  intro mean mg mb dp un gd cn cs a1 ccd cl outer A₀ base h₀ L m s Q E B F X N T hk hdp hun hpre hret
  obtain ⟨ck, c2, c3, c4, c5⟩ := cs
  cases hk
  obtain ⟨hp2, hpT⟩ := hpre
  replace N := news_add (news_add N hm) (.tail _ hm2)
  have hMk : KstMark := kstMark
  (repeat ((fail_if_success (first | with_reducible show wpAny _ _ (pyIter _) _ _ _)); walk_at "mine step"))
  rename Fr _ _ _ _ => F9
  rename News _ _ _ _ => N9
  rename _ = Data.cell _ => d9
  replace d9 : ∃ v, Obj.data _ = Data.cell v := ⟨_, d9⟩
  dsimp only [AllLt] at *
  (rename _ < _ ∧ _ < _ ∧ _ < _ ∧ _ < _ ∧ _ < _ ∧ AllLt _ _ => lp)
  (rename _ < _ ∧ _ < _ ∧ _ < _ ∧ _ < _ ∧ AllLt _ _ => lh)
  (rename _ < _ ∧ _ < _ ∧ _ < _ ∧ AllLt _ _ => lr)
  (rename _ < _ ∧ _ < _ ∧ AllLt _ _ => lc)
  with_unfolding_all refine' an_loop (most := most) rfl F9 N9 hI d9 hp2 hpT ?hTs ?turn ?done
  case hTs => dsimp only; omega
  case turn =>
    clear F9 N9
    intro c i v u h9 tk9 own hv hoff hP F9 N9
    obtain ⟨hi3, p, tp, rfl, hpi, hp3, hp4, wd, hwd, hw1⟩ := pl_item hv
    dsimp only [anLed, kstB] at *
    simp only [List.cons_append] at N9
    simp only [List.map_cons] at hoff
    obtain ⟨rv, rn, row', hn, ps, oc⟩ := c
    dsimp only at *
    have hPc := hP
    obtain ⟨hir, hmr, hsub, hnd, hoffP, hoffF, hbd, hst1, hst2, hcel, htk2, htk⟩ := hP
    dsimp only at hir hmr hsub hnd hoffP hoffF hbd hst1 hst2 hcel
    have hl' : row'.length ≤ 4 := Nat.le_trans hsub.length_le hl
    have hso' := hso.sublist hsub
    have hb' : ∀ a ∈ row', 0 ≤ a ∧ a ≤ 7 := fun a ha => hb a (hsub.subset ha)
    obtain ⟨hk1, hk2, hk3⟩ := ok_facts hok hi3 hpi hwd hst1 hst2
    have hT9 := an_tail lp.1 lp.2.1 lp.2.2.1 (Nat.lt_succ_of_lt lc.2.1) lr.1 lh.1 (lt_up lc.2.2) hoff hoffF
    have hol := onesF_len hl' hk1 hb' hp3 hwd hw1
    have hnn := (lp.1 : @LT.lt Nat _ _ _)
    generalize htl : (List.map PC.ent ps ++ _ :: (l, W.listOf vs.toArray n) :: news ++ own : Led) = tl at N9 hT9
    have hkc := (Nat.lt_succ_of_lt lc.1 : @LT.lt Nat _ _ _)
    obtain ⟨vcel, hcel⟩ := hcel
    have htl2 := htl.symm
    rw [List.append_assoc] at htl2
    have hfm := fmod_bd (a := ((onesF row' wd).length : Int)) (b := most + 1) (by omega)
    generalize hPQ : TPost _ _ _ _ _ _ = PQ
    (repeat ((fail_if_success (first | with_reducible show wpAny _ _ (eval (PySem.Expr.ListComp ..) _) _ _ _)); walk_at "mine step"))
    refine wpAny_grow (comp_T (x := "pair") (F₀ := by k_asm) (by with_unfolding_all rfl) (by decide) (by rfl) (by decide) (by rfl) ?_)
    (repeat ((fail_if_success (first | with_reducible show CSrcT ..)); walk_at "mine step"))
    rename Fr _ _ _ _ => F8
    rename News _ _ _ _ => N8
    refine ⟨_, _, _, _, rfl, rfl, F8, N8, .tail _ (.head _), (by rw [List.length_map]; omega), KBit ps p, ?K0, (fun k k' ys => KBit.up), ?el, ?fin⟩
    case K0 => exact ⟨by dsimp only; omega, .nil, fun _ h => nomatch h⟩
    case el =>
      clear F8 N8
      intro j v ys I oI C oC D m₂ h8 tk8 E' hv8 hyl hK hns hm₂ F8 N8 off8 ne8
      obtain ⟨q, hq, rfl, hqm⟩ := ref_at hv8
      obtain ⟨hq1, hq2, hq3⟩ := hbd q hqm
      have hqe := ent_mem htl hqm
      k_steps
      exact el_end (by assumption) (by assumption) (hK.add (by rw [hyl]; exact hq) rfl (by omega) (by first | omega | exact Nat.lt_succ_self _))
    case fin =>
      clear F8 N8
      intro D8 h8 tk8 ys hK hyl F8 N8 off8 hgr
      dsimp only at hgr
      rw [List.length_map] at hyl
      obtain ⟨hKI, hcm⟩ := cmp1_of hK hyl hbd hp3
      have hkn := known_eq ps p
      have h28 := hK.1
      rw [← hkn] at hk3
      rename Obj => oc8
      (rename _ = Data.cell (some (Value.int p tp)) => d8)
      (rename IntsAre _ (onesF _ _) => hIo)
      have hIl := hIo.length
      (rename ∀ v ∈ _, v ∈ rv => hMo)
      (rename _ < _ ∧ _ < _ ∧ _ < _ ∧ _ < _ ∧ AllLt _ tl => hlx)
      k_steps
      · -- as many bits as lack
        rename Fr _ _ _ _ => F7
        rename News _ _ _ _ => N7
        rename _ < _ ∧ _ < _ ∧ _ < _ ∧ _ < _ ∧ _ < _ ∧ _ < _ ∧ AllLt _ tl => l7
        have hsv := (pick_upto (vs := ps.map fun q => Value.ref q.a) (j := most + 1 - ((onesF row' wd).length : Int).fmod (most + 1)) (by omega)).trans (List.map_take ..).symm
        rw [htl2] at N7
        with_unfolding_all refine' b_loop (wd := wd) (pre := [_, _, _, _, _, _, _]) hsv (by omega) (.head _) rfl F7 N7 ?hP7b ?turnb ?doneb
        case hP7b => exact ap_mid hPc hoff d8 (by dsimp only; omega)
        case turnb =>
          clear F7 N7
          intro c i2 v u2 h7 tk7 own7 hv7 hoff7 hB F7 N7
          obtain ⟨q0, hq0, hv0⟩ := sl_at hsv hv7
          obtain ⟨q, hq, hqa⟩ := get_map_eq hB.2 hq0
          rw [← hqa] at hv0
          subst hv0
          obtain ⟨Nb, hofr, hqx⟩ := b_start hB hq (.tail _ (.tail _ (.tail _ (.tail _ (.tail _ (.head _)))))) N7
          dsimp only [kstB] at F7
          generalize hPQ2 : TPost _ _ _ _ _ _ = PQ2
          clear N7
          k_steps
          rw [← hPQ2]
          dsimp only [TPost]
          refine b_end hB hq (b_pre (List.mem_of_getElem? hq0) hqa htl2 l7.2.2.2.2.2.2 off8.2.2.2.2.2 hlx.2.2.2.2 hoffF) hoff7 (by assumption) (by assumption) (by rw [← hwd]) (by omega) (by omega) (by omega) ?_
          intro z z1
          simp only [z1, if_false, List.contains_nil, Bool.false_eq_true]
        case doneb =>
          clear F7 N7
          intro c u2 h7 tk7 hB F7 N7
          dsimp only [kstB] at F7
          k_steps
          rw [← hPQ]
          dsimp only [TPost]
          refine an_end hB.1 (ans_b hpi hwd hst1 hst2 (by assumption) (by assumption)) F7 N7 (fun p hp => mem_b hB.2 rfl hp) hoff ?_
          intro z z1 z2
          obtain ⟨y1, y2, y3, y4⟩ := nstored z2
          simp only [z1, z2, y1, y2, y3, if_false, List.contains_nil, Bool.false_eq_true]
      · -- heaps of the stretches
        rename Fr _ _ _ _ => F7
        rename News _ _ _ _ => N7
        rename _ < _ ∧ _ < _ ∧ _ < _ ∧ _ < _ ∧ _ < _ ∧ _ < _ ∧ AllLt _ tl => l7
        rw [htl2] at N7
        have hIs := hIo.take (((onesF row' wd).length : Int).fmod (most + 1)).toNat
        rw [← pick_upto hfm.1] at hIs
        have hans := (ans_c hpi hwd hst1 hst2 (by assumption) (by assumption)).trans (congrArg (List.foldl (addF p) · _) (st_eta hst1 hst2))
        have hflag := ans_flag hok.2 hi3
        rw [hans] at hflag
        replace N7 := n_to_c N7
        with_unfolding_all refine' c_loop (p := p) (c0 := ⟨rv, rn, row', hn, ps, oc8⟩) (pre := [_, _, _, _, _]) hIs (.head _) rfl F7 N7 ?hPc9 rfl ?turnc ?donec
        case hPc9 => exact ap_mid hPc hoff d8 (by dsimp only; omega)
        case turnc =>
          clear F7 N7
          intro c i2 v u2 h7 tk7 own7 hv7 hoff7 hC F7 N7
          obtain ⟨old, to, rfl, ho⟩ := IntsAre.at hIs i2 v hv7
          have hov := hmr _ (hMo _ (pick_mem _ (List.mem_of_getElem? hv7)))
          have hob := hb _ (int_mem hI hov)
          have hbl := flag_at hflag ho
          rw [hC.1.st1] at hbl
          have hbl2 : (bl c.row old : Int) < c.row.length := by omega
          have hcr := hC.1.ir
          have hcs2 := hso.sublist hC.1.sub
          have hcl := Nat.le_trans hC.1.sub.length_le hl
          have hcpl := cp_len hC hk2 (by rw [List.length_take]; omega)
          obtain ⟨Nc, hofc⟩ := c_start hC (.tail _ (.tail _ (.tail _ (.head _)))) (c_pre (by omega) (by omega) (Ne.symm off8.2.1) (Ne.symm off8.2.2.1) (by omega) (by omega) (by omega) (by omega) (by omega) (by omega)) (c_rs htl2 hT9) hoff7 N7
          clear N7
          dsimp only [kstB] at F7
          generalize hPQ2 : TPost _ _ _ _ _ _ = PQ2
          generalize htl3 : (_ ++ (List.map PC.ent c.ps ++ _) ++ own7 : Led) = tl3 at Nc hofc
          k_steps
          (rename _ < _ ∧ _ < _ ∧ _ < _ ∧ AllLt _ tl3 => ln)
          rw [← hPQ2]
          dsimp only [TPost]
          subst htl3
          refine c_end hC ho hov hob ⟨hp3.1, hp4⟩ hoff7 (.tail _ (.tail _ (.tail _ (.tail _ (.head _))))) (.tail _ (.tail _ (.tail _ (.head _)))) (by assumption) (by assumption) hV rfl ln (by assumption) (by assumption) rfl (by omega) (by omega) ?_
          intro z z1
          simp only [z1, if_false, List.contains_nil, Bool.false_eq_true]
        case donec =>
          clear F7 N7
          intro c u2 h7 tk7 hA hoc F7 N7
          dsimp only [kstB] at F7
          k_steps
          rw [← hPQ]
          dsimp only [TPost]
          refine an_end hA hans F7 N7 (fun p hp => mem_c hoc hp) hoff ?_
          intro z z1 z2
          obtain ⟨y1, y2, y3, y4⟩ := nstored z2
          simp only [z1, z2, y1, y2, y4, if_false, List.contains_nil, Bool.false_eq_true]
      · -- none
        rw [← hPQ]
        dsimp only [TPost]
        refine an_end (ap_mid hPc hoff d8 (by omega)) ((ans_n hpi hwd hst1 hst2 (by assumption)).trans (st_eta hst1 hst2)) (by assumption) (by assumption) ?_ hoff ?_
        · exact fun p hp => mem_n htl2 hp
        · intro z z1 z2
          obtain ⟨y1, y2, y3, y4⟩ := nstored z2
          simp only [z1, z2, y1, y2, if_false, Bool.false_eq_true]
  case done =>
    clear F9 N9
    intro c u h9 tk9 hA F9 N9
    have hA' := hA
    dsimp only [kstB] at F9
    unfold anLed at N9
    k_steps
    exact an_ret hret hA' lh.2.2.2.2 (by assumption) (by assumption)
end Mine
namespace Mine
/-- the numbers of ones at the three places -/
noncomputable def cntF (row : List Int) : List Int := [(row.map fun a => a / 1 % 2).sum, (row.map fun a => a / 2 % 2).sum, (row.map fun a => a / 4 % 2).sum]
noncomputable def levF (most : Int) (row : List Int) : Bool := (cntF row).all fun c => decide (c.fmod (most + 1) = 0)
noncomputable def ansOkB (most : Int) (row : List Int) : Bool := (okT 2 4 ((cntF row).getD 2 0) (ansF most row 0) && okT 1 2 ((cntF row).getD 1 0) (ansF most row 1) && okT 0 1 ((cntF row).getD 0 0) (ansF most row 2)) && (ansF most row 3).2.2
/-- one heap taken down in the row -/
noncomputable def takeF (row : List Int) (o x : Int) : List Int := ins (row.eraseIdx (bl row o)) (br (row.eraseIdx (bl row o)) x) x
noncomputable def takesOk : List (Int × Int) → List Int → Bool
  | [], _ => true
  | q :: r, row => row.contains q.1 && decide (q.2 < q.1) && decide (0 ≤ q.2) && takesOk r (takeF row q.1 q.2)
noncomputable def takesF (hs : List (Int × Int)) (row : List Int) : List Int := hs.foldl (fun row q => takeF row q.1 q.2) row
noncomputable def chk (most : Int) (row : List Int) : Bool := levF most row || (ansOkB most row && decide (1 ≤ (ansF most row 3).2.1.length) && decide ((ansF most row 3).2.1.length ≤ 4) && takesOk (ansF most row 3).2.1 row && levF most (takesF (ansF most row 3).2.1 row))
noncomputable def chkA (m a : Nat) : Bool := (List.range 8).all fun b => decide (b < a) || (List.range 8).all fun c => decide (c < b) || (List.range 8).all fun d => decide (d < c) || chk ((m : Nat) : Int) [(a : Int), (b : Int), (c : Int), (d : Int)]
theorem chk1 : ∀ a < 8, chkA 1 a = true := by decide +kernel

theorem chk2 : ∀ a < 8, chkA 2 a = true := by decide +kernel
theorem chk3 : ∀ a < 8, chkA 3 a = true := by decide +kernel
theorem chk_all {most a b c d : Int} (hm : 1 ≤ most ∧ most ≤ 3) (ha : 0 ≤ a) (hab : a ≤ b) (hbc : b ≤ c) (hcd : c ≤ d) (hd : d ≤ 7) : chk most [a, b, c, d] = true := by
  have h : chkA most.toNat a.toNat = true := by
    have : most.toNat = 1 ∨ most.toNat = 2 ∨ most.toNat = 3 := by omega
    rcases this with e | e | e <;> rw [e]
    · exact chk1 _ (by omega)
    · exact chk2 _ (by omega)
    · exact chk3 _ (by omega)
  unfold chkA at h
  have h1 := List.all_eq_true.mp h b.toNat (List.mem_range.mpr (by omega))
  rw [decide_eq_false (by omega), Bool.false_or] at h1
  have h2 := List.all_eq_true.mp h1 c.toNat (List.mem_range.mpr (by omega))
  rw [decide_eq_false (by omega), Bool.false_or] at h2
  have h3 := List.all_eq_true.mp h2 d.toNat (List.mem_range.mpr (by omega))
  rw [decide_eq_false (by omega), Bool.false_or] at h3
  rw [show ((most.toNat : Nat) : Int) = most from by omega, show ((a.toNat : Nat) : Int) = a from by omega, show ((b.toNat : Nat) : Int) = b from by omega, show ((c.toNat : Nat) : Int) = c from by omega, show ((d.toNat : Nat) : Int) = d from by omega] at h3
  exact h3
end Mine
namespace Mine
noncomputable abbrev Sorted (l : List Int) : Prop := l.Pairwise (· ≤ ·)
theorem bl_split {x : Int} : ∀ {l : List Int}, Sorted l → (∀ a ∈ l.take (bl l x), a < x) ∧ ∀ a ∈ l.drop (bl l x), x ≤ a
  | [], _ => ⟨fun _ h => by simp at h, fun _ h => by simp at h⟩
  | a :: r, h => by
    have h' := List.pairwise_cons.mp h
    obtain ⟨i1, i2⟩ := bl_split (x := x) h'.2
    unfold bl at i1 i2 ⊢
    rw [List.countP_cons]
    by_cases hax : a < x
    · rw [if_pos (by simpa using hax)]
      rw [List.take_succ_cons, List.drop_succ_cons]
      refine ⟨fun b hb => ?_, i2⟩
      rcases List.mem_cons.mp hb with rfl | hb
      · exact hax
      · exact i1 b hb
    · have h0 : r.countP (fun a => decide (a < x)) = 0 := by
        rw [List.countP_eq_zero]
        intro b hb
        have := h'.1 b hb
        simp only [decide_eq_true_eq]; omega
      rw [if_neg (by simpa using hax), h0]
      refine ⟨fun b hb => by simp at hb, fun b hb => ?_⟩
      rw [List.drop_zero] at hb
      rcases List.mem_cons.mp hb with rfl | hb
      · omega
      · have := h'.1 b hb; omega
theorem bl_at {x : Int} {l : List Int} (h : Sorted l) (hx : x ∈ l) : ∃ hb : bl l x < l.length, l[bl l x] = x := by
  obtain ⟨h1, h2⟩ := bl_split (x := x) h
  have hlt : bl l x < l.length := by
    rcases Nat.lt_or_ge (bl l x) l.length with h' | h'
    · exact h'
    · rw [List.take_of_length_le h'] at h1
      exact absurd (h1 x hx) (Int.lt_irrefl x)
  refine ⟨hlt, ?_⟩
  have hd : l.drop (bl l x) = l[bl l x] :: l.drop (bl l x + 1) := List.drop_eq_getElem_cons hlt
  have hge : x ≤ l[bl l x] := h2 _ (by rw [hd]; exact .head _)
  have hmem : x ∈ l.drop (bl l x) := by
    rw [← List.take_append_drop (bl l x) l] at hx
    rcases List.mem_append.mp hx with hx | hx
    · exact absurd (h1 x hx) (Int.lt_irrefl x)
    · exact hx
  rw [hd] at hmem
  have hs : Sorted (l.drop (bl l x)) := h.sublist (List.drop_sublist _ _)
  rw [hd] at hs
  rcases List.mem_cons.mp hmem with e | hm
  · exact e.symm
  · exact Int.le_antisymm ((List.pairwise_cons.mp hs).1 x hm) hge
theorem erase_perm {l : List Int} {i : Nat} (h : i < l.length) : l.Perm (l[i] :: l.eraseIdx i) := by
  have e : l = l.take i ++ l[i] :: l.drop (i + 1) := by
    rw [← List.drop_eq_getElem_cons h, List.take_append_drop]
  rw [List.eraseIdx_eq_take_drop_succ]
  refine List.Perm.trans ?_ List.perm_middle
  rw [← e]
theorem set_perm {l : List Int} {i : Nat} {v : Int} (h : i < l.length) : (l.set i v).Perm (v :: l.eraseIdx i) := by
  have h' : i < (l.set i v).length := by rw [List.length_set]; exact h
  have := erase_perm h'
  rw [List.getElem_set_self, List.eraseIdx_set_eq] at this
  exact this
theorem ins_perm (l : List Int) (k : Nat) (x : Int) : (ins l k x).Perm (x :: l) := by
  unfold ins
  have := List.perm_middle (a := x) (l₁ := l.take k) (l₂ := l.drop k)
  rwa [List.take_append_drop] at this
theorem ins_sorted {l : List Int} (h : Sorted l) (x : Int) : Sorted (ins l (br l x) x) := by
  obtain ⟨h1, h2⟩ := bl_split (x := x + 1) h
  rw [← br_bl] at h1 h2
  unfold ins
  refine List.pairwise_append.mpr ⟨h.sublist (List.take_sublist _ _), List.pairwise_cons.mpr ⟨fun a ha => by have := h2 a ha; omega, h.sublist (List.drop_sublist _ _)⟩, fun a ha b hb => ?_⟩
  have ha' := h1 a ha
  rcases List.mem_cons.mp hb with rfl | hb
  · omega
  · have := h2 b hb; omega
/-- a take keeps the row the heaps in order -/
theorem take_keeps {row hs : List Int} {k : Nat} {left : Int} (hr : Sorted row) (hp : row.Perm hs) (hk : k < hs.length) :
    bl row (hs.getD k 0) < row.length ∧ Sorted (ins (row.eraseIdx (bl row (hs.getD k 0))) (br (row.eraseIdx (bl row (hs.getD k 0))) left) left) ∧ (ins (row.eraseIdx (bl row (hs.getD k 0))) (br (row.eraseIdx (bl row (hs.getD k 0))) left) left).Perm (hs.set k left) := by
  have e : hs[k] = hs.getD k 0 := by rw [List.getD_eq_getElem?_getD, List.getElem?_eq_getElem hk]; rfl
  generalize hs.getD k 0 = x at e ⊢
  have hm : x ∈ row := hp.mem_iff.mpr (by rw [← e]; exact List.getElem_mem hk)
  obtain ⟨hb, hb2⟩ := bl_at hr hm
  refine ⟨hb, ins_sorted (hr.sublist (List.eraseIdx_sublist _ _)) _, (ins_perm _ _ _).trans (((List.Perm.cons _ ?_)).trans (set_perm hk).symm)⟩
  have h1 := (erase_perm hb).symm.trans (hp.trans (erase_perm hk))
  rw [hb2, e] at h1
  exact h1.cons_inv
/-- a row in order is the only one -/
theorem sorted_eq {a b : List Int} (ha : Sorted a) (hb : Sorted b) (h : a.Perm b) : a = b := h.eq_of_pairwise (fun _ _ _ _ h1 h2 => Int.le_antisymm h1 h2) ha hb
theorem takeF_eq (row : List Int) (o x : Int) : takeF row o x = ins (row.eraseIdx (bl row o)) (br (row.eraseIdx (bl row o)) x) x := rfl
theorem sum_perm {a b : List Int} (h : a.Perm b) : a.sum = b.sum := by
  induction h with
  | nil => rfl
  | cons x _ ih => rw [List.sum_cons, List.sum_cons, ih]
  | swap x y l => simp only [List.sum_cons]; omega
  | trans _ _ h1 h2 => exact h1.trans h2
theorem cnt_perm {a b : List Int} (h : a.Perm b) : cntF a = cntF b := by
  have e : ∀ f : Int → Int, (a.map f).sum = (b.map f).sum := fun f => sum_perm (h.map f)
  unfold cntF
  rw [e, e, e]
theorem lev_perm {most : Int} {a b : List Int} (h : a.Perm b) : levF most a = levF most b := by unfold levF; rw [cnt_perm h]
end Mine
namespace Mine
section
variable {prog : Program} {w : World} {A : Around} {E : Value → Shared → Prop} {s : Shared} {h₀ : Heap} {L : Addr} {m : Str → Option Value} {env : Env}
/-- a test's end: if it holds, the element's value keeps what K says; else K goes on as it was -/
noncomputable def TstEnd (prog : Program) (w : World) (A : Around) (h₀ : Heap) (L : Addr) (m : Str → Option Value) (s₁ : Shared) (all : Led) (K : List Value → Prop) (ys : List Value) (env' : Env) (elt : PySem.Expr) (E' : Value → Shared → Prop) (b : Bool) (s₂ : Shared) : Prop :=
  if b = true then wpAny (model prog w) A (eval elt env') (ElEnd h₀ L m s₁ all (fun _ y => K (ys ++ [y]))) E' s₂
  else ∃ h' tk, s₂ = { s₁ with heap := h', toks := tk } ∧ Fr h₀ L h' m ∧ News h₀ L h' all ∧ K ys
end
end Mine
namespace Mine
section
variable {prog : Program} {w : World} {A : Around} {E : Value → Shared → Prop} {s : Shared} {h₀ : Heap} {L : Addr} {m : Str → Option Value} {env : Env}
/-- the range that a comprehension with a test goes through -/
noncomputable def CSrcRA (prog : Program) (w : World) (A : Around) (h₀ : Heap) (L : Addr) (m : Str → Option Value) (env : Env) (elt tst : PySem.Expr) (x : Str) (scope : Scope) (cl : List (Str × Addr)) (y : Str) (Q : Flow → Shared → Prop) (xv : Value) (s₁ : Shared) : Prop :=
  ∃ (r : Addr) (a b : Int) (t u v : Tok) (n : Nat) (news : Led), xv = .ref r ∧ A.handled = none ∧ Fr h₀ L s₁.heap m ∧ News h₀ L s₁.heap news ∧ IsRange s₁.heap r a b 1 t u v ∧ Builtin.Range.small a b 1 = true ∧ Builtin.Range.rangeSize a b 1 = (n : Int) ∧ n ≤ 1000 ∧
      ∃ K : Nat → List Value → Prop, K 0 [] ∧ (∀ i ys, K i ys → ys.length ≤ i) ∧
        (∀ (i : Nat) t ys I oI C oC D m₂ h tk (E' : Value → Shared → Prop), i < n → K i ys → LCg.NsObj oC m₂ → m₂ x = some (.int (a + (i : Int)) t) → Fr h₀ L h m → News h₀ L h ((I, oI) :: (C, oC) :: (D, LCg.lst ys) :: news) → LCg.Off3 I C D news → ((@Ne Nat I C) ∧ (@Ne Nat I D) ∧ (@Ne Nat C D)) →
          wpAny (model prog w) A (isTrue tst (compEnvC scope cl C env) (eval tst (compEnvC scope cl C env))) (TstEnd prog w A h₀ L m { s₁ with heap := h, toks := tk } ((I, oI) :: (C, oC) :: (D, LCg.lst ys) :: news) (K (i + 1)) ys (compEnvC scope cl C env) elt E') E' { s₁ with heap := h, toks := tk }) ∧
        (∀ D h tk ys, K n ys → Fr h₀ L h (fun z => if z = y then some (.ref D) else m z) → News h₀ L h ((D, LCg.lst ys) :: news) → LCg.Off1 D news → Q .next { s₁ with heap := h, toks := tk })
theorem comp_RA {elt iter tst : PySem.Expr} {x yv : Str} {px py : Pos} {scope : Scope} {cl : List (Str × Addr)} {pos spos : Pos} {Q : Flow → Shared → Prop} (F₀ : Fr h₀ L s.heap m) (hLe : env.locals = L) (hsw : swapsWith (.ListComp elt [⟨.Name x px, iter, [tst], 0⟩] scope pos) (some (.Name yv py)) spos.line env = pure true)
    (hclos : closureFor scope env = pure cl) (hcell : ∀ y ∈ scope.names, y.2 ≠ .cell) (hkind : scope.kind = .function)
    (hnames : ∀ y ∈ scope.names, y.2 = .local → scope.names.lookup y.1 = some .local) (hx : scope.names.lookup x = some .local) (hy : env.kindOf yv = some .local) (hpk : (env.scope.kind == .class || (env.scope.kind == .module && env.locals != env.globals)) = false)
    (h : wpAny (model prog w) A (eval iter env) (CSrcRA prog w A h₀ L m env elt tst x scope cl yv Q) E s)
    (hs : ∀ x, foldedSetIterable iter env x = pure x := by intro _; rfl) :
    wpAny (model prog w) A (exec (.Assign [.Name yv py] (.ListComp elt [⟨.Name x px, iter, [tst], 0⟩] scope pos) spos) env) Q E s := by
  rw [exec_Assign_Name_used _ _ _ _ hsw]
  refine wpAny_bind (wpAny_standAt (wpAny_bind ?_))
  show wpAny _ A (do let _ ← comprehension (.ListComp elt [⟨.Name x px, iter, [tst], 0⟩] scope pos) scope env _ (newList []) false (eval iter env) (some (assign (.Name yv py) env))) _ _ s
  refine wpAny_bind (wpAny_mono (wpAny_comprehension_free (use := some (assign (.Name yv py) env)) (Q := fun _ s' => Q .next s') rfl hs hclos hkind hnames
    (wpAny_mono h (fun xv s₁ h₁ => ?_) fun _ _ e => e)) (fun _ s' hq => wpAny_pure (wpAny_pure hq)) fun _ _ e => e)
  obtain ⟨r, a, b, t, u, v, n, news, rfl, hh, F, N, hr, hsm, hn, hlen, K, hK0, hKl, turn, fin⟩ := h₁
  refine wpAny_pyIter_range hr hsm ?_
  generalize hI : s₁.heap.objs.size = I
  have Wk := LCg.range_walks (prog := prog) (w := w) (I := I) hh a n
  refine wpAny_newObj_type (wpAny_newFunctionEnv hcell (by intro y hy; simp at hy) (fun h₁ hns₁ hsb₁ => ?_) hkind)
  dsimp only at hns₁ hsb₁ ⊢
  generalize hH1 : s₁.heap.push { cls := .type "range_iterator", dict := none, data := .fields #[rawInt a, rawInt (Builtin.Range.rangeSize a b 1), rawInt 1] } = H1 at hns₁ hsb₁ ⊢
  generalize hH2 : H1.push { cls := .type "list", dict := none, data := .seq ([] : List Value).toArray } = H2 at hns₁ hsb₁ ⊢
  have z1 : H1.objs.size = I + 1 := by rw [← hH1, Heap.size_push, hI]
  have z2 : H2.objs.size = I + 2 := by rw [← hH2, Heap.size_push, z1]
  rw [z2] at hns₁ hsb₁ ⊢
  rw [z1]
  have up1 : ∀ b o, s₁.heap.get? b = some o → H1.get? b = some o := fun b o e => hH1 ▸ Heap.get?_push_of_some _ e
  have up2 : ∀ b o, H1.get? b = some o → H2.get? b = some o := fun b o e => hH2 ▸ Heap.get?_push_of_some _ e
  have up3 : ∀ b o, H2.get? b = some o → h₁.get? b = some o := fun b o e => by
    have hb : @LT.lt Nat _ b (I + 2) := ltN (z2 ▸ Heap.lt_size e)
    exact hsb₁.extBut b o (neN (by omega)) (Heap.get?_push_of_some _ e)
  have old : ∀ b o, s₁.heap.get? b = some o → h₁.get? b = some o := fun b o e => up3 b o (up2 b o (up1 b o e))
  have hit : h₁.get? I = some { cls := .type "range_iterator", dict := none, data := .fields #[rawInt a, rawInt (Builtin.Range.rangeSize a b 1), rawInt 1] } := up3 _ _ (up2 _ _ (by rw [← hH1, ← hI]; exact Heap.get?_push_size _ rfl))
  have hacc : h₁.get? (I + 1) = some (LCg.lst []) := up3 _ _ (by rw [← hH2, ← z1]; exact Heap.get?_push_size _ rfl)
  have fresh₀ : ∀ a, I ≤ a → h₀.get? a = none := fun a ha => by
    cases e : h₀.get? a with
    | none => rfl
    | some o' => (have h9 : @LT.lt Nat _ a I := ltN (hI ▸ Heap.lt_size (F.keep a o' e))); (have h8 : @LE.le Nat _ I a := ha); omega
  have hLlt : @LT.lt Nat _ L I := ltN (hI ▸ F.ns.lt)
  have F1 : Fr h₀ L h₁ m := F.keeps old
  have hN1 : ∀ p ∈ news, @LT.lt Nat _ p.1 I := fun p hp => ltN (hI ▸ Heap.lt_size (N p hp).1)
  have hoff : LCg.Off3 I (I + 2) (I + 1) news := LCg.Off3.of fun p hp => by have := hN1 p hp; exact ⟨Nat.ne_of_lt this, Nat.ne_of_lt (Nat.lt_of_lt_of_le this (Nat.le_add_right _ _)), Nat.ne_of_lt (Nat.lt_of_lt_of_le this (Nat.le_add_right _ _))⟩
  have hst0 : IsRangeIter h₁ I (a + ((0 : Nat) : Int) * 1) ((n : Int) - ((0 : Nat) : Int)) 1 := by
    show h₁.get? I = some _
    rw [hit, hn]
    simp [rawInt]
  have key : ∀ s₃ : Shared, s₃ = { s₁ with heap := h₁, toks := s₁.toks + ([] : List (Str × Value)).length } →
      codeAny (model prog w) A (.compLoop (.ListComp elt [⟨.Name x px, iter, [tst], 0⟩] scope pos) 0 (.ref I) (.ref (I + 1)) (compEnvC scope cl (I + 2) env))
        (compPost (model prog w) A E (some (assign (.Name yv py) env)) (fun _ s' => Q .next s') (.ref (I + 1)) (I + 2)) s₃ := by
    rintro s₃ rfl
    refine codeAny_compLoop_tests
      (fun k s' => ∃ (h' : Heap) (tk i : Nat) (ys : List Value) (m' : Str → Option Value), s' = { s₁ with heap := h', toks := tk } ∧ i ≤ n ∧ k = n + 1 - i ∧ K i ys ∧ IsRangeIter h' I (a + (i : Nat) * 1) ((n : Int) - (i : Nat)) 1 ∧ Fr h₀ L h' m ∧ h'.Ns (I + 2) m' ∧ News h₀ L h' ((I + 1, LCg.lst ys) :: news)) ?_ (n + 1)
      ⟨h₁, _, 0, [], _, rfl, Nat.zero_le _, rfl, hK0, hst0, F1, hns₁, fun p hp => ?_⟩
    · rintro k s' ⟨h', tk, i, ys, m', rfl, hi, rfl, hK, hst, F', hn', N'⟩
      have hCL : I + 2 ≠ L := neN (by omega)
      have hDL : I + 1 ≠ L := neN (by omega)
      have hDC : I + 1 ≠ I + 2 := neN (by omega)
      have offI : ∀ p ∈ (I + 1, LCg.lst ys) :: news, p.1 ≠ I := fun p hp => by
        rcases List.mem_cons.mp hp with rfl | hp
        · exact neN (a := I + 1) (b := I) (by omega)
        · exact Nat.ne_of_lt (hN1 p hp)
      by_cases hlt : i < n
      · refine Wk.item i _ _ _ hlt hst fun v h₂ tk₂ hPv hst₂ hk₂ => ?_
        obtain ⟨tv, rfl⟩ := hPv
        refine wpAny_assign_Name (wpAny_storeName_local (lookup_relabel_local hx) (hn'.at' fun o e => hk₂ _ o (by simp) e) (fun h₃ hn₃ hs₃ => ?_) (by simp [compEnvC, relabel, hkind]))
        refine wpAny_tests_one ?_
        have hst₃ : IsRangeIter h₃ I (a + ((i + 1 : Nat) : Int) * 1) ((n : Int) - ((i + 1 : Nat) : Int)) 1 := Wk.frame _ _ _ hst₂ fun b hb o e => hs₃.extBut b o (fun q => by
          have q' : @Eq Nat b (I + 2) := q
          have hb' : @Eq Nat b I := List.mem_singleton.mp hb
          omega) e
        obtain ⟨oI, heI, hoI⟩ : ∃ oI, h₃.get? I = some oI ∧ ∀ h'' : Heap, h''.get? I = some oI → IsRangeIter h'' I (a + ((i + 1 : Nat) : Int) * 1) ((n : Int) - ((i + 1 : Nat) : Int)) 1 := ⟨_, hst₃, fun _ e => e⟩
        obtain ⟨oC, heC, hoC⟩ := LCg.ns_obj hn₃
        have F₃ : Fr h₀ L h₃ m := (LCg.fr_but F' hk₂ (neN (a := L) (b := I) (by omega)) (fresh₀ _ (Nat.le_refl _))).change hs₃ hCL (fresh₀ _ (Nat.le_add_right _ _))
        have N₂ : News h₀ L h₂ ((I + 1, LCg.lst ys) :: news) := LCg.news_but N' hk₂ offI
        have N₃ : News h₀ L h₃ ((I, oI) :: (I + 2, oC) :: (I + 1, LCg.lst ys) :: news) := fun p hp => by
          rcases List.mem_cons.mp hp with rfl | hp
          · exact ⟨heI, neN (a := I) (b := L) (by omega), fresh₀ _ (Nat.le_refl _)⟩
          · rcases List.mem_cons.mp hp with rfl | hp
            · exact ⟨heC, hCL, fresh₀ _ (Nat.le_add_right _ _)⟩
            · have z := N₂ p hp
              refine ⟨hs₃.extBut _ _ ?_ z.1, z.2⟩
              rcases List.mem_cons.mp hp with rfl | hp
              · exact hDC
              · exact neN (a := p.1) (b := I + 2) (by have := hN1 p hp; omega)
        have back : ∀ (ys' : List Value) (h₄ : Heap) (tk₄ : Nat), K (i + 1) ys' → Fr h₀ L h₄ m → News h₀ L h₄ ((I, oI) :: (I + 2, oC) :: (I + 1, LCg.lst ys') :: news) → ∃ k, k < n + 1 - i ∧ ∃ (h' : Heap) (tk i : Nat) (ys : List Value) (m' : Str → Option Value), ({ s₁ with heap := h₄, toks := tk₄ } : Shared) = { s₁ with heap := h', toks := tk } ∧ i ≤ n ∧ k = n + 1 - i ∧ K i ys ∧ IsRangeIter h' I (a + (i : Nat) * 1) ((n : Int) - (i : Nat)) 1 ∧ Fr h₀ L h' m ∧ h'.Ns (I + 2) m' ∧ News h₀ L h' ((I + 1, LCg.lst ys) :: news) := fun ys' h₄ tk₄ hK₄ F₄ N₄ =>
          ⟨n + 1 - (i + 1), by omega, h₄, tk₄, i + 1, ys', _, rfl, hlt, rfl, hK₄, hoI _ (N₄ _ (.head _)).1, F₄, hoC.ns (N₄ _ (.tail _ (.head _))).1, fun p hp => N₄ p (.tail _ (.tail _ hp))⟩
        refine wpAny_mono (turn i tv ys I oI (I + 2) oC (I + 1) _ h₃ _ _ hlt hK hoC (by simp) F₃ N₃ hoff ⟨by omega, by omega, by omega⟩) (fun b s₄ h₄ => ?_) fun _ _ e => e
        unfold TstEnd at h₄
        cases b with
        | false =>
          simp only [Bool.false_eq_true, if_false] at h₄ ⊢
          obtain ⟨h₄, tk₄, rfl, F₄, N₄, hK₄⟩ := h₄
          exact back ys h₄ tk₄ hK₄ F₄ N₄
        | true =>
          simp only [if_true] at h₄ ⊢
          refine wpAny_mono h₄ (fun y s₅ h₅ => ?_) fun _ _ e => e
          obtain ⟨h₄, tk₄, rfl, F₄, N₄, hK₄⟩ := h₅
          have zD := (N₄ (I + 1, LCg.lst ys) (List.mem_cons_of_mem _ (List.mem_cons_of_mem _ List.mem_cons_self))).1
          have hyl := hKl _ _ hK
          refine append_at (hsz := by show ys.toArray.size ≤ sizeLine; rw [List.size_toArray, PySem.sizeLine_eq]; omega) zD fun h₅ hs₅ hD₅ => ?_
          refine back (ys ++ [y]) h₅ tk₄ hK₄ (F₄.change hs₅ hDL (fresh₀ _ (Nat.le_add_right _ _))) fun p hp => ?_
          rcases List.mem_cons.mp hp with rfl | hp
          · exact ⟨hs₅.extBut _ _ (neN (a := I) (b := I + 1) (by omega)) (N₄ _ (.head _)).1, (N₄ _ (.head _)).2⟩
          · rcases List.mem_cons.mp hp with rfl | hp
            · exact ⟨hs₅.extBut _ _ (neN (a := I + 2) (b := I + 1) (by omega)) (N₄ _ (.tail _ (.head _))).1, (N₄ _ (.tail _ (.head _))).2⟩
            · rcases List.mem_cons.mp hp with rfl | hp
              · exact ⟨hD₅.trans (congrArg some (LCg.lst_snoc ys y)), hDL, fresh₀ _ (Nat.le_add_right _ _)⟩
              · have z := N₄ p (.tail _ (.tail _ (.tail _ hp)))
                exact ⟨hs₅.extBut _ _ (neN (a := p.1) (b := I + 1) (by have := hN1 p hp; omega)) z.1, z.2⟩
      · obtain rfl : i = n := Nat.le_antisymm hi (Nat.not_lt.mp hlt)
        refine Wk.done _ _ _ hst fun h₂ tk₂ hk₂ => ?_
        have F₂ := LCg.fr_but F' hk₂ (neN (a := L) (b := I) (by omega)) (fresh₀ _ (Nat.le_refl _))
        have N₂ := LCg.news_but N' hk₂ offI
        show wpAny _ A (assign (.Name yv py) env (.ref (I + 1))) _ _ _
        have hCL' : I + 2 ≠ env.locals := by rw [hLe]; exact hCL
        have hns₂ : h₂.Ns env.locals m := by rw [hLe]; exact F₂.ns
        refine wpAny_assign_Name (wpAny_storeName_local hy hns₂ (fun h₃ hn₃ hs₃ => ?_) hpk)
        rw [hLe] at hn₃ hs₃
        have hL₀ : h₀.get? L = none := Heap.get?_none_of_le F₂.above
        have F₃ : Fr h₀ L h₃ (fun z => if z = yv then some (.ref (I + 1)) else m z) := ⟨hn₃, fun b o e => hs₃.extBut b o (fun q => by
          have q' : b = L := q
          rw [q', hL₀] at e; cases e) (F₂.keep b o e), F₂.above⟩
        refine ⟨m', (hn'.at' fun o e => hk₂ _ o (by simp) e).sameBut hs₃ hCL, fun h'' hs'' => fin (I + 1) h'' _ ys hK (F₃.change hs'' hCL (fresh₀ _ (Nat.le_add_right _ _))) (fun p hp => ?_) (LCg.Off3.one hoff)⟩
        have z : h₃.get? p.1 = some p.2 := hs₃.extBut _ _ (N₂ p hp).2.1 (N₂ p hp).1
        refine ⟨hs''.extBut _ _ ?_ z, (N₂ p hp).2⟩
        rcases List.mem_cons.mp hp with rfl | hp
        · exact hDC
        · exact neN (a := p.1) (b := I + 2) (by have := hN1 p hp; omega)
    · rcases List.mem_cons.mp hp with rfl | hp
      · exact ⟨hacc, neN (a := I + 1) (b := L) (by omega), fresh₀ _ (Nat.le_add_right _ _)⟩
      · exact ⟨old _ _ (N p hp).1, (N p hp).2⟩
  exact codeAny_compStart_list (key _ rfl) (Wk.self 0 _ _ _ hst0 (key _ rfl))
end
end Mine
namespace Mine
noncomputable def freeF (hs ts : List Int) : Nat → List Int
  | 0 => []
  | i + 1 => freeF hs ts i ++ (if 0 < hs.getD i 0 ∧ (ts.any (· == (i : Int))) = false then [(i : Int)] else [])
theorem free_mem {hs ts : List Int} {k : Int} : ∀ {i : Nat}, k ∈ freeF hs ts i → ∃ j : Nat, j < i ∧ k = (j : Int) ∧ 0 < hs.getD j 0 ∧ k ∉ ts
  | i + 1, h => by
    unfold freeF at h
    rcases List.mem_append.mp h with h | h
    · obtain ⟨j, a, b⟩ := free_mem h
      exact ⟨j, by omega, b⟩
    · split at h
      · rename_i hc
        have e := List.mem_singleton.mp h
        refine ⟨i, by omega, e, hc.1, fun hm => ?_⟩
        have : (ts.any (· == (i : Int))) = true := List.any_eq_true.mpr ⟨k, hm, by simp [e]⟩
        rw [hc.2] at this; cases this
      · cases h
theorem free_len (hs ts : List Int) : ∀ i : Nat, (freeF hs ts i).length ≤ i
  | 0 => Nat.le_refl _
  | i + 1 => by
    have := free_len hs ts i
    unfold freeF
    rw [List.length_append]
    split <;> simp <;> omega
theorem free_has {hs ts : List Int} : ∀ {i : Nat} {j : Nat}, j < i → 0 < hs.getD j 0 → (j : Int) ∉ ts → (j : Int) ∈ freeF hs ts i
  | i + 1, j, hj, h0, hn => by
    unfold freeF
    rcases Nat.lt_or_ge j i with h | h
    · exact List.mem_append_left _ (free_has h h0 hn)
    · have e : j = i := by omega
      subst e
      refine List.mem_append_right _ ?_
      have hc : (ts.any (· == (j : Int))) = false := by
        refine Bool.eq_false_iff.mpr fun hc => hn ?_
        obtain ⟨a, ha, hb⟩ := List.any_eq_true.mp hc
        have : a = (j : Int) := by simpa using hb
        rw [← this]; exact ha
      rw [if_pos ⟨h0, hc⟩]
      exact .head _
noncomputable def one (p : Prop) [Decidable p] : Nat := if p then 1 else 0
/-- how many of four heaps hold a blank -/
noncomputable def pos4 (hs : List Int) : Nat := one (0 < hs.getD 0 0) + one (0 < hs.getD 1 0) + one (0 < hs.getD 2 0) + one (0 < hs.getD 3 0)
theorem in_count : ∀ ts : List Int, one ((0 : Int) ∈ ts) + one ((1 : Int) ∈ ts) + one ((2 : Int) ∈ ts) + one ((3 : Int) ∈ ts) ≤ ts.length
  | [] => by simp [one]
  | a :: r => by
    have := in_count r
    have key : ∀ k : Int, one (k ∈ a :: r) ≤ one (k = a) + one (k ∈ r) := fun k => by
      unfold one
      by_cases h1 : k = a
      · subst h1; split <;> split <;> simp_all
      · by_cases h2 : k ∈ r <;> simp [h1, h2]
    have h0 := key 0
    have h1 := key 1
    have h2 := key 2
    have h3 := key 3
    have hs : one ((0 : Int) = a) + one ((1 : Int) = a) + one ((2 : Int) = a) + one ((3 : Int) = a) ≤ 1 := by
      unfold one
      split <;> split <;> split <;> split <;> omega
    rw [List.length_cons]; omega
theorem free_ne {hs hs0 ts : List Int} {most : Nat} (hp : most + 1 ≤ pos4 hs0) (hl : ts.length < most + 1) (hun : ∀ k : Nat, k < 4 → (k : Int) ∉ ts → hs.getD k 0 = hs0.getD k 0) : 0 < (freeF hs ts 4).length := by
  rcases Nat.eq_zero_or_pos (freeF hs ts 4).length with h | h
  · exfalso
    have hn : freeF hs ts 4 = [] := List.eq_nil_of_length_eq_zero h
    have key : ∀ k : Nat, k < 4 → one (0 < hs0.getD k 0) ≤ one ((k : Int) ∈ ts) := fun k hk => by
      unfold one
      by_cases hm : (k : Int) ∈ ts
      · rw [if_pos hm]; split <;> omega
      · rw [if_neg hm, if_neg]
        · exact Nat.le_refl _
        · intro hpos
          rw [← hun k hk hm] at hpos
          have := free_has hk hpos hm
          rw [hn] at this; cases this
    have h0 := key 0 (by omega)
    have h1 := key 1 (by omega)
    have h2 := key 2 (by omega)
    have h3 := key 3 (by omega)
    have hc := in_count ts
    unfold pos4 at hp
    have e0 : ((0 : Nat) : Int) = 0 := rfl
    have e1 : ((1 : Nat) : Int) = 1 := rfl
    have e2 : ((2 : Nat) : Int) = 2 := rfl
    have e3 : ((3 : Nat) : Int) = 3 := rfl
    rw [e0] at h0; rw [e1] at h1; rw [e2] at h2; rw [e3] at h3
    omega
  · exact h
structure OtC where
  hvs : List Value
  m : Nat
  hs : List Int
  rvs : List Value
  n : Nat
  row : List Int
  tvs : List Value
  tn : Nat
  ts : List Int
  seed : Int
  st : Tok
/-- what holds within the loop of drawn moves -/
structure OtP (hs0 : List Int) (i T : Nat) (c : OtC) : Prop where
  hI : IntsAre c.hvs c.hs
  rI : IntsAre c.rvs c.row
  tI : IntsAre c.tvs c.ts
  l4 : c.hs.length = 4
  bd : ∀ a ∈ c.hs, 0 ≤ a ∧ a ≤ 7
  so : Sorted c.row
  pm : c.row.Perm c.hs
  sd : 0 ≤ c.seed
  tl : c.ts.length = i
  tb : ∀ t ∈ c.ts, 0 ≤ t ∧ t < 4
  lo : ∀ k : Nat, k < 4 → (k : Int) ∈ c.ts → c.hs.getD k 0 < hs0.getD k 0
  un : ∀ k : Nat, k < 4 → (k : Int) ∉ c.ts → c.hs.getD k 0 = hs0.getD k 0
  t2 : 2 ≤ T
  tk : TkOk (c.hvs ++ c.rvs) T
theorem OtP.up {hs0 : List Int} {i T T' : Nat} {c : OtC} (h : OtP hs0 i T c) (hT : T ≤ T') : OtP hs0 i T' c := { h with t2 := Nat.le_trans h.t2 hT, tk := h.tk.up hT }
noncomputable def oLed (tl0 c2 c1 R H : Addr) (o o2 : Obj) (rest : Led) (c : OtC) : Led := (tl0, W.listOf c.tvs.toArray c.tn) :: (c2, o) :: (c1, o2) :: (R, W.listOf c.rvs.toArray c.n) :: (H, W.listOf c.hvs.toArray c.m) :: rest
theorem getD_set {l : List Int} {k j : Nat} {v : Int} (h : k < l.length) : (l.set k v).getD j 0 = if j = k then v else l.getD j 0 := by
  rw [List.getD_eq_getElem?_getD, List.getElem?_set]
  by_cases e : k = j
  · subst e; simp [h]
  · rw [if_neg e, if_neg (fun h => e h.symm), List.getD_eq_getElem?_getD]
/-- one heap taken down keeps it all -/
theorem ot_step {hs0 : List Int} {i T T' : Nat} {c : OtC} {spot left seed' : Int} {t u st' : Tok} {rvs' hvs' tvs' : List Value} {n' m' tn' : Nat} (h : OtP hs0 i T c) (hs : spot ∈ freeF c.hs c.ts 4) (h0 : 0 ≤ left) (h1 : left < c.hs.getD spot.toNat 0) (hsd : 0 ≤ seed')
    (hrI : IntsAre rvs' (ins (c.row.eraseIdx (bl c.row (c.hs.getD spot.toNat 0))) (br (c.row.eraseIdx (bl c.row (c.hs.getD spot.toNat 0))) left) left)) (hhI : IntsAre hvs' (c.hs.set spot.toNat left)) (hr : ∀ v ∈ rvs', v = .int left u ∨ v ∈ c.rvs) (hh : ∀ v ∈ hvs', v = .int left u ∨ v ∈ c.hvs)
    (htv : tvs' = c.tvs ++ [Value.int spot t]) (ht1 : @LE.le Nat _ T u) (ht2 : @LT.lt Nat _ u T') :
    OtP hs0 (i + 1) T' ⟨hvs', m', c.hs.set spot.toNat left, rvs', n', ins (c.row.eraseIdx (bl c.row (c.hs.getD spot.toNat 0))) (br (c.row.eraseIdx (bl c.row (c.hs.getD spot.toNat 0))) left) left, tvs', tn', c.ts ++ [spot], seed', st'⟩ := by
  obtain ⟨j, hj, e, hpos, hn⟩ := free_mem hs
  subst e
  have ej : ((j : Int)).toNat = j := rfl
  rw [ej] at *
  have h1' : left < c.hs.getD j 0 := h1
  have hl4 := h.l4
  have hjl : j < c.hs.length := by omega
  obtain ⟨_, ks, kp⟩ := take_keeps (left := left) h.so h.pm hjl
  have hjb : c.hs.getD j 0 ≤ 7 := by
    rw [List.getD_eq_getElem?_getD, List.getElem?_eq_getElem hjl]
    exact (h.bd _ (List.getElem_mem hjl)).2
  have hT : T ≤ T' := Nat.le_trans ht1 (Nat.le_of_lt ht2)
  refine ⟨hhI, hrI, htv ▸ h.tI.append (.cons _ _ .nil), by rw [List.length_set]; exact hl4, fun a ha => ?_, ks, kp, hsd, by rw [List.length_append]; have := h.tl; simp; omega, fun t ht => ?_, fun k hk hm => ?_, fun k hk hm => ?_, Nat.le_trans h.t2 hT, ?_⟩
  · rcases List.mem_or_eq_of_mem_set ha with ha | rfl
    · exact h.bd a ha
    · omega
  · rcases List.mem_append.mp ht with ht | ht
    · exact h.tb t ht
    · rw [List.mem_singleton.mp ht]; omega
  · rw [getD_set hjl]
    by_cases ek : k = j
    · subst ek
      rw [if_pos rfl, ← h.un k hk hn]; exact h1
    · rw [if_neg ek]
      rcases List.mem_append.mp hm with hm | hm
      · exact h.lo k hk hm
      · have := List.mem_singleton.mp hm; omega
  · rw [getD_set hjl]
    have hk1 : (k : Int) ∉ c.ts := fun hm' => hm (List.mem_append_left _ hm')
    have ek : k ≠ j := fun e => hm (by rw [e]; exact List.mem_append_right _ (.head _))
    rw [if_neg ek]
    exact h.un k hk hk1
  · refine (h.tk.add (x := left) (t := u) (Nat.lt_of_lt_of_le (by decide) h.t2) ht1 ht2).sub fun v hv => ?_
    rcases List.mem_append.mp hv with hv | hv
    · rcases hh v hv with rfl | hv
      · exact .head _
      · exact .tail _ (List.mem_append_left _ hv)
    · rcases hr v hv with rfl | hv
      · exact .head _
      · exact .tail _ (List.mem_append_right _ hv)
end Mine
namespace Mine
theorem int_item {prog : Program} {w : World} {A : Around} {E : Value → Shared → Prop} {s : Shared} {h₀ : Heap} {L l : Addr} {news : Led} {n : Nat} {vs : List Value} {ns : List Int} {value slice : PySem.Expr} {k : Int} {u : Tok} {Q : Value → Shared → Prop} (N : News h₀ L s.heap news) (hm : (l, W.listOf vs.toArray n) ∈ news) (hI : IntsAre vs ns) (h0 : 0 ≤ k) (h1 : k < ns.length) (hl : ns.length ≤ 8)
    (h : ∀ t, Value.int (ns.getD k.toNat 0) t ∈ vs → Q (.int (ns.getD k.toNat 0) t) s)
    (hs : subscripted slice false (.ref l) (.int k u) = operate [.ref l, .int k u] (getItem (.ref l) (.int k u)) := by with_unfolding_all rfl) :
    wpAny (model prog w) A (subscriptTail value slice (.ref l) (.int k u)) Q E s := by
  have hk' : k.toNat < ns.length := by omega
  have hc : ns[k.toNat]? = some ns[k.toNat] := by simp [hk']
  obtain ⟨t, hx⟩ := hI.get _ _ hc
  have e : ns.getD k.toNat 0 = ns[k.toNat] := by rw [List.getD_eq_getElem?_getD, hc]; rfl
  have hL : s.heap.IsList l vs.toArray := ⟨_, (N _ hm).1, rfl, n, rfl⟩
  have hmem : Value.int ns[k.toNat] t ∈ vs := List.mem_of_getElem? hx
  exact tail_any hL.typeIs slot_list_getitem.lookup (wpAny_getItem_list hL h0 (by omega) (by simpa using hx) (by have := h t; rw [e] at this; exact this hmem)) hs
theorem o_loop {prog : Program} {w : World} {A : Around} {E : Value → Shared → Prop} {s : Shared} {env : Env} {h₀ : Heap} {target : PySem.Expr} {body : List Stmt} {Q : Flow → Shared → Prop} {m₀ : Str → Option Value} {tl0 c2 c1 R H r : Addr} {o o2 : Obj} {rest : Led} {c0 : OtC} {hs0 : List Int} {n : Nat} {b₀ : Int} {t₀ u₀ v₀ : Tok}
    (hh : A.handled = none) (hr : IsRange s.heap r 0 b₀ 1 t₀ u₀ v₀) (hsmall : Builtin.Range.small 0 b₀ 1 = true) (hn : Builtin.Range.rangeSize 0 b₀ 1 = (n : Int)) (F : Fr h₀ env.locals s.heap m₀) (N : News h₀ env.locals s.heap (oLed tl0 c2 c1 R H o o2 rest c0)) (hk : m₀ "seed" = some (.int c0.seed c0.st)) (hP : OtP hs0 0 s.toks c0)
    (turn : ∀ (c : OtC) (i : Nat) (t : Tok) (u : Str → Option Value) (h : Heap) (tk : Nat) (own : Led), i < n → OwnOff own ((oLed tl0 c2 c1 R H o o2 rest c).map (·.1)) → OtP hs0 i tk c →
      Fr h₀ env.locals h (fun y => if y = "step" then u y else kstB (fun z => if (["free", "spot"] : List Str).contains z then u z else m₀ z) [("seed", .int c.seed c.st)] y) →
      News h₀ env.locals h (oLed tl0 c2 c1 R H o o2 rest c ++ own) →
      wpAny (model prog w) A (assign target env (.int (0 + (i : Int) * 1) t)) (fun _ s₂ => wpAny (model prog w) A (execs body env) (TPost h₀ env.locals (fun kk m nx => KstS (oLed tl0 c2 c1 R H o o2 rest) (fun c => [("seed", .int c.seed c.st)]) (fun _ => True) "step" ["free", "spot"] m₀
        (fun _ => OtP hs0 (i + 1) kk) [] m nx) own { s with heap := h, toks := tk } Q) E s₂) E { s with heap := h, toks := tk })
    (done : ∀ (c : OtC) (u : Str → Option Value) h tk, OtP hs0 n tk c → Fr h₀ env.locals h (fun y => if y = "step" then u y else kstB (fun z => if (["free", "spot"] : List Str).contains z then u z else m₀ z) [("seed", .int c.seed c.st)] y) →
      News h₀ env.locals h (oLed tl0 c2 c1 R H o o2 rest c) → Q .next { s with heap := h, toks := tk })
    (hE : PassesOwn (model prog w) A env E := by passes_own) (ht : ∀ r v, letOwnedTupleGo target r v = pure () := by intro _ _; rfl) :
    wpAny (model prog w) A (pyIter (.ref r)) (fun it s₂ => ForAt prog w A env target body Q E it s₂) E s := by
  refine tT_range (σ := OtC) "step" (oLed tl0 c2 c1 R H o o2 rest) (fun c => [("seed", .int c.seed c.st)]) ["free", "spot"] (fun i T c => OtP hs0 i T c) (fun _ _ _ _ h h' => OtP.up h' h) c0 hh hr hsmall hn F N ?_ hP turn done hE ht
  intro p hp
  rw [List.mem_singleton.mp hp]; exact hk
theorem ot_tail {L tl0 R H : Addr} {o : Obj} {rest own : Led} {c1 c2 : Addr} (h1 : R < L) (h2 : H < L) (h3 : AllLt L rest) (h4 : AllLt c2 rest) (h5 : AllLt c1 rest) (h6 : AllLt tl0 rest) (hoff : OwnOff rest [R, H]) (ho : OwnOff own (tl0 :: c2 :: c1 :: R :: H :: rest.map (·.1))) : OwnOff (rest ++ own) [tl0, c2, c1, R, H] := by
  intro p hp b hb
  rcases List.mem_append.mp hp with hp | hp
  · have hb' : b = tl0 ∨ b = c2 ∨ b = c1 ∨ b = R ∨ b = H := by simpa using hb
    rcases hb' with rfl | rfl | rfl | rfl | rfl
    · exact Nat.ne_of_lt (kst_ltOf h6 p hp)
    · exact Nat.ne_of_lt (kst_ltOf h4 p hp)
    · exact Nat.ne_of_lt (kst_ltOf h5 p hp)
    · exact hoff p hp _ (.head _)
    · exact hoff p hp _ (.tail _ (.head _))
  · refine ho p hp b ?_
    have hb' : b = tl0 ∨ b = c2 ∨ b = c1 ∨ b = R ∨ b = H := by simpa using hb
    rcases hb' with rfl | rfl | rfl | rfl | rfl
    · exact .head _
    · exact .tail _ (.head _)
    · exact .tail _ (.tail _ (.head _))
    · exact .tail _ (.tail _ (.tail _ (.head _)))
    · exact .tail _ (.tail _ (.tail _ (.tail _ (.head _))))
theorem free_no {hs ts : List Int} {j : Nat} (h : ¬ 0 < hs.getD (0 + (j : Int)).toNat 0 ∨ (ts.any fun x => x == 0 + (j : Int)) = true) : freeF hs ts (j + 1) = freeF hs ts j := by
  rw [Int.zero_add] at h
  have e : ((j : Int)).toNat = j := rfl
  rw [e] at h
  show freeF hs ts j ++ _ = _
  rw [if_neg, List.append_nil]
  rintro ⟨h1, h2⟩
  rcases h with h | h
  · exact h h1
  · rw [h2] at h; cases h
theorem free_yes {hs ts : List Int} {j : Nat} (h1 : 0 < hs.getD (0 + (j : Int)).toNat 0) (h2 : (ts.any fun x => x == 0 + (j : Int)) = false) : freeF hs ts (j + 1) = freeF hs ts j ++ [0 + (j : Int)] := by
  rw [Int.zero_add] at h1 h2 ⊢
  have e : ((j : Int)).toNat = j := rfl
  rw [e] at h1
  show freeF hs ts j ++ _ = _
  rw [if_pos ⟨h1, h2⟩]
theorem tst_no {prog : Program} {w : World} {A : Around} {h₀ : Heap} {L : Addr} {m : Str → Option Value} {s₁ : Shared} {all : Led} {K : List Value → Prop} {ys : List Value} {env' : Env} {elt : PySem.Expr} {E' : Value → Shared → Prop} {h' : Heap} {tk : Nat} (F : Fr h₀ L h' m) (N : News h₀ L h' all) (hK : K ys) :
    TstEnd prog w A h₀ L m s₁ all K ys env' elt E' false { s₁ with heap := h', toks := tk } := by
  unfold TstEnd
  rw [if_neg (by decide)]
  exact ⟨h', tk, rfl, F, N, hK⟩
theorem tst_yes {prog : Program} {w : World} {A : Around} {h₀ : Heap} {L : Addr} {m : Str → Option Value} {s₁ s₂ : Shared} {all : Led} {K : List Value → Prop} {ys : List Value} {env' : Env} {elt : PySem.Expr} {E' : Value → Shared → Prop} (h : wpAny (model prog w) A (eval elt env') (ElEnd h₀ L m s₁ all (fun _ y => K (ys ++ [y]))) E' s₂) :
    TstEnd prog w A h₀ L m s₁ all K ys env' elt E' true s₂ := by
  unfold TstEnd
  rw [if_pos rfl]
  exact h
theorem free_bd {hs ts : List Int} {x : Int} (h : x ∈ freeF hs ts 4) : (0 ≤ x ∧ x < 4) ∧ 0 < hs.getD x.toNat 0 := by
  obtain ⟨j, hj, e, hp, _⟩ := free_mem h
  subst e
  exact ⟨by omega, hp⟩
theorem item_in {prog : Program} {w : World} {A : Around} {E : Value → Shared → Prop} {s : Shared} {h₀ : Heap} {L l : Addr} {news : Led} {n : Nat} {vs : List Value} {ns : List Int} {value slice : PySem.Expr} {a : Int} {u : Tok} {Q : Value → Shared → Prop} (N : News h₀ L s.heap news) (hm : (l, W.listOf vs.toArray n) ∈ news) (hI : IntsAre vs ns) (hl : 0 < ns.length) (hl2 : ns.length ≤ 8)
    (h : ∀ x t, x ∈ ns → Q (.int x t) s)
    (hs : subscripted slice false (.ref l) (.int (a.fmod (ns.length : Int)) u) = operate [.ref l, .int (a.fmod (ns.length : Int)) u] (getItem (.ref l) (.int (a.fmod (ns.length : Int)) u)) := by with_unfolding_all rfl) :
    wpAny (model prog w) A (subscriptTail value slice (.ref l) (.int (a.fmod (ns.length : Int)) u)) Q E s := by
  have hf := fmod_bd (a := a) (b := (ns.length : Int)) (by omega)
  refine int_item N hm hI hf.1 hf.2 hl2 (fun t _ => h _ t ?_) hs
  rw [List.getD_eq_getElem?_getD, List.getElem?_eq_getElem (by omega)]
  exact List.getElem_mem _
theorem o_perm {h₀ h : Heap} {L : Addr} {a b c d x y : Addr × Obj} {t : Led} (N : News h₀ L h (a :: b :: c :: d :: x :: y :: t)) : News h₀ L h (x :: y :: a :: b :: c :: d :: t) := by
  intro p hp
  refine N p ?_
  simp only [List.mem_cons] at hp ⊢
  rcases hp with h | h | h | h | h | h | h
  · exact .inr (.inr (.inr (.inr (.inl h))))
  · exact .inr (.inr (.inr (.inr (.inr (.inl h)))))
  · exact .inl h
  · exact .inr (.inl h)
  · exact .inr (.inr (.inl h))
  · exact .inr (.inr (.inr (.inl h)))
  · exact .inr (.inr (.inr (.inr (.inr (.inr h)))))
noncomputable def BlOk (hs ts row : List Int) : Prop := ∀ x ∈ freeF hs ts 4, (bl row (hs.getD x.toNat 0) : Int) < row.length
theorem o_off {D8 tl0 c2 c1 R H : Addr} {x0 x1 x2 x3 : Obj} {tls : Led} (h1 : @Ne Nat R D8) (h2 : @Ne Nat H D8) (h3 : @Ne Nat tl0 R) (h4 : @Ne Nat tl0 H) (h5 : @Ne Nat c2 R) (h6 : @Ne Nat c2 H) (h7 : @Ne Nat c1 R) (h8 : @Ne Nat c1 H) (hT : OwnOff tls [tl0, c2, c1, R, H]) :
    OwnOff ((D8, x0) :: (tl0, x1) :: (c2, x2) :: (c1, x3) :: tls) [R, H] := by
  intro p hp b hb
  have hb' : b = R ∨ b = H := by simpa using hb
  simp only [List.mem_cons] at hp
  rcases hp with rfl | rfl | rfl | rfl | hp
  · rcases hb' with rfl | rfl
    · exact Ne.symm h1
    · exact Ne.symm h2
  · rcases hb' with rfl | rfl
    · exact h3
    · exact h4
  · rcases hb' with rfl | rfl
    · exact h5
    · exact h6
  · rcases hb' with rfl | rfl
    · exact h7
    · exact h8
  · rcases hb' with rfl | rfl
    · exact hT p hp _ (.tail _ (.tail _ (.tail _ (.head _))))
    · exact hT p hp _ (.tail _ (.tail _ (.tail _ (.tail _ (.head _)))))
theorem o_upd {D8 tl0 c2 c1 R H : Addr} {a b c o x y : Obj} {tls : Led} (h1 : @Ne Nat R tl0) (h2 : @Ne Nat H tl0) (h3 : @Ne Nat D8 tl0) (h4 : @Ne Nat c2 tl0) (h5 : @Ne Nat c1 tl0) (hT : OwnOff tls [tl0, c2, c1, R, H]) :
    UpdF tl0 o ((R, a) :: (H, b) :: (D8, c) :: (tl0, o) :: (c2, x) :: (c1, y) :: tls) (fun o' => (R, a) :: (H, b) :: (D8, c) :: (tl0, o') :: (c2, x) :: (c1, y) :: tls) := by
  refine .tail h1 (.tail h2 (.tail h3 (.head ?_)))
  intro p hp
  rcases List.mem_cons.mp hp with rfl | hp
  · exact h4
  rcases List.mem_cons.mp hp with rfl | hp
  · exact h5
  · exact hT p hp _ (.head _)
theorem ot_end {h₀ h' : Heap} {L tl0 c2 c1 R H D8 : Addr} {o o2 o8 : Obj} {rest own tls : Led} {m₀ m' : Str → Option Value} {s₁ : Shared} {hs0 : List Int} {i T tk tn : Nat} {c : OtC} {spot left seed' : Int} {t u st' : Tok} {rvs' hvs' : List Value} {n' mm' : Nat}
    (F : Fr h₀ L h' m') (N : News h₀ L h' ((R, W.listOf rvs'.toArray n') :: (H, W.listOf hvs'.toArray mm') :: (D8, o8) :: (tl0, W.listOf (c.tvs ++ [Value.int spot t]).toArray tn) :: (c2, o) :: (c1, o2) :: tls)) (htls : rest ++ own = tls) (ho : OwnOff own (tl0 :: c2 :: c1 :: R :: H :: rest.map (·.1)))
    (h : OtP hs0 i T c) (hs : spot ∈ freeF c.hs c.ts 4) (h0 : 0 ≤ left) (h1 : left < c.hs.getD spot.toNat 0) (hsd : 0 ≤ seed')
    (hrI : IntsAre rvs' (ins (c.row.eraseIdx (bl c.row (c.hs.getD spot.toNat 0))) (br (c.row.eraseIdx (bl c.row (c.hs.getD spot.toNat 0))) left) left)) (hhI : IntsAre hvs' (c.hs.set spot.toNat left)) (hr : ∀ v ∈ rvs', v = .int left u ∨ v ∈ c.rvs) (hh : ∀ v ∈ hvs', v = .int left u ∨ v ∈ c.hvs)
    (ht1 : @LE.le Nat _ T u) (ht2 : @LT.lt Nat _ u tk) (hk : m' "seed" = some (.int seed' st')) (hm : ∀ z : Str, z ≠ "step" → z ≠ "seed" → (["free", "spot"] : List Str).contains z = false → m' z = m₀ z) :
    TEnd h₀ L (fun kk m nx => KstS (oLed tl0 c2 c1 R H o o2 rest) (fun c => [("seed", .int c.seed c.st)]) (fun _ => True) "step" ["free", "spot"] m₀ (fun _ => OtP hs0 (i + 1) kk) [] m nx) own s₁ { s₁ with heap := h', toks := tk } := by
  subst htls
  refine tT_end (σ := OtC) (Led := oLed _ _ _ _ _ _ _ _) (ps := fun c => [("seed", .int c.seed c.st)]) (P := fun kk => OtP hs0 (i + 1) kk) ⟨hvs', mm', c.hs.set spot.toNat left, rvs', n', ins (c.row.eraseIdx (bl c.row (c.hs.getD spot.toNat 0))) (br (c.row.eraseIdx (bl c.row (c.hs.getD spot.toNat 0))) left) left, c.tvs ++ [Value.int spot t], tn, c.ts ++ [spot], seed', st'⟩ F N ?hn ?ho ?ha ?hk ?hr (ot_step h hs h0 h1 hsd hrI hhI hr hh rfl ht1 ht2)
  case hk =>
    intro p hp
    rw [List.mem_singleton.mp hp]
    exact hk
  case hn =>
    intro p hp
    unfold oLed at hp
    simp only [List.mem_cons] at hp
    rcases hp with rfl | rfl | rfl | rfl | rfl | hp
    · exact .tail _ (.tail _ (.tail _ (.head _)))
    · exact .tail _ (.tail _ (.tail _ (.tail _ (.head _))))
    · exact .tail _ (.tail _ (.tail _ (.tail _ (.tail _ (.head _)))))
    · exact .head _
    · exact .tail _ (.head _)
    · exact .tail _ (.tail _ (.tail _ (.tail _ (.tail _ (.tail _ (List.mem_append_left _ hp))))))
  case ho =>
    intro p hp
    exact .tail _ (.tail _ (.tail _ (.tail _ (.tail _ (.tail _ (List.mem_append_right _ hp))))))
  case ha => exact ho
  case hr => exact fun z z1 z2 z3 => hm z z1 (z2 _ (.head _)) z3
noncomputable def OtPost (R H : Addr) (rest : Led) (hs : List Int) (most : Int) (T' : Nat) (news' : Led) : Prop := ∃ (c : OtC) (i : Nat), 1 ≤ i ∧ (i : Int) ≤ most ∧ OtP hs i T' c ∧ news' = (R, W.listOf c.rvs.toArray c.n) :: (H, W.listOf c.hvs.toArray c.m) :: rest
theorem other_spec {w : World} {rest : Led} {H R : Addr} {n m : Nat} {hvs rvs : List Value} {hs row : List Int} {most seed : Int} {t u : Tok} (hne : R ≠ H) (hoff : OwnOff rest [R, H]) (hH : IntsAre hvs hs) (hR : IntsAre rvs row) (h4 : hs.length = 4) (hb : ∀ a ∈ hs, 0 ≤ a ∧ a ≤ 7) (hso : Sorted row) (hp : row.Perm hs) (hmo : 1 ≤ most ∧ most ≤ 3) (hse : 0 ≤ seed) (hpos : most.toNat + 1 ≤ pos4 hs) :
    ClaimT 14 w 248 ((R, W.listOf rvs.toArray n) :: (H, W.listOf hvs.toArray m) :: rest) [.ref H, .ref R, .int most t, .int seed u] (fun T => 2 ≤ T ∧ TkOk (hvs ++ rvs) T) (fun T' r news' => OtPost R H rest hs most T' news') := by
  k_with_none
  (k_with "mine asks" => ((
  (case wq_k1 => k_asm); (case wq_k2 => k_asm); (case wq_k3 => k_asm); (case wq_k4 => k_asm); (case wq_k5 => k_asm); (case wq_k6 => exact rfl); (case wq_k7 => ((try simp only [ktrTop, depth_under_make, depth_under_kw, depth_in1, depth_deeper, depth_caller]); omega)); (case wq_k8 => ((try simp only [ktrTop, units_in1, units_deeper, Around.mark_units, units_caller]); omega)))))
  (k_with "exec For Name Call cons nil" => ((k_here; k_dflt (refine' For_T ?_))))
  (k_with "TPost" => (dsimp only [TPost]))
  (k_with "execs cons" => ((k_here; first | (with_reducible refine gen_toks ?_; intro tk' htk'; (try dsimp only at htk')) | ((with_reducible show wpAny _ _ _ _ _ (Shared.mk _ _ _ (Shared.toks _) _)); dsimp only))))
  (k_with "execs nil" => ((k_here; first | (with_reducible refine gen_toks ?_; intro tk' htk'; (try dsimp only at htk')) | ((with_reducible show wpAny _ _ _ _ _ (Shared.mk _ _ _ (Shared.toks _) _)); dsimp only))))
  (k_with "call ref" => ((k_here; (with_reducible show wpAny _ _ (call (Value.ref 248) _ _) _ _ _); k_dflt (refine wpAny_call ?_; (refine' enter_T ?wq_k1 ?wq_k2 ?wq_k3 ?wq_k4 ?wq_k5 ?wq_kA ?wq_kF ?wq_kK ?wq_k6 ?wq_k7 ?wq_k8 ?wq_k9 ?wq_kB ?wq_kD ?_ ?wq_c2 ?wq_c3 ?wq_c4; (case wq_kA => exact rfl); (case wq_kF => exact rfl); (case wq_kK => exact rfl); (case wq_k1 => k_asm); (case wq_k2 => k_asm); (case wq_k3 => k_asm); (case wq_k4 => k_asm); (case wq_k5 => k_asm); (case wq_k6 => k_is); (case wq_k7 => k_is); (case wq_k8 => k_room); (case wq_k9 => exact BindsTo.of_eq rfl); (case wq_kB => exact rfl); (case wq_kD => decide +kernel); (case wq_c2 => exact rfl); (case wq_c3 => exact rfl); (case wq_c4 => exact rfl); k_whole; intro g' L' h' tk' cells' htk' FG' F' N' Y' B' X' T' l1; (try k_lt l1); k_cells Y'; (try simp only [List.cons_append, List.nil_append] at N'); (try dsimp only); (try k_lift B'); (try k_fold))))))
  (k_with "call builtin:len" => ((k_here; (with_reducible show wpAny _ _ (call (Value.builtin "len") [Value.ref _]) _ _ _); k_dflt (refine' len_vals ?wq_k1 ?wq_k2 (IntsAre.length (by assumption)) ?wq_k4 ?_; (case wq_k1 => k_asm); (case wq_k2 => k_mem); (case wq_k4 => omega)))))
  (k_with "compareOp NotIn int ref" => ((k_here; k_dflt (refine' notin_list_ints ?wq_k1 ?wq_k2 ?_; (case wq_k1 => exact News.isList (by k_asm) (by k_mem)); (case wq_k2 => assumption)))))
  (k_with "subscriptTail Name BinOp ref int" => ((k_here; (with_reducible show wpAny _ _ (subscriptTail _ _ (Value.ref _) (Value.int (Int.fmod _ _) _)) _ _ _); k_dflt (refine' item_in ?wq_k1 ?wq_k2 ?wq_k3 ?wq_k4 ?wq_k5 ?_ ?wq_k8; (case wq_k1 => k_asm); (case wq_k2 => k_mem); (case wq_k3 => assumption); (case wq_k4 => assumption); (case wq_k5 => omega); (case wq_k8 => with_unfolding_all rfl)); intro x' t' hx'; have hxb' := free_bd hx')))
  (k_with "subscriptTail Name Name ref int" => ((k_here; (with_reducible show wpAny _ _ (subscriptTail _ _ (Value.ref _) (Value.int _ _)) _ _ _); k_dflt (refine' int_item ?wq_k1 ?wq_k2 ?wq_k3 ?wq_k4 ?wq_k5 ?wq_k6 ?_ ?wq_k8; (case wq_k1 => k_asm); (case wq_k2 => k_mem); (case wq_k3 => assumption); (case wq_k4 => omega); (case wq_k5 => omega); (case wq_k6 => omega); (case wq_k8 => with_unfolding_all rfl)); intro t' hm')))
  (k_with "call ref" => ((k_here; (with_reducible show wpAny _ _ (call (Value.ref 243) _ _) _ _ _); (rename BlOk _ _ _ => hbk); k_dflt (refine' useCg (take_vals ?wq_hne ?wq_hoff ?wq_hH ?wq_hR ?wq_h4 ?wq_h0 ?wq_hl ?wq_hs ?wq_hb) ?wq_k1 ?wq_k2 ?wq_k3 ?wq_k4 ?wq_k5 ?wq_k6 ?wq_k7 ?wq_k8 ?_; (case wq_k4 => exact o_perm (by k_asm)); (case wq_k1 => k_asm); (case wq_k2 => k_asm); (case wq_k3 => k_asm); (case wq_k5 => k_asm); (case wq_k6 => exact rfl); (case wq_k7 => ((try simp only [ktrTop, depth_under_make, depth_under_kw, depth_in1, depth_deeper, depth_caller]); omega)); (case wq_k8 => ((try simp only [ktrTop, units_in1, units_deeper, Around.mark_units, units_caller]); omega)); (case wq_hne => assumption); (case wq_hoff => first | assumption | exact (by assumption : ∀ x0 x1 x2 x3, OwnOff _ _) _ _ _ _); (case wq_hH => assumption); (case wq_hR => assumption); (case wq_h4 => assumption); (case wq_h0 => omega); (case wq_hl => assumption); (case wq_hs => assumption); (case wq_hb => exact hbk _ (by assumption)); intro r' n' h' tk' htk' hp' F' N'; obtain ⟨hp1, rvs', hvs', nn', mm', hp2, hrI', hhI', hrM', hhM'⟩ := hp'; subst hp2; subst hp1; (try dsimp only at htk'); (try dsimp only)))))
  (k_with "call builtin:list.append" => ((k_here; k_dflt (refine' app_V ?wq_k1 ?wq_k2 ?wq_k3 ?wq_k4 ?_; (case wq_k1 => k_asm); (case wq_k2 => k_asm); (case wq_k3 => k_updF); (case wq_k4 => omega); k_whole); intro h' F' N'; (try dsimp only at N'))))
  intro mean mg mb dp un gd cn cs a1 ccd cl outer A₀ base h₀ L m' s Q E B F X N T hk hdp hun hpre hret
  obtain ⟨ck, c2, c3, c4, c5⟩ := cs
  cases hk
  obtain ⟨hp2, hpT⟩ := hpre
  have hMk : KstMark := kstMark
  (repeat ((fail_if_success (first | with_reducible show wpAny _ _ (execs _ _) _ _ _)); walk_at "mine step"))
  (rename _ < _ ∧ _ < _ ∧ AllLt _ _ => l9)
  have l8 := lt_up l9.2.2
  have l7 := lt_up l8
  have hfm := fmod_bd (a := seed) (b := most) (by omega)
  obtain ⟨nn, hnn⟩ : ∃ nn : Nat, 1 + seed.fmod most = (nn : Int) := ⟨(1 + seed.fmod most).toNat, by omega⟩
  have hP00 : ∀ T', s.toks ≤ T' → OtP hs 0 T' ⟨hvs, m, hs, rvs, n, row, [], 0, [], seed, u⟩ := fun T' hT => ⟨hH, hR, .nil, h4, hb, hso, hp, hse, rfl, (fun _ h => nomatch h), (fun _ _ h => nomatch h), (fun _ _ _ => rfl), (by omega), hpT.up hT⟩
  (repeat ((fail_if_success (first | with_reducible show wpAny _ _ (call (Value.type "range") ..) _ _ _ | with_reducible show wpAny _ _ (call (Value.type "range") _) _ _ _)); walk_at "mine step"))
  refine wpAny_grow ?_
  (iterate 1 walk_at "mine step")
  intro hgr
  dsimp only at hgr
  (repeat ((fail_if_success (first | with_reducible show wpAny _ _ (pyIter _) _ _ _)); walk_at "mine step"))
  rename Fr _ _ _ _ => F9
  rename News _ _ _ _ => N9
  rename IsRange _ _ _ _ _ _ _ _ => R9
  (rename _ < _ ∧ _ < _ ∧ _ < _ ∧ _ < _ ∧ AllLt _ _ => lt9)
  (rename _ = Data.cell (some (Value.ref _)) => d8)
  (rename _ = Data.cell (bindC _ _ _ "heaps") => d7)
  have hsm : Builtin.Range.small 0 (1 + seed.fmod most) 1 = true := small_one (by omega) (by omega) (by omega) (by omega)
  have hrs : Builtin.Range.rangeSize 0 (1 + seed.fmod most) 1 = (nn : Int) := by rw [hnn, rangeSize_nat]; omega
  with_unfolding_all refine' o_loop (c0 := ⟨hvs, m, hs, rvs, n, row, [], 0, [], seed, u⟩) rfl R9 hsm hrs F9 N9 rfl ?hP ?turn ?done
  case hP => exact hP00 _ (by dsimp only; omega)
  case turn =>
    clear F9 N9 R9
    intro c i t9 u9 h9 tk9 own hi ho hP F9 N9
    dsimp only [oLed, kstB] at *
    simp only [List.cons_append] at N9
    simp only [List.map_cons] at ho
    generalize hPQ : TPost _ _ _ _ _ _ = PQ
    (repeat ((fail_if_success (first | with_reducible show wpAny _ _ (exec (PySem.Stmt.Assign (_ :: _) (PySem.Expr.ListComp ..) ..) _) _ _ _)); walk_at "mine step"))
    have hoT := ot_tail (o := W.listOf c.tvs.toArray c.tn) l9.1 l9.2.1 l9.2.2 l7 l8 lt9.2.2.2.2 hoff ho
    have hbl4 := hP.bd
    have htl := hP.tl
    have hI1 := hP.hI
    have hI2 := hP.rI
    have hI3 := hP.tI
    have hl4 := hP.l4
    generalize htls : rest ++ own = tls at *
    refine wpAny_grow (comp_RA (x := "k") (F₀ := by k_asm) rfl (by with_unfolding_all rfl) (by with_unfolding_all rfl) (by decide) (by rfl) (by decide) (by rfl) (by rfl) (by rfl) ?_)
    (repeat ((fail_if_success (first | with_reducible show CSrcRA ..)); walk_at "mine step"))
    rename Fr _ _ _ _ => F8
    rename News _ _ _ _ => N8
    rename IsRange _ _ _ _ _ _ _ _ => R8
    refine ⟨_, _, _, _, _, _, 4, _, rfl, rfl, F8, N8, R8, by decide, by decide, by decide, (fun i ys => IntsAre ys (freeF c.hs c.ts i)), .nil, (fun i ys h => by rw [h.length]; exact free_len _ _ _), ?tst, ?fin⟩
    case tst =>
      clear F8 N8 R8
      intro j t8 ys I oI C oC D m₂ h8 tk8 E' hj hK hns hm₂ F8 N8 off8 ne8
      k_steps
      · exact tst_no (by assumption) (by assumption) (by show IntsAre ys (freeF c.hs c.ts (j + 1)); rw [free_no (.inr (by assumption))]; exact hK)
      · refine tst_yes ?_
        k_steps
        exact el_end (by assumption) (by assumption) (by show IntsAre _ (freeF c.hs c.ts (j + 1)); rw [free_yes (by assumption) (by assumption)]; exact hK.append (.cons _ _ .nil))
      · exact tst_no (by assumption) (by assumption) (by show IntsAre ys (freeF c.hs c.ts (j + 1)); rw [free_no (.inl (by assumption))]; exact hK)
    case fin =>
      clear F8 N8 R8
      intro D8 h8 tk8 ys hK F8 N8 off8 hgr8
      dsimp only at hgr8
      have hfl := free_len c.hs c.ts 4
      have hfn := free_ne (hs := c.hs) (ts := c.ts) (most := most.toNat) hpos (by omega) hP.un
      have hbk : BlOk c.hs c.ts c.row := fun x hx => by
        have hxb := free_bd hx
        have := (take_keeps (left := 0) (k := x.toNat) hP.so hP.pm (by omega)).1
        omega
      have hrl : c.row.length ≤ 8 := by have := hP.pm.length_eq; omega
      have hso9 := hP.so
      have hsd := hP.sd
      have htvl := hP.tI.length
      have hof8 : ∀ x0 x1 x2 x3, OwnOff ((D8, x0) :: (_, x1) :: (_, x2) :: (_, x3) :: tls) [R, H] := fun x0 x1 x2 x3 => o_off off8.2.2.2.1 off8.2.2.2.2.1 (neN (by omega)) (neN (by omega)) (neN (by omega)) (neN (by omega)) (neN (by omega)) (neN (by omega)) hoT
      (repeat ((fail_if_success (first | with_reducible show wpAny _ _ (call (Value.ref _) ..) _ _ _ | with_reducible show wpAny _ _ (call (Value.ref _) _) _ _ _)); walk_at "mine step"))
      rename _ ∈ freeF _ _ _ => hx'
      rename (0 ≤ _ ∧ _ < 4) ∧ _ => hxb'
      rename BlOk _ _ _ => hbk
      refine' useCg (take_vals ?hne ?hoff ?hH ?hR ?h4 ?h0 ?hl ?hs ?hb) ?k1 ?k2 ?k3 ?k4 ?k5 ?k6 ?k7 ?k8 ?_
      case k4 => exact o_perm (by k_asm)
      case k1 => k_asm
      case k2 => k_asm
      case k3 => k_asm
      case k5 => k_asm
      case k6 => exact rfl
      case k7 => ((try simp only [ktrTop, depth_under_make, depth_under_kw, depth_in1, depth_deeper, depth_caller]); omega)
      case k8 => ((try simp only [ktrTop, units_in1, units_deeper, Around.mark_units, units_caller]); omega)
      case hne => assumption
      case hoff => exact hof8 _ _ _ _
      case hH => assumption
      case hR => assumption
      case h4 => assumption
      case h0 => omega
      case hl => assumption
      case hs => assumption
      case hb => exact hbk _ (by assumption)
      intro r' n' h' tk' htk' hp' F' N'
      obtain ⟨hp1, rvs', hvs', nn', mm', hp2, hrI', hhI', hrM', hhM'⟩ := hp'
      subst hp2
      subst hp1
      (try dsimp only at htk')
      (try dsimp only)
      (repeat ((fail_if_success (first | with_reducible show wpAny _ _ (call (Value.builtin "list.append") ..) _ _ _ | with_reducible show wpAny _ _ (call (Value.builtin "list.append") _) _ _ _)); walk_at "mine step"))
      refine' app_V ?k1 ?k2 ?k3 ?k4 ?_
      case k1 => k_asm
      case k2 => k_asm
      case k3 => exact o_upd (neN (by omega)) (neN (by omega)) (Ne.symm off8.1) (neN (by omega)) (neN (by omega)) hoT
      case k4 => omega
      k_whole
      intro h' F' N'
      (try dsimp only at N')
      k_steps
      rw [← hPQ]
      dsimp only [TPost]
      rename Fr _ _ _ _ => F7
      rename News _ _ _ _ => N7
      have hfd := fmod_bd (a := (c.seed).fdiv 12) hxb'.2
      refine ot_end F7 N7 htls ho hP hx' hfd.1 hfd.2 (Int.fdiv_nonneg hsd (by decide)) hrI' hhI' hrM' hhM' (by omega) (by omega) rfl ?hr
      intro z z1 z4 z3
      have z5 : z ≠ "free" := fun e => by rw [e] at z3; exact absurd z3 (by decide)
      have z6 : z ≠ "spot" := fun e => by rw [e] at z3; exact absurd z3 (by decide)
      simp only [z1, z4, z5, z6, z3, if_false, Bool.false_eq_true]
  case done =>
    clear F9 N9 R9
    intro c u h9 tk9 hP F9 N9
    dsimp only [kstB] at F9
    unfold oLed at N9
    k_steps
    exact hret _ _ _ _ ⟨c, nn, by omega, by omega, hP, rfl⟩ (by assumption) (fun p hp => (by assumption : News _ _ _ _) p (.tail _ (.tail _ (.tail _ hp))))
end Mine
namespace Mine
theorem dr_turn {l : List Int} {k : Nat} {a : Int} (h1 : l.length = 11) (h2 : ∀ d ∈ l, (0:Int) ≤ d) : (l.set k (l.getD k 0 + Int.fmod a 1000000)).length = 11 ∧ ∀ d ∈ l.set k (l.getD k 0 + Int.fmod a 1000000), (0:Int) ≤ d := by
  refine ⟨by rw [List.length_set]; exact h1, fun d hd => ?_⟩
  rcases List.mem_or_eq_of_mem_set hd with hd | rfl
  · exact h2 d hd
  · have h1 : 0 ≤ l.getD k 0 := by
      rw [List.getD_eq_getElem?_getD]
      cases e : l[k]? with
      | none => exact Int.le_refl 0
      | some x => exact h2 x (List.mem_of_getElem? e)
    have := Int.fmod_nonneg_of_pos a (b := 1000000) (by decide)
    omega
noncomputable def KHp (k : Nat) (ys : List Value) : Prop := 2 ≤ k ∧ (∃ xs : List Int, IntsAre ys xs ∧ ∀ x ∈ xs, 0 ≤ x ∧ x ≤ 7) ∧ TkOk ys k
theorem KHp.up {k k' : Nat} {ys : List Value} (h : k ≤ k') (K : KHp k ys) : KHp k' ys := ⟨Nat.le_trans K.1 h, K.2.1, K.2.2.up h⟩
theorem KHp.add {k k' : Nat} {ys : List Value} {x : Int} {t : Tok} (K : KHp k ys) (hx : 0 ≤ x ∧ x ≤ 7) (h1 : @LE.le Nat _ k t) (h2 : @LT.lt Nat _ t k') : KHp k' (ys ++ [.int x t]) := by
  obtain ⟨h, ⟨xs, hI, hb⟩, hT⟩ := K
  refine ⟨Nat.le_trans h (Nat.le_trans h1 (Nat.le_of_lt h2)), ⟨xs ++ [x], hI.append (.cons _ _ .nil), fun a ha => ?_⟩, (hT.add (x := x) (Nat.lt_of_lt_of_le (by decide) h) h1 h2).sub fun v hv => ?_⟩
  · rcases List.mem_append.mp ha with ha | ha
    · exact hb a ha
    · rw [List.mem_singleton.mp ha]; exact hx
  · rcases List.mem_append.mp hv with hv | hv
    · exact .tail _ hv
    · rw [List.mem_singleton.mp hv]; exact .head _
-- the row is built
structure InC where
  rvs : List Value
  n : Nat
  row : List Int
structure InP (hvs : List Value) (hs : List Int) (i T : Nat) (c : InC) : Prop where
  rI : IntsAre c.rvs c.row
  so : Sorted c.row
  pm : c.row.Perm (hs.take i)
  sb : ∀ v ∈ c.rvs, v ∈ hvs
  t2 : 2 ≤ T
  tk : TkOk hvs T
theorem InP.up {hvs : List Value} {hs : List Int} {i T T' : Nat} {c : InC} (h : InP hvs hs i T c) (hT : T ≤ T') : InP hvs hs i T' c := { h with t2 := Nat.le_trans h.t2 hT, tk := h.tk.up hT }
theorem in_step {hvs : List Value} {hs : List Int} {i T T' : Nat} {c : InC} {x : Int} {t : Tok} {rvs' : List Value} {n' : Nat} (h : InP hvs hs i T c) (hT : T ≤ T') (hv : hvs[i]? = some (.int x t)) (hx : hs[i]? = some x) (hI : IntsAre rvs' (ins c.row (br c.row x) x)) (hm : ∀ v ∈ rvs', v = .int x t ∨ v ∈ c.rvs) : InP hvs hs (i + 1) T' ⟨rvs', n', ins c.row (br c.row x) x⟩ := by
  refine ⟨hI, ins_sorted h.so x, ?_, fun v hv' => ?_, Nat.le_trans h.t2 hT, h.tk.up hT⟩
  · refine (ins_perm _ _ _).trans ?_
    rw [List.take_add_one, hx]
    exact (List.Perm.cons x h.pm).trans (List.perm_append_comm (l₁ := [x]) (l₂ := hs.take i))
  · rcases hm v hv' with rfl | hm
    · exact List.mem_of_getElem? hv
    · exact h.sb v hm
section
variable {prog : Program} {w : World} {A : Around} {E : Value → Shared → Prop} {s : Shared} {env : Env} {h₀ : Heap} {target : PySem.Expr} {body : List Stmt} {Q : Flow → Shared → Prop} {m₀ : Str → Option Value}
noncomputable def inLed (R H : Addr) (hvs : List Value) (m : Nat) (rest : Led) (c : InC) : Led := (R, W.listOf c.rvs.toArray c.n) :: (H, W.listOf hvs.toArray m) :: rest
theorem in_loop {R H : Addr} {hvs : List Value} {hs : List Int} {m : Nat} {rest : Led} {c0 : InC}
    (hh : A.handled = none) (F : Fr h₀ env.locals s.heap m₀) (N : News h₀ env.locals s.heap (inLed R H hvs m rest c0)) (hP : InP hvs hs 0 s.toks c0)
    (turn : ∀ (c : InC) (i : Nat) (v : Value) (u : Str → Option Value) (h : Heap) (tk : Nat) (own : Led), hvs[i]? = some v → OwnOff own ((inLed R H hvs m rest c).map (·.1)) → InP hvs hs i tk c →
      Fr h₀ env.locals h (fun y => if y = "heap" then u y else kstB (fun z => if ([] : List Str).contains z then u z else m₀ z) [] y) →
      News h₀ env.locals h (inLed R H hvs m rest c ++ own) →
      wpAny (model prog w) A (assign target env v) (fun _ s₂ => wpAny (model prog w) A (execs body env) (TPost h₀ env.locals (fun kk mm nx => KstS (inLed R H hvs m rest) (fun _ => []) (fun _ => True) "heap" [] m₀
        (fun _ => InP hvs hs (i + 1) kk) [] mm nx) own { s with heap := h, toks := tk } Q) E s₂) E { s with heap := h, toks := tk })
    (done : ∀ (c : InC) (u : Str → Option Value) h tk, InP hvs hs hvs.length tk c → Fr h₀ env.locals h (fun y => if y = "heap" then u y else kstB (fun z => if ([] : List Str).contains z then u z else m₀ z) [] y) →
      News h₀ env.locals h (inLed R H hvs m rest c) → Q .next { s with heap := h, toks := tk })
    (hE : PassesOwn (model prog w) A env E := by passes_own) :
    wpAny (model prog w) A (pyIter (.ref H)) (fun it s₂ => ForAt prog w A env target body Q E it s₂) E s :=
  tT_list (σ := InC) "heap" (inLed R H hvs m rest) (fun _ => []) [] (fun i T c => InP hvs hs i T c) (fun _ _ _ _ h h' => InP.up h' h) c0 (fun _ => .tail _ (.head _)) hh F N (fun _ h => nomatch h) hP turn done hE
-- the turns
structure LwC where
  hvs : List Value
  m : Nat
  hs : List Int
  rvs : List Value
  n : Nat
  row : List Int
/-- what holds ahead of each turn -/
structure LwP (most : Int) (i T : Nat) (c : LwC) : Prop where
  hI : IntsAre c.hvs c.hs
  rI : IntsAre c.rvs c.row
  l4 : c.hs.length = 4
  bd : ∀ a ∈ c.hs, 0 ≤ a ∧ a ≤ 7
  so : Sorted c.row
  pm : c.row.Perm c.hs
  t2 : 2 ≤ T
  tk : TkOk (c.hvs ++ c.rvs) T
  sm : c.hs.sum + (i : Int) ≤ 28
  lv : 0 < i → levF most c.hs = false
theorem LwP.up {most : Int} {i T T' : Nat} {c : LwC} (h : LwP most i T c) (hT : T ≤ T') : LwP most i T' c := { h with t2 := Nat.le_trans h.t2 hT, tk := h.tk.up hT }
noncomputable def lwLed (R H : Addr) (rest : Led) (c : LwC) : Led := (R, W.listOf c.rvs.toArray c.n) :: (H, W.listOf c.hvs.toArray c.m) :: rest
noncomputable abbrev lwS : List Str := ["counts", "level", "held", "old", "new"]
theorem lw_loop {R H r : Addr} {rest : Led} {c0 : LwC} {most : Int} {t₀ u₀ v₀ : Tok}
    (hh : A.handled = none) (hr : IsRange s.heap r 0 29 1 t₀ u₀ v₀) (F : Fr h₀ env.locals s.heap m₀) (N : News h₀ env.locals s.heap (lwLed R H rest c0)) (hP : LwP most 0 s.toks c0)
    (turn : ∀ (c : LwC) (i : Nat) (t : Tok) (u : Str → Option Value) (h : Heap) (tk : Nat) (own : Led), i < 29 → OwnOff own ((lwLed R H rest c).map (·.1)) → LwP most i tk c →
      Fr h₀ env.locals h (fun y => if y = "turn" then u y else kstB (fun z => if lwS.contains z then u z else m₀ z) [] y) →
      News h₀ env.locals h (lwLed R H rest c ++ own) →
      wpAny (model prog w) A (assign target env (.int (0 + (i : Int) * 1) t)) (fun _ s₂ => wpAny (model prog w) A (execs body env) (TPost h₀ env.locals (fun kk m nx => KstS (lwLed R H rest) (fun _ => []) (fun _ => True) "turn" lwS m₀
        (fun _ => LwP most (i + 1) kk) [] m nx) own { s with heap := h, toks := tk } Q) E s₂) E { s with heap := h, toks := tk })
    (hE : PassesOwn (model prog w) A env E := by passes_own) (ht : ∀ r v, letOwnedTupleGo target r v = pure () := by intro _ _; rfl) :
    wpAny (model prog w) A (pyIter (.ref r)) (fun it s₂ => ForAt prog w A env target body Q E it s₂) E s := by
  refine tT_range (n := 29) (σ := LwC) "turn" (lwLed R H rest) (fun _ => []) lwS (fun i T c => LwP most i T c) (fun _ _ _ _ h h' => LwP.up h' h) c0 hh hr (small_one (by decide) (by decide) (by decide) (by decide)) (by decide +kernel) F N (fun _ h => nomatch h) hP turn ?_ hE ht
  intro c u h tk hP
  exfalso
  have h1 := hP.sm
  have h2 := hP.bd
  have h4 := hP.l4
  obtain ⟨hvs, m, hs, rvs, n, row⟩ := c
  dsimp only at h1 h2 h4
  match hs, h4 with
  | [a, b, c, d], _ =>
    have := h2 a (by simp)
    have := h2 b (by simp)
    have := h2 c (by simp)
    have := h2 d (by simp)
    simp only [List.sum_cons, List.sum_nil] at h1
    omega
end
end Mine
namespace Mine
section
variable {M : Model} {A : Around} {E : Value → Shared → Prop} {s : Shared}
/-- a comprehension's frame with one cell of its own -/
theorem newEnv_cell {scope : Scope} {globals : Addr} {cl : List (Str × Addr)} {qual : Str} {func : Option Addr} {code : Value} {outer : Env} {builtins : Addr} {x : Str} {Q : Env → Shared → Prop}
    (hc : ∀ n acc, cellsFrom n scope.names acc = (x, n) :: acc) (hp : ∀ h, pushCells h scope.names = h.push { cls := .type "cell", data := .cell none })
    (hQ : Q (newEnv scope s.heap.objs.size globals ((x, s.heap.objs.size + 1) :: cl) qual func code (some outer) builtins) { s with heap := (s.heap.push { cls := .type "dict", data := .dict #[] }).push { cls := .type "cell", data := .cell none } }) :
    wpAny M A (newFunctionEnv scope globals cl [] qual func code (some outer) builtins) Q E s := by
  simp only [newFunctionEnv, Option.isSome_some, if_true]
  refine wpAny_bind (wpAny_alloc ?_)
  refine wpAny_bind (wpAny_layCells _ (fun name kind cells => by cases hkc : kind == NameKind.cell <;> simp [hkc]) _ _ _ _ ?_)
  rw [hc, hp]
  rw [show ({ s with heap := s.heap.push { cls := .type "dict", data := .dict #[] } } : Shared).heap.objs.size = s.heap.objs.size + 1 from Heap.size_push ..]
  exact wpAny_bind (wpAny_pure (wpAny_pure hQ))
end
section
variable {prog : Program} {w : World} {A : Around} {E : Value → Shared → Prop} {s : Shared} {h₀ : Heap} {L : Addr} {m : Str → Option Value} {env : Env}
noncomputable def CSrcX (prog : Program) (w : World) (A : Around) (h₀ : Heap) (L : Addr) (m : Str → Option Value) (env : Env) (elt : PySem.Expr) (x : Str) (scope : Scope) (cl : List (Str × Addr)) (Q : Value → Shared → Prop) (xv : Value) (s₁ : Shared) : Prop :=
  ∃ (r : Addr) (a b : Int) (t u v : Tok) (n : Nat) (news : Led), xv = .ref r ∧ A.handled = none ∧ Fr h₀ L s₁.heap m ∧ News h₀ L s₁.heap news ∧ IsRange s₁.heap r a b 1 t u v ∧ Builtin.Range.small a b 1 = true ∧ Builtin.Range.rangeSize a b 1 = (n : Int) ∧ n ≤ 1000 ∧
      ∃ K : Nat → List Value → Prop, K 0 [] ∧ (∀ i ys, K i ys → ys.length ≤ i) ∧
        (∀ (i : Nat) t ys I oI C oC X oX D m₂ h tk (E' : Value → Shared → Prop), i < n → K i ys → LCg.NsObj oC m₂ → oX.data = .cell (some (.int (a + (i : Int)) t)) → Fr h₀ L h m → News h₀ L h ((I, oI) :: (C, oC) :: (X, oX) :: (D, LCg.lst ys) :: news) →
          wpAny (model prog w) A (eval elt (compEnvC scope ((x, X) :: cl) C env)) (ElEnd h₀ L m { s₁ with heap := h, toks := tk } ((I, oI) :: (C, oC) :: (X, oX) :: (D, LCg.lst ys) :: news) (fun _ y => K (i + 1) (ys ++ [y]))) E' { s₁ with heap := h, toks := tk }) ∧
        (∀ D h tk ys, K n ys → Fr h₀ L h m → News h₀ L h ((D, LCg.lst ys) :: news) → LCg.Off1 D news → Q (.ref D) { s₁ with heap := h, toks := tk })
theorem comp_X {elt iter : PySem.Expr} {x : Str} {px : Pos} {scope : Scope} {cl : List (Str × Addr)} {pos : Pos} {Q : Value → Shared → Prop} (F₀ : Fr h₀ L s.heap m)
    (hclos : closureFor scope env = pure cl) (hc : ∀ n acc, cellsFrom n scope.names acc = (x, n) :: acc) (hp : ∀ h, pushCells h scope.names = h.push { cls := .type "cell", data := .cell none }) (hkind : scope.kind = .function)
    (hnames : ∀ y ∈ scope.names, y.2 = .local → scope.names.lookup y.1 = some .local) (hx : (relabel scope env).names.lookup x = some .cell)
    (h : wpAny (model prog w) A (eval iter env) (CSrcX prog w A h₀ L m env elt x scope cl Q) E s)
    (hs : ∀ x, foldedSetIterable iter env x = pure x := by intro _; rfl) :
    wpAny (model prog w) A (eval (.ListComp elt [⟨.Name x px, iter, [], 0⟩] scope pos) env) Q E s := by
  rw [eval_ListComp]
  refine wpAny_comprehension_free (use := none) rfl hs hclos hkind hnames (wpAny_mono h (fun xv s₁ h₁ => ?_) fun _ _ e => e)
  obtain ⟨r, a, b, t, u, v, n, news, rfl, hh, F, N, hr, hsm, hn, hlen, K, hK0, hKl, turn, fin⟩ := h₁
  refine wpAny_pyIter_range hr hsm ?_
  generalize hI : s₁.heap.objs.size = I
  have Wk := LCg.range_walks (prog := prog) (w := w) (I := I) hh a n
  refine wpAny_newObj_type (newEnv_cell hc hp ?_)
  dsimp only
  generalize hH1 : s₁.heap.push { cls := .type "range_iterator", dict := none, data := .fields #[rawInt a, rawInt (Builtin.Range.rangeSize a b 1), rawInt 1] } = H1
  generalize hH2 : H1.push { cls := .type "list", dict := none, data := .seq ([] : List Value).toArray } = H2
  have z1 : H1.objs.size = I + 1 := by rw [← hH1, Heap.size_push, hI]
  have z2 : H2.objs.size = I + 2 := by rw [← hH2, Heap.size_push, z1]
  rw [z2, z1]
  generalize hH3 : H2.push { cls := .type "dict", data := .dict #[] } = H3
  generalize hH4 : H3.push { cls := .type "cell", data := .cell none } = h₁
  have z3 : H3.objs.size = I + 3 := by rw [← hH3, Heap.size_push, z2]
  have hns₁ : h₁.Ns (I + 2) (fun _ => none) := by
    have := (Heap.Ns.new H2 (.type "dict")).keeps (h' := h₁) fun b o e => by rw [← hH4]; exact Heap.get?_push_of_some _ (hH3 ▸ e)
    rwa [z2] at this
  have hcl₁ : h₁.IsCell (I + 3) none := ⟨{ cls := .type "cell", data := .cell none }, by rw [← hH4, ← z3]; exact Heap.get?_push_size _ rfl, rfl⟩
  have up1 : ∀ b o, s₁.heap.get? b = some o → H1.get? b = some o := fun b o e => hH1 ▸ Heap.get?_push_of_some _ e
  have up2 : ∀ b o, H1.get? b = some o → H2.get? b = some o := fun b o e => hH2 ▸ Heap.get?_push_of_some _ e
  have up3 : ∀ b o, H2.get? b = some o → h₁.get? b = some o := fun b o e => by
    rw [← hH4]; exact Heap.get?_push_of_some _ (by rw [← hH3]; exact Heap.get?_push_of_some _ e)
  have old : ∀ b o, s₁.heap.get? b = some o → h₁.get? b = some o := fun b o e => up3 b o (up2 b o (up1 b o e))
  have hit : h₁.get? I = some { cls := .type "range_iterator", dict := none, data := .fields #[rawInt a, rawInt (Builtin.Range.rangeSize a b 1), rawInt 1] } := up3 _ _ (up2 _ _ (by rw [← hH1, ← hI]; exact Heap.get?_push_size _ rfl))
  have hacc : h₁.get? (I + 1) = some (LCg.lst []) := up3 _ _ (by rw [← hH2, ← z1]; exact Heap.get?_push_size _ rfl)
  have fresh₀ : ∀ a, I ≤ a → h₀.get? a = none := fun a ha => by
    cases e : h₀.get? a with
    | none => rfl
    | some o' => (have h9 : @LT.lt Nat _ a I := ltN (hI ▸ Heap.lt_size (F.keep a o' e))); (have h8 : @LE.le Nat _ I a := ha); omega
  have hLlt : @LT.lt Nat _ L I := ltN (hI ▸ F.ns.lt)
  have F1 : Fr h₀ L h₁ m := F.keeps old
  have hN1 : ∀ p ∈ news, @LT.lt Nat _ p.1 I := fun p hp => ltN (hI ▸ Heap.lt_size (N p hp).1)
  have hoff : LCg.Off3 I (I + 2) (I + 1) news := LCg.Off3.of fun p hp => by have := hN1 p hp; exact ⟨Nat.ne_of_lt this, Nat.ne_of_lt (Nat.lt_of_lt_of_le this (Nat.le_add_right _ _)), Nat.ne_of_lt (Nat.lt_of_lt_of_le this (Nat.le_add_right _ _))⟩
  have hst0 : IsRangeIter h₁ I (a + ((0 : Nat) : Int) * 1) ((n : Int) - ((0 : Nat) : Int)) 1 := by
    show h₁.get? I = some _
    rw [hit, hn]
    simp [rawInt]
  have key : ∀ s₃ : Shared, s₃ = { s₁ with heap := h₁ } →
      codeAny (model prog w) A (.compLoop (.ListComp elt [⟨.Name x px, iter, [], 0⟩] scope pos) 0 (.ref I) (.ref (I + 1)) (compEnvC scope ((x, I + 3) :: cl) (I + 2) env))
        (compPost (model prog w) A E none Q (.ref (I + 1)) (I + 2)) s₃ := by
    rintro s₃ rfl
    refine codeAny_compLoop_tests
      (fun k s' => ∃ (h' : Heap) (tk i : Nat) (ys : List Value) (m' : Str → Option Value) (cv : Option Value), s' = { s₁ with heap := h', toks := tk } ∧ i ≤ n ∧ k = n + 1 - i ∧ K i ys ∧ IsRangeIter h' I (a + (i : Nat) * 1) ((n : Int) - (i : Nat)) 1 ∧ Fr h₀ L h' m ∧ h'.Ns (I + 2) m' ∧ h'.IsCell (I + 3) cv ∧ News h₀ L h' ((I + 1, LCg.lst ys) :: news)) ?_ (n + 1)
      ⟨h₁, _, 0, [], _, _, rfl, Nat.zero_le _, rfl, hK0, hst0, F1, hns₁, hcl₁, fun p hp => ?_⟩
    · rintro k s' ⟨h', tk, i, ys, m', cv, rfl, hi, rfl, hK, hst, F', hn', hv', N'⟩
      have hCL : I + 2 ≠ L := neN (by omega)
      have hXL : I + 3 ≠ L := neN (by omega)
      have hDL : I + 1 ≠ L := neN (by omega)
      have hDC : I + 1 ≠ I + 2 := neN (by omega)
      have hDX : I + 1 ≠ I + 3 := neN (by omega)
      have offI : ∀ p ∈ (I + 1, LCg.lst ys) :: news, p.1 ≠ I := fun p hp => by
        rcases List.mem_cons.mp hp with rfl | hp
        · exact neN (a := I + 1) (b := I) (by omega)
        · exact Nat.ne_of_lt (hN1 p hp)
      by_cases hlt : i < n
      · refine Wk.item i _ _ _ hlt hst fun v h₂ tk₂ hPv hst₂ hk₂ => ?_
        obtain ⟨tv, rfl⟩ := hPv
        have hn₂ : h₂.Ns (I + 2) m' := hn'.at' fun o e => hk₂ _ o (by simp) e
        have hv₂ : h₂.IsCell (I + 3) cv := let ⟨o, ho, hd⟩ := hv'; ⟨o, hk₂ _ o (by simp) ho, hd⟩
        refine wpAny_assign_Name (wpAny_storeName_cell (by simp [compEnvC, relabel, hkind]) hx (by simp [compEnvC]) hv₂ fun h₃ hv₃ hs₃ => ?_)
        refine wpAny_tests_nil ?_
        simp only [if_true]
        have hn₃ : h₃.Ns (I + 2) m' := hn₂.sameBut hs₃ (neN (a := I + 2) (b := I + 3) (by omega))
        have hst₃ : IsRangeIter h₃ I (a + ((i + 1 : Nat) : Int) * 1) ((n : Int) - ((i + 1 : Nat) : Int)) 1 := Wk.frame _ _ _ hst₂ fun b hb o e => hs₃.extBut b o (fun q => by
          have q' : @Eq Nat b (I + 3) := q
          have hb' : @Eq Nat b I := List.mem_singleton.mp hb
          omega) e
        obtain ⟨oI, heI, hoI⟩ : ∃ oI, h₃.get? I = some oI ∧ ∀ h'' : Heap, h''.get? I = some oI → IsRangeIter h'' I (a + ((i + 1 : Nat) : Int) * 1) ((n : Int) - ((i + 1 : Nat) : Int)) 1 := ⟨_, hst₃, fun _ e => e⟩
        obtain ⟨oC, heC, hoC⟩ := LCg.ns_obj hn₃
        obtain ⟨oX, heX, hoX⟩ := hv₃
        have F₃ : Fr h₀ L h₃ m := (LCg.fr_but F' hk₂ (neN (a := L) (b := I) (by omega)) (fresh₀ _ (Nat.le_refl _))).change hs₃ hXL (fresh₀ _ (Nat.le_add_right _ _))
        have N₂ : News h₀ L h₂ ((I + 1, LCg.lst ys) :: news) := LCg.news_but N' hk₂ offI
        have N₃ : News h₀ L h₃ ((I, oI) :: (I + 2, oC) :: (I + 3, oX) :: (I + 1, LCg.lst ys) :: news) := fun p hp => by
          rcases List.mem_cons.mp hp with rfl | hp
          · exact ⟨heI, neN (a := I) (b := L) (by omega), fresh₀ _ (Nat.le_refl _)⟩
          · rcases List.mem_cons.mp hp with rfl | hp
            · exact ⟨heC, hCL, fresh₀ _ (Nat.le_add_right _ _)⟩
            · rcases List.mem_cons.mp hp with rfl | hp
              · exact ⟨heX, hXL, fresh₀ _ (Nat.le_add_right _ _)⟩
              · have z := N₂ p hp
                refine ⟨hs₃.extBut _ _ ?_ z.1, z.2⟩
                rcases List.mem_cons.mp hp with rfl | hp
                · exact hDX
                · exact neN (a := p.1) (b := I + 3) (by have := hN1 p hp; omega)
        refine wpAny_mono (turn i tv ys I oI (I + 2) oC (I + 3) oX (I + 1) _ h₃ _ _ hlt hK hoC hoX F₃ N₃) (fun y s₅ h₅ => ?_) fun _ _ e => e
        obtain ⟨h₄, tk₄, rfl, F₄, N₄, hK₄⟩ := h₅
        have zI := (N₄ (I, oI) (.head _)).1
        have zC := (N₄ (I + 2, oC) (.tail _ (.head _))).1
        have zX := (N₄ (I + 3, oX) (.tail _ (.tail _ (.head _)))).1
        have zD := (N₄ (I + 1, LCg.lst ys) (.tail _ (.tail _ (.tail _ (.head _))))).1
        have N₄' : News h₀ L h₄ news := fun p hp => N₄ p (.tail _ (.tail _ (.tail _ (.tail _ hp))))
        have hyl := hKl _ _ hK
        refine append_at (hsz := by show ys.toArray.size ≤ sizeLine; rw [List.size_toArray, PySem.sizeLine_eq]; omega) zD fun h₅ hs₅ hD₅ => ?_
        refine ⟨n + 1 - (i + 1), by omega, h₅, tk₄, i + 1, ys ++ [y], _, _, rfl, hlt, rfl, hK₄, hoI _ (hs₅.extBut _ _ (neN (a := I) (b := I + 1) (by omega)) zI), F₄.change hs₅ hDL (fresh₀ _ (Nat.le_add_right _ _)), hoC.ns (hs₅.extBut _ _ (Ne.symm hDC) zC), ⟨oX, hs₅.extBut _ _ (Ne.symm hDX) zX, hoX⟩, fun p hp => ?_⟩
        rcases List.mem_cons.mp hp with rfl | hp
        · exact ⟨hD₅.trans (congrArg some (LCg.lst_snoc ys y)), hDL, fresh₀ _ (Nat.le_add_right _ _)⟩
        · exact ⟨hs₅.extBut _ _ (neN (a := p.1) (b := I + 1) (by have := hN1 p hp; omega)) (N₄' p hp).1, (N₄' p hp).2⟩
      · obtain rfl : i = n := Nat.le_antisymm hi (Nat.not_lt.mp hlt)
        refine Wk.done _ _ _ hst fun h₂ tk₂ hk₂ => ?_
        have F₂ := LCg.fr_but F' hk₂ (neN (a := L) (b := I) (by omega)) (fresh₀ _ (Nat.le_refl _))
        have N₂ := LCg.news_but N' hk₂ offI
        refine ⟨m', hn'.at' fun o e => hk₂ _ o (by simp) e, fun h'' hs'' => fin (I + 1) h'' tk₂ ys hK (F₂.change hs'' hCL (fresh₀ _ (Nat.le_add_right _ _))) (fun p hp => ?_) (LCg.Off3.one hoff)⟩
        refine ⟨hs''.extBut _ _ ?_ (N₂ p hp).1, (N₂ p hp).2⟩
        rcases List.mem_cons.mp hp with rfl | hp
        · exact hDC
        · exact neN (a := p.1) (b := I + 2) (by have := hN1 p hp; omega)
    · rcases List.mem_cons.mp hp with rfl | hp
      · exact ⟨hacc, neN (a := I + 1) (b := L) (by omega), fresh₀ _ (Nat.le_add_right _ _)⟩
      · exact ⟨old _ _ (N p hp).1, (N p hp).2⟩
  exact codeAny_compStart_list (key _ rfl) (Wk.self 0 _ _ _ hst0 (key _ rfl))
end
end Mine
namespace Mine
section
variable {prog : Program} {w : World} {A : Around} {E : Value → Shared → Prop} {s : Shared} {h₀ : Heap} {L : Addr} {m : Str → Option Value} {env : Env}
/-- the list that a comprehension with a test goes through -/
noncomputable def CSrcL (prog : Program) (w : World) (A : Around) (h₀ : Heap) (L : Addr) (m : Str → Option Value) (env : Env) (elt tst : PySem.Expr) (x : Str) (scope : Scope) (cl : List (Str × Addr)) (Q : Value → Shared → Prop) (xv : Value) (s₁ : Shared) : Prop :=
  ∃ (l : Addr) (vs : List Value) (nn : Nat) (news : Led), xv = .ref l ∧ A.handled = none ∧ Fr h₀ L s₁.heap m ∧ News h₀ L s₁.heap news ∧ (l, W.listOf vs.toArray nn) ∈ news ∧ vs.length ≤ 1000 ∧
      ∃ K : Nat → List Value → Prop, K 0 [] ∧ (∀ i ys, K i ys → ys.length ≤ i) ∧
        (∀ (i : Nat) v ys I oI C oC D m₂ h tk (E' : Value → Shared → Prop), vs[i]? = some v → K i ys → LCg.NsObj oC m₂ → m₂ x = some v → Fr h₀ L h m → News h₀ L h ((I, oI) :: (C, oC) :: (D, LCg.lst ys) :: news) → LCg.Off3 I C D news → ((@Ne Nat I C) ∧ (@Ne Nat I D) ∧ (@Ne Nat C D)) →
          wpAny (model prog w) A (isTrue tst (compEnvC scope cl C env) (eval tst (compEnvC scope cl C env))) (TstEnd prog w A h₀ L m { s₁ with heap := h, toks := tk } ((I, oI) :: (C, oC) :: (D, LCg.lst ys) :: news) (K (i + 1)) ys (compEnvC scope cl C env) elt E') E' { s₁ with heap := h, toks := tk }) ∧
        (∀ D h tk ys, K vs.length ys → Fr h₀ L h m → News h₀ L h ((D, LCg.lst ys) :: news) → LCg.Off1 D news → Q (.ref D) { s₁ with heap := h, toks := tk })
theorem comp_L {elt iter tst : PySem.Expr} {x : Str} {px : Pos} {scope : Scope} {cl : List (Str × Addr)} {pos : Pos} {Q : Value → Shared → Prop} (F₀ : Fr h₀ L s.heap m)
    (hclos : closureFor scope env = pure cl) (hcell : ∀ y ∈ scope.names, y.2 ≠ .cell) (hkind : scope.kind = .function)
    (hnames : ∀ y ∈ scope.names, y.2 = .local → scope.names.lookup y.1 = some .local) (hx : scope.names.lookup x = some .local)
    (h : wpAny (model prog w) A (eval iter env) (CSrcL prog w A h₀ L m env elt tst x scope cl Q) E s)
    (hs : ∀ x, foldedSetIterable iter env x = pure x := by intro _; rfl) :
    wpAny (model prog w) A (eval (.ListComp elt [⟨.Name x px, iter, [tst], 0⟩] scope pos) env) Q E s := by
  rw [eval_ListComp]
  refine wpAny_comprehension_free (use := none) rfl hs hclos hkind hnames (wpAny_mono h (fun xv s₁ h₁ => ?_) fun _ _ e => e)
  obtain ⟨l, vs, nn, news, rfl, hh, F, N, hl, hlen, K, hK0, hKl, turn, fin⟩ := h₁
  have hol := (N _ hl).1
  have hls : s₁.heap.IsList l vs.toArray := ⟨_, hol, rfl, nn, rfl⟩
  have hlt : l < s₁.heap.objs.size := Heap.lt_size hol
  refine wpAny_pyIter_list hls ?_
  generalize hI : s₁.heap.objs.size = I
  have hlI : @LT.lt Nat _ l I := ltN (hI ▸ hlt)
  have hne : l ≠ I := Nat.ne_of_lt hlI
  have Wk := Walks.list (prog := prog) (w := w) hh I l hne vs.toArray
  refine wpAny_newObj_type (wpAny_newFunctionEnv hcell (by intro y hy; simp at hy) (fun h₁ hns₁ hsb₁ => ?_) hkind)
  dsimp only at hns₁ hsb₁ ⊢
  generalize hH1 : s₁.heap.push { cls := .type "list_iterator", dict := none, data := .fields #[.ref l, .int 0 0] } = H1 at hns₁ hsb₁ ⊢
  generalize hH2 : H1.push { cls := .type "list", dict := none, data := .seq ([] : List Value).toArray } = H2 at hns₁ hsb₁ ⊢
  have z1 : H1.objs.size = I + 1 := by rw [← hH1, Heap.size_push, hI]
  have z2 : H2.objs.size = I + 2 := by rw [← hH2, Heap.size_push, z1]
  rw [z2] at hns₁ hsb₁ ⊢
  rw [z1]
  have up1 : ∀ b o, s₁.heap.get? b = some o → H1.get? b = some o := fun b o e => hH1 ▸ Heap.get?_push_of_some _ e
  have up2 : ∀ b o, H1.get? b = some o → H2.get? b = some o := fun b o e => hH2 ▸ Heap.get?_push_of_some _ e
  have up3 : ∀ b o, H2.get? b = some o → h₁.get? b = some o := fun b o e => by
    have hb : @LT.lt Nat _ b (I + 2) := ltN (z2 ▸ Heap.lt_size e)
    exact hsb₁.extBut b o (neN (by omega)) (Heap.get?_push_of_some _ e)
  have old : ∀ b o, s₁.heap.get? b = some o → h₁.get? b = some o := fun b o e => up3 b o (up2 b o (up1 b o e))
  have hit : h₁.get? I = some { cls := .type "list_iterator", dict := none, data := .fields #[.ref l, .int 0 0] } := up3 _ _ (up2 _ _ (by rw [← hH1, ← hI]; exact Heap.get?_push_size _ rfl))
  have hacc : h₁.get? (I + 1) = some (LCg.lst []) := up3 _ _ (by rw [← hH2, ← z1]; exact Heap.get?_push_size _ rfl)
  have fresh₀ : ∀ a, I ≤ a → h₀.get? a = none := fun a ha => by
    cases e : h₀.get? a with
    | none => rfl
    | some o' => (have h9 : @LT.lt Nat _ a I := ltN (hI ▸ Heap.lt_size (F.keep a o' e))); (have h8 : @LE.le Nat _ I a := ha); omega
  have hLlt : @LT.lt Nat _ L I := ltN (hI ▸ F.ns.lt)
  have F1 : Fr h₀ L h₁ m := F.keeps old
  have hN1 : ∀ p ∈ news, @LT.lt Nat _ p.1 I := fun p hp => ltN (hI ▸ Heap.lt_size (N p hp).1)
  have hoff : LCg.Off3 I (I + 2) (I + 1) news := LCg.Off3.of fun p hp => by have := hN1 p hp; exact ⟨Nat.ne_of_lt this, Nat.ne_of_lt (Nat.lt_of_lt_of_le this (Nat.le_add_right _ _)), Nat.ne_of_lt (Nat.lt_of_lt_of_le this (Nat.le_add_right _ _))⟩
  have hlenz : vs.toArray.size = vs.length := by simp
  rw [hlenz] at Wk
  have key : ∀ s₃ : Shared, s₃ = { s₁ with heap := h₁, toks := s₁.toks + ([] : List (Str × Value)).length } →
      codeAny (model prog w) A (.compLoop (.ListComp elt [⟨.Name x px, iter, [tst], 0⟩] scope pos) 0 (.ref I) (.ref (I + 1)) (compEnvC scope cl (I + 2) env))
        (compPost (model prog w) A E none Q (.ref (I + 1)) (I + 2)) s₃ := by
    rintro s₃ rfl
    refine codeAny_compLoop_tests
      (fun k s' => ∃ h' tk i ys m', s' = { s₁ with heap := h', toks := tk } ∧ i ≤ vs.length ∧ k = vs.length + 1 - i ∧ K i ys ∧ (h'.IsListIter I l i ∧ h'.IsList l vs.toArray) ∧ Fr h₀ L h' m ∧ h'.Ns (I + 2) m' ∧ News h₀ L h' ((I + 1, LCg.lst ys) :: news)) ?_ (vs.length + 1)
      ⟨h₁, _, 0, [], _, rfl, Nat.zero_le _, rfl, hK0, ⟨⟨_, hit, rfl, rfl⟩, ⟨_, old _ _ hol, rfl, nn, rfl⟩⟩, F1, hns₁, fun p hp => ?_⟩
    · rintro k s' ⟨h', tk, i, ys, m', rfl, hi, rfl, hK, hst, F', hn', N'⟩
      have hCL : I + 2 ≠ L := neN (by omega)
      have hDL : I + 1 ≠ L := neN (by omega)
      have hDC : I + 1 ≠ I + 2 := neN (by omega)
      have offI : ∀ p ∈ (I + 1, LCg.lst ys) :: news, p.1 ≠ I := fun p hp => by
        rcases List.mem_cons.mp hp with rfl | hp
        · exact neN (a := I + 1) (b := I) (by omega)
        · exact Nat.ne_of_lt (hN1 p hp)
      by_cases hlt : i < vs.length
      · refine Wk.item i _ _ _ hlt hst fun v h₂ tk₂ hPv hst₂ hk₂ => ?_
        refine wpAny_assign_Name (wpAny_storeName_local (lookup_relabel_local hx) (hn'.at' fun o e => hk₂ _ o (by simp) e) (fun h₃ hn₃ hs₃ => ?_) (by simp [compEnvC, relabel, hkind]))
        refine wpAny_tests_one ?_
        have hst₃ : h₃.IsListIter I l (i + 1) ∧ h₃.IsList l vs.toArray := Wk.frame _ _ _ hst₂ fun b hb o e => hs₃.extBut b o (fun q => by
          have q' : @Eq Nat b (I + 2) := q
          rcases List.mem_cons.mp hb with hb | hb
          · have hb' : @Eq Nat b I := hb; omega
          · have hb' : @Eq Nat b l := List.mem_singleton.mp hb; omega) e
        obtain ⟨oI, heI, _⟩ := hst₃.1
        obtain ⟨oC, heC, hoC⟩ := LCg.ns_obj hn₃
        have F₃ : Fr h₀ L h₃ m := (LCg.fr_but F' hk₂ (neN (a := L) (b := I) (by omega)) (fresh₀ _ (Nat.le_refl _))).change hs₃ hCL (fresh₀ _ (Nat.le_add_right _ _))
        have N₂ : News h₀ L h₂ ((I + 1, LCg.lst ys) :: news) := LCg.news_but N' hk₂ offI
        have N₃ : News h₀ L h₃ ((I, oI) :: (I + 2, oC) :: (I + 1, LCg.lst ys) :: news) := fun p hp => by
          rcases List.mem_cons.mp hp with rfl | hp
          · exact ⟨heI, neN (a := I) (b := L) (by omega), fresh₀ _ (Nat.le_refl _)⟩
          · rcases List.mem_cons.mp hp with rfl | hp
            · exact ⟨heC, hCL, fresh₀ _ (Nat.le_add_right _ _)⟩
            · have z := N₂ p hp
              refine ⟨hs₃.extBut _ _ ?_ z.1, z.2⟩
              rcases List.mem_cons.mp hp with rfl | hp
              · exact hDC
              · exact neN (a := p.1) (b := I + 2) (by have := hN1 p hp; omega)
        have hPv' : vs[i]? = some v := by simpa using hPv
        have back : ∀ (ys' : List Value) (h₄ : Heap) (tk₄ : Nat), K (i + 1) ys' → Fr h₀ L h₄ m → News h₀ L h₄ ((I, oI) :: (I + 2, oC) :: (I + 1, LCg.lst ys') :: news) → ∃ k, k < vs.length + 1 - i ∧ ∃ (h' : Heap) (tk i : Nat) (ys : List Value) (m' : Str → Option Value), ({ s₁ with heap := h₄, toks := tk₄ } : Shared) = { s₁ with heap := h', toks := tk } ∧ i ≤ vs.length ∧ k = vs.length + 1 - i ∧ K i ys ∧ (h'.IsListIter I l i ∧ h'.IsList l vs.toArray) ∧ Fr h₀ L h' m ∧ h'.Ns (I + 2) m' ∧ News h₀ L h' ((I + 1, LCg.lst ys) :: news) := fun ys' h₄ tk₄ hK₄ F₄ N₄ =>
          ⟨vs.length + 1 - (i + 1), by omega, h₄, tk₄, i + 1, ys', _, rfl, hlt, rfl, hK₄, ⟨by obtain ⟨o', q, r⟩ := hst₃.1; rw [heI] at q; cases q; exact ⟨oI, (N₄ _ (.head _)).1, r⟩, ⟨_, (N₄ _ (.tail _ (.tail _ (.tail _ hl)))).1, rfl, nn, rfl⟩⟩, F₄, hoC.ns (N₄ _ (.tail _ (.head _))).1, fun p hp => N₄ p (.tail _ (.tail _ hp))⟩
        refine wpAny_mono (turn i v ys I oI (I + 2) oC (I + 1) _ h₃ _ _ hPv' hK hoC (by simp) F₃ N₃ hoff ⟨by omega, by omega, by omega⟩) (fun b s₄ h₄ => ?_) fun _ _ e => e
        unfold TstEnd at h₄
        cases b with
        | false =>
          simp only [Bool.false_eq_true, if_false] at h₄ ⊢
          obtain ⟨h₄, tk₄, rfl, F₄, N₄, hK₄⟩ := h₄
          exact back ys h₄ tk₄ hK₄ F₄ N₄
        | true =>
          simp only [if_true] at h₄ ⊢
          refine wpAny_mono h₄ (fun y s₅ h₅ => ?_) fun _ _ e => e
          obtain ⟨h₄, tk₄, rfl, F₄, N₄, hK₄⟩ := h₅
          have zD := (N₄ (I + 1, LCg.lst ys) (List.mem_cons_of_mem _ (List.mem_cons_of_mem _ List.mem_cons_self))).1
          have hyl := hKl _ _ hK
          refine append_at (hsz := by show ys.toArray.size ≤ sizeLine; rw [List.size_toArray, PySem.sizeLine_eq]; omega) zD fun h₅ hs₅ hD₅ => ?_
          refine back (ys ++ [y]) h₅ tk₄ hK₄ (F₄.change hs₅ hDL (fresh₀ _ (Nat.le_add_right _ _))) fun p hp => ?_
          rcases List.mem_cons.mp hp with rfl | hp
          · exact ⟨hs₅.extBut _ _ (neN (a := I) (b := I + 1) (by omega)) (N₄ _ (.head _)).1, (N₄ _ (.head _)).2⟩
          · rcases List.mem_cons.mp hp with rfl | hp
            · exact ⟨hs₅.extBut _ _ (neN (a := I + 2) (b := I + 1) (by omega)) (N₄ _ (.tail _ (.head _))).1, (N₄ _ (.tail _ (.head _))).2⟩
            · rcases List.mem_cons.mp hp with rfl | hp
              · exact ⟨hD₅.trans (congrArg some (LCg.lst_snoc ys y)), hDL, fresh₀ _ (Nat.le_add_right _ _)⟩
              · have z := N₄ p (.tail _ (.tail _ (.tail _ hp)))
                exact ⟨hs₅.extBut _ _ (neN (a := p.1) (b := I + 1) (by have := hN1 p hp; omega)) z.1, z.2⟩
      · obtain rfl : i = vs.length := Nat.le_antisymm hi (Nat.not_lt.mp hlt)
        refine Wk.done _ _ _ hst fun h₂ tk₂ hk₂ => ?_
        have F₂ := LCg.fr_but F' hk₂ (neN (a := L) (b := I) (by omega)) (fresh₀ _ (Nat.le_refl _))
        have N₂ := LCg.news_but N' hk₂ offI
        refine ⟨m', hn'.at' fun o e => hk₂ _ o (by simp) e, fun h'' hs'' => fin (I + 1) h'' tk₂ ys hK (F₂.change hs'' hCL (fresh₀ _ (Nat.le_add_right _ _))) (fun p hp => ?_) (LCg.Off3.one hoff)⟩
        refine ⟨hs''.extBut _ _ ?_ (N₂ p hp).1, (N₂ p hp).2⟩
        rcases List.mem_cons.mp hp with rfl | hp
        · exact hDC
        · exact neN (a := p.1) (b := I + 2) (by have := hN1 p hp; omega)
    · rcases List.mem_cons.mp hp with rfl | hp
      · exact ⟨hacc, neN (a := I + 1) (b := L) (by omega), fresh₀ _ (Nat.le_add_right _ _)⟩
      · exact ⟨old _ _ (N p hp).1, (N p hp).2⟩
  exact codeAny_compStart_list (key _ rfl) (Wk.self 0 _ _ _ ⟨⟨_, hit, rfl, rfl⟩, ⟨_, old _ _ hol, rfl, nn, rfl⟩⟩ (key _ rfl))
end
end Mine
namespace Mine
/-- the counts that are off -/
noncomputable def offs (most : Int) (cs : List Int) : List Int := cs.filter fun c => !decide (c.fmod (most + 1) = 0)
theorem offs_len (most : Int) (cs : List Int) (i : Nat) : (offs most (cs.take i)).length ≤ i :=
  Nat.le_trans (List.length_filter_le _ _) (by rw [List.length_take]; exact Nat.min_le_left _ _)
theorem offs_no {most q : Int} {cs : List Int} {j : Nat} (hq : cs[j]? = some q) (h : q.fmod (most + 1) = 0) : offs most (cs.take (j + 1)) = offs most (cs.take j) := by
  unfold offs
  rw [List.take_add_one, hq, List.filter_append]
  simp [h]
theorem offs_yes {most q : Int} {cs : List Int} {j : Nat} (hq : cs[j]? = some q) (h : q.fmod (most + 1) ≠ 0) : offs most (cs.take (j + 1)) = offs most (cs.take j) ++ [q] := by
  unfold offs
  rw [List.take_add_one, hq, List.filter_append]
  simp [h]
theorem cnt_bitc (a b c d : Int) : cntF [a, b, c, d] = [bitc 0 a b c d, bitc 1 a b c d, bitc 2 a b c d] := by
  have e0 : ([a, b, c, d].map fun a => a / 1 % 2).sum = bitc 0 a b c d := by
    show a / 1 % 2 + (b / 1 % 2 + (c / 1 % 2 + (d / 1 % 2 + 0))) = a / 1 % 2 + b / 1 % 2 + c / 1 % 2 + d / 1 % 2
    omega
  have e1 : ([a, b, c, d].map fun a => a / 2 % 2).sum = bitc 1 a b c d := by
    show a / 2 % 2 + (b / 2 % 2 + (c / 2 % 2 + (d / 2 % 2 + 0))) = a / 2 % 2 + b / 2 % 2 + c / 2 % 2 + d / 2 % 2
    omega
  have e2 : ([a, b, c, d].map fun a => a / 4 % 2).sum = bitc 2 a b c d := by
    show a / 4 % 2 + (b / 4 % 2 + (c / 4 % 2 + (d / 4 % 2 + 0))) = a / 4 % 2 + b / 4 % 2 + c / 4 % 2 + d / 4 % 2
    omega
  unfold cntF
  rw [e0, e1, e2]
theorem offs_lev {most : Int} {hs : List Int} : offs most (cntF hs) = [] ↔ levF most hs = true := by
  unfold offs levF
  rw [List.filter_eq_nil_iff, List.all_eq_true]
  constructor
  · intro h x hx; have := h x hx; simpa using this
  · intro h x hx; have := h x hx; simpa using this
theorem lev_at {most a b c d : Int} (h : levF most [a, b, c, d] = true) : (bitc 0 a b c d).fmod (most + 1) = 0 ∧ (bitc 1 a b c d).fmod (most + 1) = 0 ∧ (bitc 2 a b c d).fmod (most + 1) = 0 := by
  unfold levF at h
  rw [cnt_bitc] at h
  have := List.all_eq_true.mp h
  exact ⟨by simpa using this _ (.head _), by simpa using this _ (.tail _ (.head _)), by simpa using this _ (.tail _ (.tail _ (.head _)))⟩
theorem b0 (a b c d : Int) : bitc 0 a b c d = a % 2 + b % 2 + c % 2 + d % 2 := by
  show a / 1 % 2 + b / 1 % 2 + c / 1 % 2 + d / 1 % 2 = _
  omega
theorem b1 (a b c d : Int) : bitc 1 a b c d = a / 2 % 2 + b / 2 % 2 + c / 2 % 2 + d / 2 % 2 := rfl
theorem b2 (a b c d : Int) : bitc 2 a b c d = a / 4 % 2 + b / 4 % 2 + c / 4 % 2 + d / 4 % 2 := rfl
theorem fm0 {c most : Int} (h1 : 1 ≤ c) (hm : 1 ≤ most) (h : c.fmod (most + 1) = 0) : most + 1 ≤ c := by
  rw [Int.fmod_eq_emod_of_nonneg _ (by omega)] at h
  have := Int.le_of_dvd (by omega) (Int.dvd_of_emod_eq_zero h)
  exact this
theorem pos4_eq (a b c d : Int) : pos4 [a, b, c, d] = one (0 < a) + one (0 < b) + one (0 < c) + one (0 < d) := rfl
theorem one_pos {a : Int} (ha : 0 ≤ a) : (0 < a ∧ one (0 < a) = 1) ∨ (a = 0 ∧ one (0 < a) = 0) := by
  unfold one
  by_cases h : 0 < a
  · exact .inl ⟨h, if_pos h⟩
  · exact .inr ⟨by omega, if_neg h⟩
/-- a level that is not spent has more than `most` heaps to draw from -/
theorem lev_pos {most a b c d : Int} (hm : 1 ≤ most ∧ most ≤ 3) (ha : 0 ≤ a ∧ a ≤ 7) (hb : 0 ≤ b ∧ b ≤ 7) (hc : 0 ≤ c ∧ c ≤ 7) (hd : 0 ≤ d ∧ d ≤ 7) (hl : levF most [a, b, c, d] = true) (hn : 0 < a + b + c + d) : most.toNat + 1 ≤ pos4 [a, b, c, d] := by
  obtain ⟨l0, l1, l2⟩ := lev_at hl
  have k0 : 1 ≤ bitc 0 a b c d → most + 1 ≤ bitc 0 a b c d := fun h => fm0 h hm.1 l0
  have k1 : 1 ≤ bitc 1 a b c d → most + 1 ≤ bitc 1 a b c d := fun h => fm0 h hm.1 l1
  have k2 : 1 ≤ bitc 2 a b c d → most + 1 ≤ bitc 2 a b c d := fun h => fm0 h hm.1 l2
  rw [b0] at k0
  rw [b1] at k1
  rw [b2] at k2
  rw [pos4_eq]
  have key : ∀ x : Int, 0 ≤ x ∧ x ≤ 7 → (0 < x → 1 ≤ x % 2 + x / 2 % 2 + x / 4 % 2) ∧ x % 2 ≤ (one (0 < x) : Int) ∧ x / 2 % 2 ≤ (one (0 < x) : Int) ∧ x / 4 % 2 ≤ (one (0 < x) : Int) ∧ 0 ≤ x % 2 ∧ 0 ≤ x / 2 % 2 ∧ 0 ≤ x / 4 % 2 := fun x hx => by
    rcases one_pos hx.1 with ⟨h, e⟩ | ⟨h, e⟩ <;> rw [e] <;> refine ⟨fun h' => ?_, ?_, ?_, ?_, ?_, ?_, ?_⟩ <;> omega
  obtain ⟨pa, qa, ra, sa, ua, va, wa⟩ := key a ha
  obtain ⟨pb, qb, rb, sb, ub, vb, wb⟩ := key b hb
  obtain ⟨pc, qc, rc, sc, uc, vc, wc⟩ := key c hc
  obtain ⟨pd, qd, rd, sd, ud, vd, wd⟩ := key d hd
  have hne : 0 < a ∨ 0 < b ∨ 0 < c ∨ 0 < d := by omega
  generalize a % 2 = a0 at *
  generalize a / 2 % 2 = a1 at *
  generalize a / 4 % 2 = a2 at *
  generalize b % 2 = b0 at *
  generalize b / 2 % 2 = b1 at *
  generalize b / 4 % 2 = b2 at *
  generalize c % 2 = c0 at *
  generalize c / 2 % 2 = c1 at *
  generalize c / 4 % 2 = c2 at *
  generalize d % 2 = d0 at *
  generalize d / 2 % 2 = d1 at *
  generalize d / 4 % 2 = d2 at *
  have hs : 1 ≤ a0 + b0 + c0 + d0 ∨ 1 ≤ a1 + b1 + c1 + d1 ∨ 1 ≤ a2 + b2 + c2 + d2 := by
    rcases hne with h | h | h | h
    · have := pa h; omega
    · have := pb h; omega
    · have := pc h; omega
    · have := pd h; omega
  rcases hs with h | h | h
  · have := k0 h; omega
  · have := k1 h; omega
  · have := k2 h; omega
/-- one place: two counts that are level and so near are one, bit by bit -/
theorem place_eq {most : Int} {x0 x1 x2 x3 y0 y1 y2 y3 t0 t1 t2 t3 : Int} (hm : 1 ≤ most ∧ most ≤ 3) (hx : (x0 + x1 + x2 + x3).fmod (most + 1) = 0) (hy : (y0 + y1 + y2 + y3).fmod (most + 1) = 0) (ht : t0 + t1 + t2 + t3 ≤ most)
    (h0 : y0 ≤ x0 ∧ x0 ≤ y0 + t0) (h1 : y1 ≤ x1 ∧ x1 ≤ y1 + t1) (h2 : y2 ≤ x2 ∧ x2 ≤ y2 + t2) (h3 : y3 ≤ x3 ∧ x3 ≤ y3 + t3) : x0 = y0 ∧ x1 = y1 ∧ x2 = y2 ∧ x3 = y3 := by
  rw [Int.fmod_eq_emod_of_nonneg _ (by omega)] at hx hy
  have hd : most + 1 ∣ (x0 + x1 + x2 + x3) - (y0 + y1 + y2 + y3) := Int.dvd_sub (Int.dvd_of_emod_eq_zero hx) (Int.dvd_of_emod_eq_zero hy)
  rcases Int.lt_or_le 0 ((x0 + x1 + x2 + x3) - (y0 + y1 + y2 + y3)) with h | h
  · have := Int.le_of_dvd h hd
    omega
  · omega
theorem bits_of {x y t : Int} (hx : 0 ≤ x ∧ x ≤ 7) (hy : 0 ≤ y ∧ y ≤ 7) (ht : (t = 1 ∧ y < x) ∨ (t = 0 ∧ y = x)) :
    (y / 4 % 2 ≤ x / 4 % 2 ∧ x / 4 % 2 ≤ y / 4 % 2 + t) ∧ (x / 4 % 2 = y / 4 % 2 → (y / 2 % 2 ≤ x / 2 % 2 ∧ x / 2 % 2 ≤ y / 2 % 2 + t) ∧ (x / 2 % 2 = y / 2 % 2 → (y % 2 ≤ x % 2 ∧ x % 2 ≤ y % 2 + t) ∧ (x % 2 = y % 2 → t = 0))) := by
  rcases ht with ⟨rfl, h⟩ | ⟨rfl, rfl⟩
  · refine ⟨by omega, fun h2 => ⟨by omega, fun h1 => ⟨by omega, fun h0 => by omega⟩⟩⟩
  · exact ⟨by omega, fun _ => ⟨by omega, fun _ => ⟨by omega, fun _ => rfl⟩⟩⟩
/-- a drawn move from a level leaves none -/
theorem lev_move {most : Int} {x0 x1 x2 x3 y0 y1 y2 y3 t0 t1 t2 t3 : Int} (hm : 1 ≤ most ∧ most ≤ 3) (hx0 : 0 ≤ x0 ∧ x0 ≤ 7) (hx1 : 0 ≤ x1 ∧ x1 ≤ 7) (hx2 : 0 ≤ x2 ∧ x2 ≤ 7) (hx3 : 0 ≤ x3 ∧ x3 ≤ 7) (hy0 : 0 ≤ y0 ∧ y0 ≤ 7) (hy1 : 0 ≤ y1 ∧ y1 ≤ 7) (hy2 : 0 ≤ y2 ∧ y2 ≤ 7) (hy3 : 0 ≤ y3 ∧ y3 ≤ 7)
    (h0 : (t0 = 1 ∧ y0 < x0) ∨ (t0 = 0 ∧ y0 = x0)) (h1 : (t1 = 1 ∧ y1 < x1) ∨ (t1 = 0 ∧ y1 = x1)) (h2 : (t2 = 1 ∧ y2 < x2) ∨ (t2 = 0 ∧ y2 = x2)) (h3 : (t3 = 1 ∧ y3 < x3) ∨ (t3 = 0 ∧ y3 = x3)) (ht : t0 + t1 + t2 + t3 ≤ most) (ht1 : 1 ≤ t0 + t1 + t2 + t3)
    (hl : levF most [x0, x1, x2, x3] = true) : levF most [y0, y1, y2, y3] = false := by
  refine Bool.eq_false_iff.mpr fun hl' => ?_
  obtain ⟨k0, k1, k2⟩ := lev_at hl
  obtain ⟨m0, m1, m2⟩ := lev_at hl'
  rw [b0] at k0 m0
  rw [b1] at k1 m1
  rw [b2] at k2 m2
  obtain ⟨p0, q0⟩ := bits_of hx0 hy0 h0
  obtain ⟨p1, q1⟩ := bits_of hx1 hy1 h1
  obtain ⟨p2, q2⟩ := bits_of hx2 hy2 h2
  obtain ⟨p3, q3⟩ := bits_of hx3 hy3 h3
  obtain ⟨e0, e1, e2, e3⟩ := place_eq hm k2 m2 ht p0 p1 p2 p3
  obtain ⟨p0, q0⟩ := q0 e0
  obtain ⟨p1, q1⟩ := q1 e1
  obtain ⟨p2, q2⟩ := q2 e2
  obtain ⟨p3, q3⟩ := q3 e3
  obtain ⟨e0, e1, e2, e3⟩ := place_eq hm k1 m1 ht p0 p1 p2 p3
  obtain ⟨p0, q0⟩ := q0 e0
  obtain ⟨p1, q1⟩ := q1 e1
  obtain ⟨p2, q2⟩ := q2 e2
  obtain ⟨p3, q3⟩ := q3 e3
  obtain ⟨e0, e1, e2, e3⟩ := place_eq hm k0 m0 ht p0 p1 p2 p3
  have := q0 e0
  have := q1 e1
  have := q2 e2
  have := q3 e3
  omega
theorem in_le {ts : List Int} (hb : ∀ t ∈ ts, 0 ≤ t ∧ t < 4) (hl : 1 ≤ ts.length) : 1 ≤ one ((0 : Int) ∈ ts) + one ((1 : Int) ∈ ts) + one ((2 : Int) ∈ ts) + one ((3 : Int) ∈ ts) := by
  match ts, hl with
  | a :: r, _ =>
    have := hb a (.head _)
    have h4 : a = 0 ∨ a = 1 ∨ a = 2 ∨ a = 3 := by omega
    rcases h4 with rfl | rfl | rfl | rfl <;> simp [one] <;> omega
/-- what the drawn moves leave -/
theorem ot_end_law {hs0 : List Int} {i T : Nat} {c : OtC} {most : Int} (h : OtP hs0 i T c) (hm : 1 ≤ most ∧ most ≤ 3) (h1 : 1 ≤ i) (h2 : (i : Int) ≤ most) (h4 : hs0.length = 4) (hb : ∀ a ∈ hs0, 0 ≤ a ∧ a ≤ 7) (hl : levF most hs0 = true) : levF most c.hs = false ∧ c.hs.sum + 1 ≤ hs0.sum := by
  have c4 := h.l4
  have cb := h.bd
  have hlo := h.lo
  have hun := h.un
  have htl := h.tl
  have htb := h.tb
  obtain ⟨hvs, m, hs, rvs, n, row, tvs, tn, ts, seed, st⟩ := c
  dsimp only at c4 cb hlo hun htl htb ⊢
  match hs0, h4, hs, c4 with
  | [x0, x1, x2, x3], _, [y0, y1, y2, y3], _ =>
    have key : ∀ k : Nat, k < 4 → (((one ((k : Int) ∈ ts) : Nat) : Int) = 1 ∧ [y0, y1, y2, y3].getD k 0 < [x0, x1, x2, x3].getD k 0) ∨ (((one ((k : Int) ∈ ts) : Nat) : Int) = 0 ∧ [y0, y1, y2, y3].getD k 0 = [x0, x1, x2, x3].getD k 0) := fun k hk => by
      unfold one
      by_cases hmem : (k : Int) ∈ ts
      · rw [if_pos hmem]; exact .inl ⟨rfl, hlo k hk hmem⟩
      · rw [if_neg hmem]; exact .inr ⟨rfl, hun k hk hmem⟩
    have k0 := key 0 (by decide)
    have k1 := key 1 (by decide)
    have k2 := key 2 (by decide)
    have k3 := key 3 (by decide)
    have hc := in_count ts
    have hg := in_le htb (by omega)
    have g0 : ((0 : Nat) : Int) = 0 := rfl
    have g1 : ((1 : Nat) : Int) = 1 := rfl
    have g2 : ((2 : Nat) : Int) = 2 := rfl
    have g3 : ((3 : Nat) : Int) = 3 := rfl
    rw [g0] at k0; rw [g1] at k1; rw [g2] at k2; rw [g3] at k3
    refine ⟨lev_move hm (hb x0 (by simp)) (hb x1 (by simp)) (hb x2 (by simp)) (hb x3 (by simp)) (cb y0 (by simp)) (cb y1 (by simp)) (cb y2 (by simp)) (cb y3 (by simp)) k0 k1 k2 k3 (by omega) (by omega) hl, ?_⟩
    have e0 : ([y0, y1, y2, y3] : List Int).getD 0 0 = y0 := rfl
    have e1 : ([y0, y1, y2, y3] : List Int).getD 1 0 = y1 := rfl
    have e2 : ([y0, y1, y2, y3] : List Int).getD 2 0 = y2 := rfl
    have e3 : ([y0, y1, y2, y3] : List Int).getD 3 0 = y3 := rfl
    have f0 : ([x0, x1, x2, x3] : List Int).getD 0 0 = x0 := rfl
    have f1 : ([x0, x1, x2, x3] : List Int).getD 1 0 = x1 := rfl
    have f2 : ([x0, x1, x2, x3] : List Int).getD 2 0 = x2 := rfl
    have f3 : ([x0, x1, x2, x3] : List Int).getD 3 0 = x3 := rfl
    rw [e0, f0] at k0; rw [e1, f1] at k1; rw [e2, f2] at k2; rw [e3, f3] at k3
    simp only [List.sum_cons, List.sum_nil]
    omega
-- the answer's end
theorem row_four {row : List Int} (h4 : row.length = 4) (hs : Sorted row) : ∃ a b c d, row = [a, b, c, d] ∧ a ≤ b ∧ b ≤ c ∧ c ≤ d := by
  match row, h4 with
  | [a, b, c, d], _ =>
    have h1 := List.pairwise_cons.mp hs
    have h2 := List.pairwise_cons.mp h1.2
    have h3 := List.pairwise_cons.mp h2.2
    exact ⟨a, b, c, d, rfl, h1.1 b (by simp), h2.1 c (by simp), h3.1 d (by simp)⟩
theorem ans_law {most : Int} {row : List Int} (hm : 1 ≤ most ∧ most ≤ 3) (h4 : row.length = 4) (hs : Sorted row) (hb : ∀ a ∈ row, 0 ≤ a ∧ a ≤ 7) (hl : levF most row = false) :
    AnsOk most row (cntF row) ∧ 1 ≤ (ansF most row 3).2.1.length ∧ (ansF most row 3).2.1.length ≤ 4 ∧ takesOk (ansF most row 3).2.1 row = true ∧ levF most (takesF (ansF most row 3).2.1 row) = true := by
  obtain ⟨a, b, c, d, rfl, hab, hbc, hcd⟩ := row_four h4 hs
  have h := chk_all hm (hb a (by simp)).1 hab hbc hcd (hb d (by simp)).2
  generalize ([a, b, c, d] : List Int) = row at *
  unfold chk at h
  rw [hl, Bool.false_or] at h
  simp only [Bool.and_eq_true, decide_eq_true_eq] at h
  obtain ⟨⟨⟨⟨h1, h2⟩, h3⟩, h5⟩, h6⟩ := h
  refine ⟨?_, h2, h3, h5, h6⟩
  unfold ansOkB at h1
  simp only [Bool.and_eq_true] at h1
  obtain ⟨⟨⟨g2, g1⟩, g0⟩, g⟩ := h1
  refine ⟨fun i hi => ?_, g⟩
  have hi3 : i = 0 ∨ i = 1 ∨ i = 2 := by omega
  rcases hi3 with rfl | rfl | rfl
  · exact g2
  · exact g1
  · exact g0
theorem takes_at : ∀ {ps : List (Int × Int)} {row : List Int} {i : Nat} {q : Int × Int}, takesOk ps row = true → ps[i]? = some q → q.1 ∈ takesF (ps.take i) row ∧ q.2 < q.1 ∧ 0 ≤ q.2 ∧ takesF (ps.take (i + 1)) row = takeF (takesF (ps.take i) row) q.1 q.2
  | p :: r, row, 0, q, h, hq => by
    have e : p = q := by simpa using hq
    subst e
    unfold takesOk at h
    simp only [Bool.and_eq_true, decide_eq_true_eq] at h
    exact ⟨by simpa [takesF] using h.1.1.1, h.1.1.2, h.1.2, rfl⟩
  | p :: r, row, i + 1, q, h, hq => by
    unfold takesOk at h
    simp only [Bool.and_eq_true, decide_eq_true_eq] at h
    have hq' : r[i]? = some q := by simpa using hq
    exact takes_at (row := takeF row p.1 p.2) h.2 hq'
end Mine
namespace Mine
/-- what holds within the loop that plays the answer -/
structure HdP (qs : List (Int × Int)) (V : List Value) (row0 : List Int) (s0 : Int) (i T : Nat) (c : LwC) : Prop where
  hI : IntsAre c.hvs c.hs
  rI : IntsAre c.rvs c.row
  l4 : c.hs.length = 4
  bd : ∀ a ∈ c.hs, 0 ≤ a ∧ a ≤ 7
  so : Sorted c.row
  pm : c.row.Perm c.hs
  t2 : 2 ≤ T
  tk : TkOk V T
  sb : ∀ v ∈ c.hvs ++ c.rvs, v ∈ V
  re : c.row = takesF (qs.take i) row0
  sm : c.hs.sum + (i : Int) ≤ s0
theorem HdP.up {qs : List (Int × Int)} {V : List Value} {row0 : List Int} {s0 : Int} {i T T' : Nat} {c : LwC} (h : HdP qs V row0 s0 i T c) (hT : T ≤ T') : HdP qs V row0 s0 i T' c := { h with t2 := Nat.le_trans h.t2 hT, tk := h.tk.up hT }
theorem sum_set : ∀ {l : List Int} {k : Nat} {v : Int}, k < l.length → (l.set k v).sum = l.sum - l.getD k 0 + v
  | a :: r, 0, v, _ => by
    show v + r.sum = a + r.sum - a + v
    omega
  | a :: r, k + 1, v, h => by
    have := sum_set (l := r) (k := k) (v := v) (by simpa using h)
    show a + (r.set k v).sum = a + r.sum - r.getD k 0 + v
    omega
theorem hd_start {qs : List (Int × Int)} {V : List Value} {most : Int} {i T T' : Nat} {c : LwC} (h : LwP most i T c) (hV : TkOk V T') (h2 : 2 ≤ T') (hs : ∀ v ∈ c.hvs ++ c.rvs, v ∈ V) : HdP qs V c.row c.hs.sum 0 T' c :=
  ⟨h.hI, h.rI, h.l4, h.bd, h.so, h.pm, h2, hV, hs, rfl, by omega⟩
theorem hd_step {qs : List (Int × Int)} {V : List Value} {row0 : List Int} {s0 : Int} {i T T' : Nat} {c : LwC} {q : Int × Int} {k : Int} {u : Tok} {rvs' hvs' : List Value} {n' m' : Nat} (h : HdP qs V row0 s0 i T c) (hok : takesOk qs row0 = true) (hq : qs[i]? = some q) (hk : 0 ≤ k ∧ k < 4) (hkq : c.hs.getD k.toNat 0 = q.1) (hu : Value.int q.2 u ∈ V) (hT : T ≤ T')
    (hrI : IntsAre rvs' (ins (c.row.eraseIdx (bl c.row (c.hs.getD k.toNat 0))) (br (c.row.eraseIdx (bl c.row (c.hs.getD k.toNat 0))) q.2) q.2)) (hhI : IntsAre hvs' (c.hs.set k.toNat q.2)) (hr : ∀ v ∈ rvs', v = .int q.2 u ∨ v ∈ c.rvs) (hh : ∀ v ∈ hvs', v = .int q.2 u ∨ v ∈ c.hvs) :
    HdP qs V row0 s0 (i + 1) T' ⟨hvs', m', c.hs.set k.toNat q.2, rvs', n', ins (c.row.eraseIdx (bl c.row (c.hs.getD k.toNat 0))) (br (c.row.eraseIdx (bl c.row (c.hs.getD k.toNat 0))) q.2) q.2⟩ := by
  obtain ⟨_, h1, h2, h3⟩ := takes_at hok hq
  have hl4 := h.l4
  have hkl : k.toNat < c.hs.length := by omega
  obtain ⟨_, ks, kp⟩ := take_keeps (left := q.2) h.so h.pm hkl
  have hb7 : c.hs.getD k.toNat 0 ≤ 7 := by
    rw [List.getD_eq_getElem?_getD, List.getElem?_eq_getElem hkl]
    exact (h.bd _ (List.getElem_mem hkl)).2
  refine ⟨hhI, hrI, by rw [List.length_set]; exact hl4, fun a ha => ?_, ks, kp, Nat.le_trans h.t2 hT, h.tk.up hT, fun v hv => ?_, ?_, ?_⟩
  · rcases List.mem_or_eq_of_mem_set ha with ha | rfl
    · exact h.bd a ha
    · omega
  · rcases List.mem_append.mp hv with hv | hv
    · rcases hh v hv with rfl | hv
      · exact hu
      · exact h.sb v (List.mem_append_left _ hv)
    · rcases hr v hv with rfl | hv
      · exact hu
      · exact h.sb v (List.mem_append_right _ hv)
  · show ins _ _ _ = _
    rw [h3, ← h.re, hkq]
    exact (takeF_eq _ _ _).symm
  · show (c.hs.set k.toNat q.2).sum + ((i + 1 : Nat) : Int) ≤ s0
    rw [sum_set hkl]
    have := h.sm
    omega
section
variable {prog : Program} {w : World} {A : Around} {E : Value → Shared → Prop} {s : Shared} {env : Env} {h₀ : Heap} {target : PySem.Expr} {body : List Stmt} {Q : Flow → Shared → Prop} {m₀ : Str → Option Value}
theorem hd_loop {R H hd : Addr} {vs : List Value} {n : Nat} {rest : Led} {c0 : LwC} {qs : List (Int × Int)} {V : List Value} {row0 : List Int} {s0 : Int}
    (hh : A.handled = none) (hm : (hd, W.listOf vs.toArray n) ∈ rest) (F : Fr h₀ env.locals s.heap m₀) (N : News h₀ env.locals s.heap (lwLed R H rest c0)) (hP : HdP qs V row0 s0 0 s.toks c0)
    (turn : ∀ (c : LwC) (i : Nat) (v : Value) (u : Str → Option Value) (h : Heap) (tk : Nat) (own : Led), vs[i]? = some v → OwnOff own ((lwLed R H rest c).map (·.1)) → HdP qs V row0 s0 i tk c →
      Fr h₀ env.locals h (fun y => if y = "old" then u y else kstB (fun z => if (["new"] : List Str).contains z then u z else m₀ z) [] y) →
      News h₀ env.locals h (lwLed R H rest c ++ own) →
      wpAny (model prog w) A (assign target env v) (fun _ s₂ => wpAny (model prog w) A (execs body env) (TPost h₀ env.locals (fun kk mm nx => KstS (lwLed R H rest) (fun _ => []) (fun _ => True) "old" ["new"] m₀
        (fun _ => HdP qs V row0 s0 (i + 1) kk) [] mm nx) own { s with heap := h, toks := tk } Q) E s₂) E { s with heap := h, toks := tk })
    (done : ∀ (c : LwC) (u : Str → Option Value) h tk, HdP qs V row0 s0 vs.length tk c → Fr h₀ env.locals h (fun y => if y = "old" then u y else kstB (fun z => if (["new"] : List Str).contains z then u z else m₀ z) [] y) →
      News h₀ env.locals h (lwLed R H rest c) → Q .next { s with heap := h, toks := tk })
    (hE : PassesOwn (model prog w) A env E := by passes_own) :
    wpAny (model prog w) A (pyIter (.ref hd)) (fun it s₂ => ForAt prog w A env target body Q E it s₂) E s :=
  tT_list (σ := LwC) "old" (lwLed R H rest) (fun _ => []) ["new"] (fun i T c => HdP qs V row0 s0 i T c) (fun _ _ _ _ h h' => HdP.up h' h) c0 (fun _ => .tail _ (.tail _ hm)) hh F N (fun _ h => nomatch h) hP turn done hE
end
/-- the end of a whole turn: what the drawn moves leave is the next turn's -/
theorem lw_next {most : Int} {i j T : Nat} {hs0 : List Int} {c : OtC} (h : OtP hs0 j T c) (hm : 1 ≤ most ∧ most ≤ 3) (h1 : 1 ≤ j) (h2 : (j : Int) ≤ most) (h4 : hs0.length = 4) (hb : ∀ a ∈ hs0, 0 ≤ a ∧ a ≤ 7) (hl : levF most hs0 = true) (hsm : hs0.sum + (i : Int) ≤ 28) :
    LwP most (i + 1) T ⟨c.hvs, c.m, c.hs, c.rvs, c.n, c.row⟩ := by
  obtain ⟨k1, k2⟩ := ot_end_law h hm h1 h2 h4 hb hl
  exact ⟨h.hI, h.rI, h.l4, h.bd, h.so, h.pm, h.t2, h.tk, by show c.hs.sum + ((i + 1 : Nat) : Int) ≤ 28; omega, fun _ => k1⟩
theorem hd_news {h₀ h : Heap} {L hd C R H : Addr} {o oc ro ho : Obj} {a b c d : Addr × Obj} {es own : Led} (N : News h₀ L h ((hd, o) :: (es ++ (C, oc) :: (R, ro) :: (H, ho) :: a :: b :: c :: d :: own))) : ∃ tl, es ++ own = tl ∧ News h₀ L h ((R, ro) :: (H, ho) :: a :: b :: c :: d :: (hd, o) :: tl) := by
  refine ⟨_, rfl, ?_⟩
  intro p hp
  refine N p ?_
  simp only [List.mem_cons, List.mem_append] at hp ⊢
  rcases hp with h | h | h | h | h | h | h | h | h
  · exact .inr (.inr (.inr (.inl h)))
  · exact .inr (.inr (.inr (.inr (.inl h))))
  · exact .inr (.inr (.inr (.inr (.inr (.inl h)))))
  · exact .inr (.inr (.inr (.inr (.inr (.inr (.inl h))))))
  · exact .inr (.inr (.inr (.inr (.inr (.inr (.inr (.inl h)))))))
  · exact .inr (.inr (.inr (.inr (.inr (.inr (.inr (.inr (.inl h))))))))
  · exact .inl h
  · exact .inr (.inl h)
  · exact .inr (.inr (.inr (.inr (.inr (.inr (.inr (.inr (.inr h))))))))
theorem hd_mem1 {a b c d x y z : Addr × Obj} {tl : Led} : ∀ p ∈ x :: y :: a :: b :: c :: d :: [], p ∈ x :: y :: a :: b :: c :: d :: z :: tl := by
  intro p hp
  exact List.mem_append_left (bs := z :: tl) hp
theorem hd_mem2 {a b c d x y z : Addr × Obj} {es own tl : Led} (h : es ++ own = tl) : ∀ p ∈ own, p ∈ x :: y :: a :: b :: c :: d :: z :: tl := by
  subst h
  intro p hp
  exact .tail _ (.tail _ (.tail _ (.tail _ (.tail _ (.tail _ (.tail _ (List.mem_append_right _ hp)))))))
theorem hd_off {hd C R H : Addr} {o oc ro ho : Obj} {a b c d : Addr × Obj} {ps : List PC} {own0 own tl own2 : Led} (hpo : ∀ q ∈ ps, ∀ p ∈ (C, oc) :: (R, ro) :: (H, ho) :: own0, p.1 ≠ q.a) (hpn : ∀ p ∈ (C, oc) :: (R, ro) :: (H, ho) :: own0, p.1 ≠ hd) (ho : OwnOff (a :: b :: c :: d :: own) [R, H]) (htl : ps.map PC.ent ++ own = tl)
    (ho2 : OwnOff own2 [R, H]) : OwnOff (a :: b :: c :: d :: (hd, o) :: (tl ++ own2)) [R, H] := by
  subst htl
  intro p hp x hx
  have hx' : x = R ∨ x = H := by simpa using hx
  simp only [List.mem_cons, List.mem_append] at hp
  rcases hp with rfl | rfl | rfl | rfl | rfl | (hp | hp) | hp
  · exact ho _ (.head _) x hx
  · exact ho _ (.tail _ (.head _)) x hx
  · exact ho _ (.tail _ (.tail _ (.head _))) x hx
  · exact ho _ (.tail _ (.tail _ (.tail _ (.head _)))) x hx
  · rcases hx' with rfl | rfl
    · exact Ne.symm (hpn _ (.tail _ (.head _)))
    · exact Ne.symm (hpn _ (.tail _ (.tail _ (.head _))))
  · obtain ⟨q, hq, rfl⟩ := List.mem_map.mp hp
    rcases hx' with rfl | rfl
    · exact Ne.symm (hpo q hq _ (.tail _ (.head _)))
    · exact Ne.symm (hpo q hq _ (.tail _ (.tail _ (.head _))))
  · exact ho p (.tail _ (.tail _ (.tail _ (.tail _ hp)))) x hx
  · exact ho2 p hp x hx
theorem off_two {R H : Addr} {own2 : Led} {r : List Addr} (h : OwnOff own2 (R :: H :: r)) : OwnOff own2 [R, H] := by
  intro p hp x hx
  have hx' : x = R ∨ x = H := by simpa using hx
  rcases hx' with rfl | rfl
  · exact h p hp _ (.head _)
  · exact h p hp _ (.tail _ (.head _))
theorem hd_off0 {hd C R H : Addr} {o oc ro ho : Obj} {a b c d : Addr × Obj} {ps : List PC} {own0 own tl : Led} (hpo : ∀ q ∈ ps, ∀ p ∈ (C, oc) :: (R, ro) :: (H, ho) :: own0, p.1 ≠ q.a) (hpn : ∀ p ∈ (C, oc) :: (R, ro) :: (H, ho) :: own0, p.1 ≠ hd) (ho : OwnOff (a :: b :: c :: d :: own) [R, H]) (htl : ps.map PC.ent ++ own = tl) :
    OwnOff (a :: b :: c :: d :: (hd, o) :: tl) [R, H] := by
  have h := hd_off (o := o) (own2 := []) hpo hpn ho htl (fun _ h => nomatch h)
  rwa [List.append_nil] at h
theorem one_new {z : Str} (h : z ≠ "new") : (["new"] : List Str).contains z = false := by
  simp only [List.contains_cons, List.contains_nil, Bool.or_false, beq_eq_false_iff_ne]
  exact h
theorem hd_sum {qs : List (Int × Int)} {V : List Value} {row0 : List Int} {most s0 : Int} {i j T T' : Nat} {c c0 : LwC} (h : HdP qs V row0 s0 j T c) (h0 : LwP most i T' c0) (e : s0 = c0.hs.sum) : c.hs.sum + (i : Int) ≤ 28 := by
  have := h.sm
  have := h0.sm
  omega
theorem pv_mem {ps : List PC} {q : PC} (h : q ∈ ps) : Value.int q.o q.to ∈ pvals ps ∧ Value.int q.x q.tx ∈ pvals ps :=
  ⟨List.mem_flatMap.mpr ⟨q, h, .head _⟩, List.mem_flatMap.mpr ⟨q, h, .tail _ (.head _)⟩⟩
theorem pints_at {ps : List PC} {qs : List (Int × Int)} {i : Nat} {q : PC} (h : ps[i]? = some q) (hpi : pints ps = qs) : qs[i]? = some (q.o, q.x) := by
  subst hpi
  unfold pints
  rw [List.getElem?_map, h]
  rfl
end Mine
namespace Mine
theorem mem_left {a b : Led} {p : Addr × Obj} (h : p ∈ a) : p ∈ a ++ b := List.mem_append_left _ h
theorem mem_right {a b : Led} {p : Addr × Obj} (h : p ∈ b) : p ∈ a ++ b := List.mem_append_right _ h
theorem lw_start {most : Int} {hvs : List Value} {hs : List Int} {m : Nat} {T T' : Nat} {c : InC} (h : InP hvs hs hvs.length T c) (hI : IntsAre hvs hs) (h4 : hs.length = 4) (hb : ∀ x ∈ hs, 0 ≤ x ∧ x ≤ 7) (hT : T ≤ T') : LwP most 0 T' ⟨hvs, m, hs, c.rvs, c.n, c.row⟩ := by
  have hl := hI.length
  refine ⟨hI, h.rI, h4, hb, h.so, ?_, Nat.le_trans h.t2 hT, (h.tk.up hT).sub fun v hv => ?_, ?_, fun h => absurd h (Nat.lt_irrefl 0)⟩
  · have := h.pm
    rwa [List.take_of_length_le (by omega)] at this
  · rcases List.mem_append.mp hv with hv | hv
    · exact hv
    · exact h.sb v hv
  · match hs, h4 with
    | [a, b, c, d], _ =>
      have := hb a (by simp)
      have := hb b (by simp)
      have := hb c (by simp)
      have := hb d (by simp)
      simp only [List.sum_cons, List.sum_nil]
      omega
theorem mo_bd {l : List Int} (_h : l.length = 11) : 1 ≤ 1 + (l.getD (Int.toNat 0) 0).fmod 3 ∧ 1 + (l.getD (Int.toNat 0) 0).fmod 3 ≤ 3 := by
  have := fmod_bd (a := l.getD (Int.toNat 0) 0) (b := 3) (by decide)
  omega
theorem four {l : List Int} (h : l.length = 4) : ∃ a b c d, l = [a, b, c, d] := by
  match l, h with
  | [a, b, c, d], _ => exact ⟨a, b, c, d, rfl⟩
theorem bc_one (p : Nat) (a : Int) : Int.fmod (Int.fdiv a (2 ^ p)) 2 = a / 2 ^ p % 2 := by
  rw [Int.fmod_eq_emod_of_nonneg _ (by decide), Int.fdiv_eq_ediv_of_nonneg _ (Int.le_of_lt (Int.pow_pos (by decide)))]
theorem bc_sum (p : Nat) (a1 a2 a3 a4 : Int) : (List.map (fun k' : Int => Int.fmod (Int.fdiv k' (2 ^ p)) 2) [a1, a2, a3, a4]).sum = bitc p a1 a2 a3 a4 := by
  simp only [List.map_cons, List.map_nil, List.sum_cons, List.sum_nil, bc_one]
  unfold bitc
  omega
theorem bc_at {j : Nat} {v a1 a2 a3 a4 : Int} (h : j < 3) (e : (2:Int) ^ ((j:Int)).toNat = v) : ([bitc 0 a1 a2 a3 a4, bitc 1 a1 a2 a3 a4, bitc 2 a1 a2 a3 a4] : List Int)[j]? = some (List.map (fun k' : Int => Int.fmod (Int.fdiv k' v) 2) [a1, a2, a3, a4]).sum := by
  subst e
  have hj3 : j = 0 ∨ j = 1 ∨ j = 2 := by omega
  rcases hj3 with rfl | rfl | rfl
  · exact congrArg some (bc_sum 0 a1 a2 a3 a4).symm
  · exact congrArg some (bc_sum 1 a1 a2 a3 a4).symm
  · exact congrArg some (bc_sum 2 a1 a2 a3 a4).symm
theorem bc_add {cs : List Int} {j : Nat} {ys : List Value} {S : Int} {t : Tok} (h : IntsAre ys (cs.take j)) (hx : cs[j]? = some S) : IntsAre (ys ++ [.int S t]) (cs.take (j + 1)) := by
  rw [List.take_add_one, hx]; exact h.append (.cons _ _ .nil)
theorem offs_dec (most a b c d : Int) : decide (offs most [bitc 0 a b c d, bitc 1 a b c d, bitc 2 a b c d] = []) = levF most [a, b, c, d] := by
  rw [← cnt_bitc]
  cases h : levF most [a, b, c, d] with
  | true => exact decide_eq_true (offs_lev.mpr h)
  | false => exact decide_eq_false fun e => by rw [offs_lev.mp e] at h; cases h
theorem tst_dec {prog : Program} {w : World} {A : Around} {h₀ : Heap} {L : Addr} {m : Str → Option Value} {s₁ s₂ : Shared} {all : Led} {K : List Value → Prop} {ys : List Value} {env' : Env} {elt : PySem.Expr} {E' : Value → Shared → Prop} {b : Bool}
    (hf : b = false → TstEnd prog w A h₀ L m s₁ all K ys env' elt E' false s₂) (ht : b = true → TstEnd prog w A h₀ L m s₁ all K ys env' elt E' true s₂) : TstEnd prog w A h₀ L m s₁ all K ys env' elt E' b s₂ := by
  cases b
  · exact hf rfl
  · exact ht rfl
theorem lw_off {a b c d R H : Addr} {o1 o2 o3 o4 p1 p2 p3 p4 : Obj} {own : Led} (h9 : H < R ∧ a < R ∧ b < R ∧ c < R ∧ d < R) (h8 : ∀ p ∈ ([(a, p1), (b, p2), (c, p3), (d, p4)] : Led), p.1 ≠ H) (ho : OwnOff own [R, H, a, b, c, d]) :
    OwnOff ((a, o1) :: (b, o2) :: (c, o3) :: (d, o4) :: own) [R, H] ∧ R ≠ H := by
  have h9' : @LT.lt Nat _ H R ∧ @LT.lt Nat _ a R ∧ @LT.lt Nat _ b R ∧ @LT.lt Nat _ c R ∧ @LT.lt Nat _ d R := h9
  refine ⟨fun p hp b' hb' => ?_, neN (by omega)⟩
  have hb'' : b' = R ∨ b' = H := by simpa using hb'
  simp only [List.mem_cons] at hp
  rcases hp with rfl | rfl | rfl | rfl | hp
  · rcases hb'' with rfl | rfl
    · exact Nat.ne_of_lt h9'.2.1
    · exact h8 (a, p1) (.head _)
  · rcases hb'' with rfl | rfl
    · exact Nat.ne_of_lt h9'.2.2.1
    · exact h8 (b, p2) (.tail _ (.head _))
  · rcases hb'' with rfl | rfl
    · exact Nat.ne_of_lt h9'.2.2.2.1
    · exact h8 (c, p3) (.tail _ (.tail _ (.head _)))
  · rcases hb'' with rfl | rfl
    · exact Nat.ne_of_lt h9'.2.2.2.2
    · exact h8 (d, p4) (.tail _ (.tail _ (.tail _ (.head _))))
  · rcases hb'' with rfl | rfl
    · exact ho p hp _ (.head _)
    · exact ho p hp _ (.tail _ (.head _))
theorem getD_nn {l : List Int} {k : Nat} (h : ∀ d ∈ l, (0:Int) ≤ d) : 0 ≤ l.getD k 0 := by
  rw [List.getD_eq_getElem?_getD]
  cases e : l[k]? with
  | none => exact Int.le_refl 0
  | some x => exact h x (List.mem_of_getElem? e)
theorem last_pos {row : List Int} {k : Nat} {a b c d : Int} (hp : row.Perm [a, b, c, d]) (h : row.getD k 0 ≠ 0) (ha : 0 ≤ a ∧ a ≤ 7) (hb : 0 ≤ b ∧ b ≤ 7) (hc : 0 ≤ c ∧ c ≤ 7) (hd : 0 ≤ d ∧ d ≤ 7) : 0 < a + b + c + d := by
  rw [List.getD_eq_getElem?_getD] at h
  cases e : row[k]? with
  | none => rw [e] at h; exact absurd rfl h
  | some x =>
    rw [e] at h
    have hm := hp.mem_iff.mp (List.mem_of_getElem? e)
    have hx : x ≠ 0 := h
    simp only [List.mem_cons, List.not_mem_nil, or_false] at hm
    omega
theorem lwstored {z : Str} (h : lwS.contains z = false) : z ≠ "counts" ∧ z ≠ "level" ∧ z ≠ "held" ∧ z ≠ "old" ∧ z ≠ "new" := by
  refine ⟨?_, ?_, ?_, ?_, ?_⟩ <;> (intro e; rw [e] at h; exact absurd h (by decide))
theorem nnew {z : Str} (h : (["new"] : List Str).contains z = false) : z ≠ "new" := by
  intro e; rw [e] at h; exact absurd h (by decide)
theorem law_holds : PySem.Challenge.rw_sw0071_01.Holds := by
  k_with_none
  (k_with "exec For Name Name cons nil" => ((k_here; k_dflt (refine' For_T ?_))))
  (k_with "exec For Tuple Name cons nil" => ((k_here; k_dflt (refine' For_T ?_))))
  (k_with "call builtin:len" => ((k_here; (with_reducible show wpAny _ _ (call (Value.builtin "len") [Value.ref _]) _ _ _); k_dflt (first
  | (refine' len_vals ?wq_k1 ?wq_k2 (len_refs _) ?wq_k4 ?_; (case wq_k1 => k_asm); (case wq_k2 => k_mem); (case wq_k4 => omega))))))
  (k_with "TPost" => (dsimp only [TPost]))
  (k_with "execs cons" => ((k_here; first | (with_reducible refine gen_toks ?_; intro tk' htk'; (try dsimp only at htk')) | ((with_reducible show wpAny _ _ _ _ _ (Shared.mk _ _ _ (Shared.toks _) _)); dsimp only))))
  (k_with "execs nil" => ((k_here; first | (with_reducible refine gen_toks ?_; intro tk' htk'; (try dsimp only at htk')) | ((with_reducible show wpAny _ _ _ _ _ (Shared.mk _ _ _ (Shared.toks _) _)); dsimp only))))
  refine _root_.Mine.hd ?_
  k_go0
  k_fold
  (repeat ((fail_if_success (first | with_reducible show wpAny _ _ (pyIter (Value.ref _)) _ _ _)); walk_at "mine step"))
  (k_with "state" => first | exact dr_turn (by assumption) (by assumption) | exact by decide)
  k_state (fun _ draws => draws.length = 11 ∧ ∀ d ∈ draws, (0:Int) ≤ d) "draws"
  (repeat ((fail_if_success (first | with_reducible show wpAny _ _ (eval (PySem.Expr.ListComp ..) _) _ _ _)); walk_at "mine step"))
  refine wpAny_grow (comp_T (x := "draw") (F₀ := by k_asm) (by with_unfolding_all rfl) (by decide) (by rfl) (by decide) (by rfl) ?_)
  (repeat ((fail_if_success (first | with_reducible show CSrcT ..)); walk_at "mine step"))
  rename Fr _ _ _ _ => F8
  rename News _ _ _ _ => N8
  rename IntsAre _ (List.take _ _) => hI8
  rename List.length (List.take _ _) = _ => hC8
  refine ⟨_, _, _, _, rfl, rfl, F8, N8, .head _, (by rw [hI8.length, hC8]; omega), KHp, ?K0, (fun k k' ys => KHp.up), ?el, ?fin⟩
  case K0 => exact ⟨by dsimp only; omega, ⟨[], .nil, fun _ h => nomatch h⟩, ⟨fun _ h => (nomatch h), fun _ _ _ h => (nomatch h)⟩⟩
  case el =>
    clear F8 N8
    intro j v ys I oI C oC D m₂ h8 tk8 E' hv8 hyl hK hns hm₂ F8 N8 off8 ne8
    obtain ⟨q, t0, rfl, hqm⟩ := IntsAre.at hI8 _ _ hv8
    have hfm := fmod_bd (a := q) (b := 8) (by decide)
    k_steps
    exact el_end (by assumption) (by assumption) (hK.add (by omega) (by dsimp only; omega) (by first | omega | exact Nat.lt_succ_self _))
  case fin =>
    clear F8 N8
    intro D8 h8 tk8 ys hK hyl F8 N8 off8 hgr
    dsimp only at hgr
    rw [hI8.length, hC8] at hyl
    (repeat ((fail_if_success (first | with_reducible show wpAny _ _ (pyIter _) _ _ _)); walk_at "mine step"))
    rename Fr _ _ _ _ => F9
    rename News _ _ _ _ => N9
    obtain ⟨hk2, ⟨hs, hhI, hbd⟩, hkT⟩ := hK
    have hhl := hhI.length
    have hh4 : hs.length = 4 := by omega
    rename Obj => oc2
    rename _ = Data.cell (some (Value.ref D8)) => dc2
    rename _ = Data.cell (some (Value.int _ _)) => dc1
    dsimp only [List.cons_append, List.nil_append] at N9
    rename ∀ p : Addr × Obj, p ∈ _ ++ _ → _ => hl9
    dsimp only [List.cons_append, List.nil_append] at hl9
    k_lt hl9
    refine in_loop (m := _) (hs := hs) (rest := _ :: _ :: _ :: _ :: []) (c0 := ⟨[], 0, []⟩) rfl F9 N9 ?hP ?turn ?done
    case hP => exact ⟨.nil, .nil, .nil, fun _ h => (nomatch h), by dsimp only; omega, hkT.up (by dsimp only; omega)⟩
    case turn =>
      clear F9 N9
      intro c i v u9 h9 tk9 own hv hoff hP F9 N9
      dsimp only [inLed, kstB] at *
      dsimp only [List.cons_append, List.nil_append] at N9
      generalize hPQ : TPost _ _ _ _ _ _ = PQ
      obtain ⟨x, t0, rfl, hx⟩ := IntsAre.at hhI _ _ hv
      have hrl : c.row.length ≤ 4 := by rw [hP.pm.length_eq, List.length_take]; omega
      have hso := hP.so
      have hrI := hP.rI
      (try simp only [List.map_cons, List.map_nil] at hoff)
      (repeat ((fail_if_success (first | with_reducible show wpAny _ _ (call (Value.ref _) ..) _ _ _ | with_reducible show wpAny _ _ (call (Value.ref _) _) _ _ _)); walk_at "mine step"))
      refine' useCg (insort_vals ?hU hrI (by omega) hso) ?k1 ?k2 ?k3 ?k4 ?k5 ?k6 ?k7 ?k8 ?_
      case k4 => k_asm
      case k1 => k_asm
      case k2 => k_asm
      case k3 => k_asm
      case k5 => k_asm
      case k6 => exact rfl
      case k7 => ((try simp only [ktrTop, depth_under_make, depth_under_kw, depth_in1, depth_deeper, depth_caller]); first | omega | decide)
      case k8 => ((try simp only [ktrTop, units_in1, units_deeper, Around.mark_units, units_caller]); first | omega | decide)
      case hU => k_updF
      intro r' n' h' tk' htk' hp' F' N'
      obtain ⟨hp1, rvs', nn', hrI', hrM', hp2⟩ := hp'
      subst hp2
      subst hp1
      (try dsimp only at htk' N')
      (try dsimp only)
      k_steps
      rw [← hPQ]
      dsimp only [TPost]
      rename Fr _ _ _ _ => F7
      rename News _ _ _ _ => N7
      refine tT_end (σ := InC) (Led := inLed _ _ _ _ _) (ps := fun _ => []) (P := fun kk => InP ys hs (i + 1) kk) ⟨rvs', nn', _⟩ F7 N7 (fun p hp => mem_left (b := own) hp) (fun p hp => mem_right (a := _ :: _ :: _ :: _ :: _ :: _ :: []) hp) hoff (fun _ h => nomatch h) ?_ (in_step hP (by omega) hv hx hrI' hrM')
      intro z z1 z2 z3
      simp only [z1, if_false, List.contains_nil, Bool.false_eq_true]
    case done =>
      clear F9 N9
      intro c u9 h9 tk9 hP F9 N9
      dsimp only [inLed, kstB] at *
      have hrl : c.row.length = 4 := by rw [hP.pm.length_eq, List.length_take]; omega
      have hst := fun (most : Int) (T' : Nat) (h : tk9 ≤ T') => lw_start (most := most) (m := ys.length) hP hhI hh4 hbd h
      (repeat ((fail_if_success (first | with_reducible show wpAny _ _ (exec (PySem.Stmt.For ..) _) _ _ _)); walk_at "mine step"))
      refine For_T ?_
      (repeat ((fail_if_success (first | with_reducible show wpAny _ _ (call (Value.type "range") ..) _ _ _ | with_reducible show wpAny _ _ (call (Value.type "range") _) _ _ _)); walk_at "mine step"))
      refine wpAny_grow ?_
      (iterate 1 walk_at "mine step")
      intro hgr9
      dsimp only at hgr9
      (repeat ((fail_if_success (first | with_reducible show wpAny _ _ (pyIter _) _ _ _)); walk_at "mine step"))
      rename Fr _ _ _ _ => F7
      rename News _ _ _ _ => N7
      rename IsRange _ _ _ _ _ _ _ _ => R7
      have hmo : 1 ≤ 1 + (List.getD _ (Int.toNat 0) 0 : Int).fmod 3 ∧ 1 + (List.getD _ (Int.toNat 0) 0 : Int).fmod 3 ≤ 3 := mo_bd (by assumption : List.length _ = 11)
      generalize 1 + (List.getD _ (Int.toNat 0) 0 : Int).fmod 3 = most at *
      refine lw_loop (most := most) (rest := _ :: _ :: _ :: _ :: []) (c0 := ⟨ys, _, hs, c.rvs, c.n, c.row⟩) rfl R7 F7 N7 (hst _ _ (by dsimp only; omega)) ?turn
      clear F7 N7 R7
      intro c i t9 u9 h9 tk9 own hi hoff hP F9 N9
      obtain ⟨hvs, m, hs2, rvs, nr, row⟩ := c
      obtain ⟨a1, a2, a3, a4, hs4⟩ := four hP.l4
      dsimp only at hs4
      subst hs4
      dsimp only [lwLed, kstB] at *
      dsimp only [List.cons_append, List.nil_append] at N9
      (try simp only [List.map_cons, List.map_nil] at hoff)
      generalize hPQ : TPost _ _ _ _ _ _ = PQ
      have hI := hP.hI
      have hrI := hP.rI
      have hb1 := hP.bd a1 (by simp)
      have hb2 := hP.bd a2 (by simp)
      have hb3 := hP.bd a3 (by simp)
      have hb4 := hP.bd a4 (by simp)
      (repeat ((fail_if_success (first | with_reducible show wpAny _ _ (call (Value.ref _) ..) _ _ _ | with_reducible show wpAny _ _ (call (Value.ref _) _) _ _ _)); walk_at "mine step"))
      refine' useCg (counts_spec ?hm hI hb1 hb2 hb3 hb4) ?k1 ?k2 ?k3 ?k4 ?k5 ?k6 ?k7 ?k8 ?_
      case k4 => k_asm
      case k1 => k_asm
      case k2 => k_asm
      case k3 => k_asm
      case k5 => k_asm
      case k6 => exact rfl
      case k7 => ((try simp only [ktrTop, depth_under_make, depth_under_kw, depth_in1, depth_deeper, depth_caller]); first | omega | decide)
      case k8 => ((try simp only [ktrTop, units_in1, units_deeper, Around.mark_units, units_caller]); first | omega | decide)
      case hm => k_mem
      intro r' n' h' tk' htk' hp' F' N'
      obtain ⟨cx, cvs, cn, hp1, hp2, hcI, hcx⟩ := hp'
      subst hp2
      subst hp1
      (try dsimp only at htk' N')
      (try dsimp only)
      (repeat ((fail_if_success (first | with_reducible show wpAny _ _ (call (Value.builtin "sorted") ..) _ _ _ | with_reducible show wpAny _ _ (call (Value.builtin "sorted") _) _ _ _)); walk_at "mine step"))
      refine wpAny_grow ?_
      (iterate 1 walk_at "mine step")
      intro hgrS
      dsimp only at hgrS
      (repeat ((fail_if_success (first | with_reducible show wpAny _ _ (compareOp ..) _ _ _)); walk_at "mine step"))
      rename List.Pairwise (fun x1 x2 => x1 ≤ x2) _ => o'
      rename (List.getD _ _ _ = _ ∨ _) ∧ _ => x1
      clear x1
      rename (List.getD _ _ _ = _ ∨ _) ∧ _ => x1
      clear x1
      rename List.Perm _ _ => p'
      have hse := sorted_eq hP.so o' (hP.pm.trans p'.symm)
      dsimp only at hse
      subst hse

      (repeat ((fail_if_success (first | with_reducible show wpAny _ _ (eval (PySem.Expr.ListComp ..) _) _ _ _)); walk_at "mine step"))
      refine wpAny_grow (comp_X (x := "place") (F₀ := by k_asm) (by with_unfolding_all rfl) (fun _ _ => by rfl) (fun _ => by rfl) (by rfl) (by decide) (by with_unfolding_all rfl) ?_)
      (repeat ((fail_if_success (first | with_reducible show CSrcX ..)); walk_at "mine step"))
      rename Fr _ _ _ _ => F8
      rename News _ _ _ _ => N8
      rename IsRange _ _ _ _ _ _ _ _ => R8
      refine ⟨_, _, _, _, _, _, 3, _, rfl, rfl, F8, N8, R8, by decide, by decide, by decide, (fun i ys => IntsAre ys (([bitc 0 a1 a2 a3 a4, bitc 1 a1 a2 a3 a4, bitc 2 a1 a2 a3 a4] : List Int).take i)), .nil, (fun i ys h => by rw [h.length, List.length_take]; omega), ?turnp, ?finp⟩
      case turnp =>
        clear F8 N8 R8
        intro j t8 ys I oI C oC X oX D m₂ h8 tk8 E' hj hK hns hX F8 N8
        have hjb : (0:Int) ≤ (j:Int) ∧ (j:Int) ≤ 3 := ⟨Int.natCast_nonneg j, by omega⟩
        rw [show (0:Int) + (j:Int) = (j:Int) from Int.zero_add _] at hX
        k_steps
        exact el_end (by assumption) (fun p hp => (by assumption : News _ _ _ _) p (.tail _ hp)) (bc_add hK (bc_at hj rfl))
      case finp =>
        clear F8 N8 R8
        intro D9 h9 tk9 ys9 hK9 F9 N9 off9 hgrX
        dsimp only at hgrX
        replace hK9 : IntsAre ys9 [bitc 0 a1 a2 a3 a4, bitc 1 a1 a2 a3 a4, bitc 2 a1 a2 a3 a4] := hK9
        (repeat ((fail_if_success (first | with_reducible show wpAny _ _ (eval (PySem.Expr.ListComp ..) _) _ _ _)); walk_at "mine step"))
        refine wpAny_grow (comp_L (x := "count") (F₀ := by k_asm) (by with_unfolding_all rfl) (by decide) (by rfl) (by decide) (by rfl) ?_)
        (repeat ((fail_if_success (first | with_reducible show CSrcL ..)); walk_at "mine step"))
        rename Fr _ _ _ _ => F8
        rename News _ _ _ _ => N8
        have hcl := hcI.length
        refine ⟨_, _, _, _, rfl, rfl, F8, N8, .tail _ (.tail _ (.head _)), (by rw [hcl]; exact Nat.le_of_ble_eq_true rfl), (fun i ys => IntsAre ys (offs most (([bitc 0 a1 a2 a3 a4, bitc 1 a1 a2 a3 a4, bitc 2 a1 a2 a3 a4] : List Int).take i))), .nil, (fun i ys h => by rw [h.length]; exact offs_len _ _ _), ?tst, ?fin⟩
        case tst =>
          clear F8 N8
          intro j v8 ys I oI C oC D m₂ h8 tk8 E' hv8 hK hns hm₂ F8 N8 off8 ne8
          obtain ⟨q, t0, rfl, hq⟩ := IntsAre.at hcI _ _ hv8
          k_steps
          refine tst_dec (fun hb => tst_no (by assumption) (by assumption) ?_) fun hb => tst_yes ?_
          · show IntsAre ys (offs most _)
            rw [offs_no hq (by simpa using hb)]; exact hK
          · k_steps
            refine el_end (by assumption) (by assumption) ?_
            show IntsAre _ (offs most _)
            rw [offs_yes hq (by simpa using hb)]; exact hK.append (.cons _ _ .nil)
        case fin =>
          clear F8 N8
          intro D10 h10 tk10 ys10 hK10 F10 N10 off10 hgrL
          dsimp only at hgrL
          rw [List.take_of_length_le (by rw [hcl]; exact Nat.le_refl _)] at hK10
          (repeat ((fail_if_success (first | with_reducible show wpAny _ _ (storeName ..) _ _ _)); walk_at "mine step"))
          rw [offs_dec]
          have hlv := hP.lv
          dsimp only at hlv
          cases hlev : levF most [a1, a2, a3, a4] with
          | true =>
            have hi0 : i = 0 := by
              rcases Nat.eq_zero_or_pos i with h | h
              · exact h
              · rw [hlv h] at hlev; cases hlev
            subst hi0
            (repeat ((fail_if_success (first | with_reducible show wpAny _ _ (compareOp PySem.CmpOp.Eq ..) _ _ _)); walk_at "mine step"))
            (repeat ((fail_if_success (first | with_reducible show @ite _ _ _ _ _)); walk_at "mine step"))
            (iterate 1 walk_at "mine step")
            · k_steps
              dsimp only
              rw [← hPQ]
              dsimp only [TPost]
              k_steps
            · (repeat ((fail_if_success (first | with_reducible show wpAny _ _ (call (Value.ref _) ..) _ _ _ | with_reducible show wpAny _ _ (call (Value.ref _) _) _ _ _)); walk_at "mine step"))
              rename News _ _ _ _ => N7
              rename List.getD row _ _ ≠ 0 => hlast
              refine' useT (other_spec ?hne ?hoff hI hrI hP.l4 hP.bd hP.so hP.pm hmo ?hse ?hpos) ?k1 ?k2 ?k3 ?k4 ?k5 ?k6 ?k7 ?k8 ?k9 ?_
              case k4 => exact fun p hp => N7 p (.tail _ (.tail _ (.tail _ (.tail _ (.tail _ hp)))))
              case k1 => k_asm
              case k2 => k_asm
              case k3 => k_asm
              case k5 => k_asm
              case k6 => exact rfl
              case k7 => ((try simp only [ktrTop, depth_under_make, depth_under_kw, depth_in1, depth_deeper, depth_caller]); first | omega | decide)
              case k8 => ((try simp only [ktrTop, units_in1, units_deeper, Around.mark_units, units_caller]); first | omega | decide)
              case hne => exact (lw_off (o1 := W.listOf #[] 0) (o2 := W.listOf #[] 0) (o3 := W.listOf #[] 0) (o4 := W.listOf #[] 0) hl9 (off1_of off8) hoff).2
              case hoff => exact (lw_off hl9 (off1_of off8) hoff).1
              case hse => exact Int.add_nonneg (getD_nn (by assumption)) (by omega)
              case hpos => exact lev_pos hmo hb1 hb2 hb3 hb4 hlev (last_pos hP.pm hlast hb1 hb2 hb3 hb4)
              case k9 => exact ⟨Nat.le_trans hP.t2 (by dsimp only; omega), hP.tk.up (by dsimp only; omega)⟩
              intro r' n' h' tk' htk' hp' F' N'
              obtain ⟨c', j', hj1, hj2, hOt, hp2⟩ := hp'
              subst hp2
              (try dsimp only at htk' N')
              (try dsimp only)
              k_steps
              rw [← hPQ]
              dsimp only [TPost]
              rename Fr _ _ _ _ => F6
              rename News _ _ _ _ => N6
              refine tT_end (σ := LwC) (Led := lwLed _ _ _) (ps := fun _ => []) (P := fun kk => LwP most (0 + 1) kk) ⟨c'.hvs, c'.m, c'.hs, c'.rvs, c'.n, c'.row⟩ F6 N6 (fun p hp => mem_left (b := own) hp) (fun p hp => mem_right (a := _ :: _ :: _ :: _ :: _ :: _ :: []) hp) hoff (fun _ h => nomatch h) ?_ (LwP.up (lw_next hOt hmo hj1 hj2 hP.l4 hP.bd hlev hP.sm) (by first | omega | (dsimp only; omega)))
              intro z z1 z2 z3
              obtain ⟨y1, y2, y3, y4, y5⟩ := lwstored z3
              simp only [z1, z3, y1, y2, if_false, Bool.false_eq_true]
          | false =>
            have hre := cnt_bitc a1 a2 a3 a4
            have hrb : ∀ a ∈ row, 0 ≤ a ∧ a ≤ 7 := fun a ha => hP.bd a (hP.pm.mem_iff.mp ha)
            have hr4 : row.length = 4 := hP.pm.length_eq.trans hP.l4
            obtain ⟨hok, hq1, hq4, htko, hlt⟩ := ans_law hmo hr4 hP.so hrb ((lev_perm hP.pm).trans hlev)
            rw [cnt_perm (b := [a1, a2, a3, a4]) hP.pm, hre] at hok
            (repeat ((fail_if_success (first | with_reducible show wpAny _ _ (call (Value.ref _) ..) _ _ _ | with_reducible show wpAny _ _ (call (Value.ref _) _) _ _ _)); walk_at "mine step"))
            rename News _ _ _ _ => N7
            refine' useT (ans_spec (V := hvs ++ rvs) ?hm hrI ?hm2 hcI (Nat.le_of_eq hr4) hP.so hrb hmo rfl (fun v hv => List.mem_append_right _ hv) hok) ?k1 ?k2 ?k3 ?k4 ?k5 ?k6 ?k7 ?k8 ?k9 ?_
            case k4 => exact fun p hp => N7 p (.tail _ (.tail _ (.tail _ (.tail _ hp))))
            case hm => exact .tail _ (.head _)
            case hm2 => exact .head _
            case k1 => k_asm
            case k2 => k_asm
            case k3 => k_asm
            case k5 => k_asm
            case k6 => exact rfl
            case k7 => ((try simp only [ktrTop, depth_under_make, depth_under_kw, depth_in1, depth_deeper, depth_caller]); first | omega | decide)
            case k8 => ((try simp only [ktrTop, units_in1, units_deeper, Around.mark_units, units_caller]); first | omega | decide)
            case k9 => exact ⟨Nat.le_trans hP.t2 (by dsimp only; omega), hP.tk.up (by dsimp only; omega)⟩
            intro r' n' h' tk' htk' hp' F' N'
            obtain ⟨hda, ps, hn, hp1, hp2, hpi, hpb, hpT, hp2T, hpo, hpd, hpn⟩ := hp'
            subst hp2
            subst hp1
            (try dsimp only at htk' N')
            (try dsimp only)
            have hpl : ps.length = (ansF most row 3).2.1.length := by rw [← hpi]; exact (List.length_map ..).symm
            have hpl1 : 1 ≤ ps.length := by omega
            have hpl4 : ps.length ≤ 4 := by omega
            have hTO : ∀ x1 x2 x3 x4, OwnOff ((_, x1) :: (_, x2) :: (_, x3) :: (_, x4) :: own) [_, _] := fun x1 x2 x3 x4 => (lw_off hl9 (off1_of off8) hoff).1
            have hRH := (lw_off (o1 := W.listOf #[] 0) (o2 := W.listOf #[] 0) (o3 := W.listOf #[] 0) (o4 := W.listOf #[] 0) hl9 (off1_of off8) hoff).2
            clear hq1 hq4 hok
            generalize (ansF most row 3).2.1 = qs at hpi htko hlt hpl
            (repeat ((fail_if_success (first | with_reducible show wpAny _ _ (exec (PySem.Stmt.For ..) _) _ _ _)); walk_at "mine step"))
            refine For_T ?_
            (repeat ((fail_if_success (first | with_reducible show wpAny _ _ (pyIter _) _ _ _)); walk_at "mine step"))
            rename Fr _ _ _ _ => F7
            rename News _ _ _ _ => N7
            obtain ⟨tl7, htl7, N7⟩ := hd_news N7
            refine hd_loop (c0 := ⟨hvs, m, [a1, a2, a3, a4], rvs, nr, row⟩) (qs := qs) (V := pvals ps ++ (hvs ++ rvs)) rfl (.tail _ (.tail _ (.tail _ (.tail _ (.head _))))) F7 N7 (hd_start hP (hpT.up (by dsimp only; omega)) (Nat.le_trans hp2T (by dsimp only; omega)) (fun v hv => List.mem_append_right _ hv)) ?turn7 ?done7
            case turn7 =>
              clear F7 N7
              intro c7 i7 v7 u7 h7 tk7 own7 hv7 hoff7 hP7 F7 N7
              obtain ⟨q, hq, rfl, hqin⟩ := ref_at hv7
              obtain ⟨hvs7, m7, hs7, rvs7, n7, row7⟩ := c7
              dsimp only [lwLed, kstB] at hoff7 F7 N7
              dsimp only [List.cons_append] at N7
              have hR7' := off_two hoff7
              have hR7 := fun x1 x2 x3 x4 => hd_off (o := W.listOf (ps.map fun q => Value.ref q.a).toArray hn) hpo hpn (hTO x1 x2 x3 x4) htl7 hR7'
              have hqi := pints_at hq hpi
              obtain ⟨hq1, hq2, hq3, hq4⟩ := takes_at htko hqi
              rw [← hP7.re] at hq1
              have hqh : q.o ∈ hs7 := hP7.pm.mem_iff.mp hq1
              have hqn : ¬ q.x ≥ q.o := fun h => absurd (Int.lt_of_lt_of_le hq2 h) (Int.lt_irrefl _)
              have hcmp : CmpOk hvs7 q.o q.to := hP7.tk.cmp (List.mem_append_left _ (pv_mem hqin).1) (fun v hv => hP7.sb v (List.mem_append_left _ hv)) hP7.hI hP7.bd
              have hqL : h7.IsList q.a #[Value.int q.o q.to, Value.int q.x q.tx] := by
                refine ⟨_, (N7 q.ent ?_).1, rfl, q.n, rfl⟩
                subst htl7
                exact .tail _ (.tail _ (.tail _ (.tail _ (.tail _ (.tail _ (.tail _ (List.mem_append_left _ (List.mem_append_left _ (List.mem_map_of_mem hqin)))))))))
              generalize hPQ7 : TPost _ _ _ _ _ _ = PQ7
              (repeat ((fail_if_success (first | with_reducible show wpAny _ _ (call (Value.ref _) ..) _ _ _ | with_reducible show wpAny _ _ (call (Value.ref _) _) _ _ _)); walk_at "mine step"))
              refine' useCg (index_spec (hm := .tail _ (.head _)) hP7.hI hP7.l4 hqh hcmp) ?k1 ?k2 ?k3 ?k4 ?k5 ?k6 ?k7 ?k8 ?_
              case k4 => k_asm
              case k1 => k_asm
              case k2 => k_asm
              case k3 => k_asm
              case k5 => k_asm
              case k6 => exact rfl
              case k7 => ((try simp only [ktrTop, depth_under_make, depth_under_kw, depth_in1, depth_deeper, depth_caller]); first | omega | decide)
              case k8 => ((try simp only [ktrTop, units_in1, units_deeper, Around.mark_units, units_caller]); first | omega | decide)
              intro r' n' h' tk' htk' hp' F' N'
              obtain ⟨hp2, k, t', hp1, hk, hkq⟩ := hp'
              subst hp2
              subst hp1
              (try dsimp only at htk' N')
              (try dsimp only)
              (repeat ((fail_if_success (first | with_reducible show wpAny _ _ (call (Value.ref _) ..) _ _ _ | with_reducible show wpAny _ _ (call (Value.ref _) _) _ _ _)); walk_at "mine step"))
              have hr7 : row7.length ≤ 8 := by rw [hP7.pm.length_eq, hP7.l4]; decide
              have hk7 : k.toNat < hs7.length := by rw [hP7.l4]; omega
              refine' useCg (take_vals hRH (hR7 _ _ _ _) hP7.hI hP7.rI hP7.l4 hk hr7 hP7.so (Int.ofNat_lt.mpr (take_keeps (left := q.x) hP7.so hP7.pm hk7).1)) ?k1 ?k2 ?k3 ?k4 ?k5 ?k6 ?k7 ?k8 ?_
              case k4 => k_asm
              case k1 => k_asm
              case k2 => k_asm
              case k3 => k_asm
              case k5 => k_asm
              case k6 => exact rfl
              case k7 => ((try simp only [ktrTop, depth_under_make, depth_under_kw, depth_in1, depth_deeper, depth_caller]); first | omega | decide)
              case k8 => ((try simp only [ktrTop, units_in1, units_deeper, Around.mark_units, units_caller]); first | omega | decide)
              intro r' n' h' tk' htk' hp' F' N'
              obtain ⟨hp1, rvs', hvs', nn', mm', hp2, hrI', hhI', hrM', hhM'⟩ := hp'
              subst hp2
              subst hp1
              (try dsimp only at htk' N')
              (try dsimp only)
              k_steps
              rw [← hPQ7]
              dsimp only [TPost]
              rename Fr _ _ _ _ => F6
              rename News _ _ _ _ => N6
              refine tT_end (σ := LwC) (Led := lwLed _ _ _) (ps := fun _ => []) (P := fun kk => HdP qs (pvals ps ++ (hvs ++ rvs)) row _ (i7 + 1) kk) ⟨hvs', mm', hs7.set k.toNat q.x, rvs', nn', _⟩ F6 N6 (fun p hp => mem_left (b := own7) hp) (fun p hp => mem_right (a := _ :: _ :: _ :: _ :: _ :: _ :: _ :: tl7) hp) hoff7 (fun _ h => nomatch h) ?_ (hd_step hP7 htko hqi hk hkq (List.mem_append_left _ (pv_mem hqin).2) (by first | omega | (dsimp only; omega)) hrI' hhI' hrM' hhM')
              intro z z1 z2 z3
              have zn := nnew z3
              simp only [z1, z3, zn, if_false, Bool.false_eq_true]
            case done7 =>
              clear F7 N7
              intro c7 u7 h7 tk7 hP7 F7 N7
              obtain ⟨hvs7, m7, hs7, rvs7, n7, row7⟩ := c7
              obtain ⟨b1, b2, b3, b4, hs4⟩ := four hP7.l4
              dsimp only at hs4
              subst hs4
              dsimp only [lwLed, kstB] at F7 N7
              have hI7 := hP7.hI
              have hrI7 := hP7.rI
              have hc1 := hP7.bd b1 (by simp)
              have hc2 := hP7.bd b2 (by simp)
              have hc3 := hP7.bd b3 (by simp)
              have hc4 := hP7.bd b4 (by simp)
              have hl7 : levF most [b1, b2, b3, b4] = true := by
                rw [← lev_perm hP7.pm, hP7.re, List.take_of_length_le (by rw [← hpl]; exact Nat.le_of_eq (List.length_map ..).symm)]
                exact hlt
              have hr7l : row7.length = 0 + 1 + 1 + 1 + 1 := hP7.pm.length_eq.trans hP7.l4
              (repeat ((fail_if_success (first | with_reducible show wpAny _ _ (eval (PySem.Expr.ListComp ..) _) _ _ _)); walk_at "mine step"))
              refine wpAny_grow ?_
              refine comp_L (x := "count") (F₀ := by k_asm) (by with_unfolding_all rfl) (by decide) (by rfl) (by decide) (by rfl) ?_
              (repeat ((fail_if_success (first | with_reducible show wpAny _ _ (call (Value.ref _) ..) _ _ _ | with_reducible show wpAny _ _ (call (Value.ref _) _) _ _ _)); walk_at "mine step"))
              refine' useCg (counts_spec (.tail _ (.head _)) hI7 hc1 hc2 hc3 hc4) ?k1 ?k2 ?k3 ?k4 ?k5 ?k6 ?k7 ?k8 ?_
              case k4 => k_asm
              case k1 => k_asm
              case k2 => k_asm
              case k3 => k_asm
              case k5 => k_asm
              case k6 => exact rfl
              case k7 => ((try simp only [ktrTop, depth_under_make, depth_under_kw, depth_in1, depth_deeper, depth_caller]); first | omega | decide)
              case k8 => ((try simp only [ktrTop, units_in1, units_deeper, Around.mark_units, units_caller]); first | omega | decide)
              intro r' n' h' tk' htk' hp' F' N'
              obtain ⟨cx7, cvs7, cn7, hp1, hp2, hcI7, hcx7⟩ := hp'
              subst hp2
              subst hp1
              (try dsimp only at htk' N')
              (try dsimp only)
              (repeat ((fail_if_success (first | with_reducible show CSrcL ..)); walk_at "mine step"))
              rename Fr _ _ _ _ => F8
              rename News _ _ _ _ => N8
              have hcl7 := hcI7.length
              refine ⟨_, _, _, _, rfl, rfl, F8, N8, .head _, (by rw [hcl7]; exact Nat.le_of_ble_eq_true rfl), (fun i ys => IntsAre ys (offs most (([bitc 0 b1 b2 b3 b4, bitc 1 b1 b2 b3 b4, bitc 2 b1 b2 b3 b4] : List Int).take i))), .nil, (fun i ys h => by rw [h.length]; exact offs_len _ _ _), ?tst, ?fin⟩
              case tst =>
                clear F8 N8
                intro j v8 ys I oI C oC D m₂ h8 tk8 E' hv8 hK hns hm₂ F8 N8 off8 ne8
                obtain ⟨q, t0, rfl, hq⟩ := IntsAre.at hcI7 _ _ hv8
                k_steps
                refine tst_dec (fun hb => tst_no (by assumption) (by assumption) ?_) fun hb => tst_yes ?_
                · show IntsAre ys (offs most _)
                  rw [offs_no hq (by simpa using hb)]; exact hK
                · k_steps
                  refine el_end (by assumption) (by assumption) ?_
                  show IntsAre _ (offs most _)
                  rw [offs_yes hq (by simpa using hb)]; exact hK.append (.cons _ _ .nil)
              case fin =>
                clear F8 N8
                intro D11 h11 tk11 ys11 hK11 F11 N11 off11 hgrM
                dsimp only at hgrM
                rw [List.take_of_length_le (by rw [hcl7]; exact Nat.le_refl _)] at hK11
                (repeat ((fail_if_success (first | with_reducible show wpAny _ _ (compareOp PySem.CmpOp.Eq ..) _ _ _)); walk_at "mine step"))
                (repeat ((fail_if_success (first | with_reducible show @ite _ _ _ _ _)); walk_at "mine step"))
                (iterate 1 walk_at "mine step")
                · k_steps
                  dsimp only
                  rw [← hPQ]
                  dsimp only [TPost]
                  k_steps
                · (repeat ((fail_if_success (first | with_reducible show wpAny _ _ (call (Value.ref _) ..) _ _ _ | with_reducible show wpAny _ _ (call (Value.ref _) _) _ _ _)); walk_at "mine step"))
                  rename News _ _ _ _ => N6
                  rename List.getD row7 _ _ ≠ 0 => hlast
                  refine' useT (other_spec hRH ?hoff hI7 hrI7 hP7.l4 hP7.bd hP7.so hP7.pm hmo ?hse ?hpos) ?k1 ?k2 ?k3 ?k4 ?k5 ?k6 ?k7 ?k8 ?k9 ?_
                  case k4 => exact fun p hp => N6 p (.tail _ (.tail _ (.tail _ hp)))
                  case k1 => k_asm
                  case k2 => k_asm
                  case k3 => k_asm
                  case k5 => k_asm
                  case k6 => exact rfl
                  case k7 => ((try simp only [ktrTop, depth_under_make, depth_under_kw, depth_in1, depth_deeper, depth_caller]); first | omega | decide)
                  case k8 => ((try simp only [ktrTop, units_in1, units_deeper, Around.mark_units, units_caller]); first | omega | decide)
                  case hoff => exact hd_off0 hpo hpn (hTO _ _ _ _) htl7
                  case hse => exact Int.add_nonneg (getD_nn (by assumption)) (by omega)
                  case hpos => exact lev_pos hmo hc1 hc2 hc3 hc4 hl7 (last_pos hP7.pm hlast hc1 hc2 hc3 hc4)
                  case k9 => exact ⟨Nat.le_trans hP7.t2 (by dsimp only; omega), (hP7.tk.up (by dsimp only; omega)).sub hP7.sb⟩
                  intro r' n' h' tk' htk' hp' F' N'
                  obtain ⟨c', j', hj1, hj2, hOt, hp2⟩ := hp'
                  subst hp2
                  (try dsimp only at htk' N')
                  (try dsimp only)
                  k_steps
                  rw [← hPQ]
                  dsimp only [TPost]
                  rename Fr _ _ _ _ => F5
                  rename News _ _ _ _ => N5
                  refine tT_end (σ := LwC) (Led := lwLed _ _ _) (ps := fun _ => []) (P := fun kk => LwP most (i + 1) kk) ⟨c'.hvs, c'.m, c'.hs, c'.rvs, c'.n, c'.row⟩ F5 N5 hd_mem1 (hd_mem2 htl7) hoff (fun _ h => nomatch h) ?_ (LwP.up (lw_next hOt hmo hj1 hj2 hP7.l4 hP7.bd hl7 (hd_sum hP7 hP rfl)) (by first | omega | (dsimp only; omega)))
                  intro z z1 z2 z3
                  obtain ⟨y1, y2, y3, y4, y5⟩ := lwstored z3
                  simp only [z1, z3, y1, y2, y3, y4, y5, one_new y5, if_false, Bool.false_eq_true]
                · rename decide (offs most _ = []) = false => h0
                  rw [offs_dec, hl7] at h0
                  cases h0
end Mine
theorem PySem.Challenge.cw_sw0071_01_holds : PySem.Challenge.rw_sw0071_01.Holds :=
  Mine.law_holds
