import PyProof.Rows.All
import Wide.All
import OpenK.AllK
import Wide.FinOn
import PySem.Challenge.RW_nq0007_01
set_option Elab.async false
section
open PySem PySem.W PyProof.Rows
namespace Mine
set_option maxRecDepth 100000 in
set_option maxHeartbeats 8000000 in
open_top hd for PySem.Challenge.rw_nq0007_01
end Mine
end
open PySem PySem.W PyProof.Rows
local macro_rules | `(tactic| walk_at $s:str) => `(tactic| k_extra $s)
local macro_rules | `(tactic| k_room) => `(tactic| k_extra "room")
local macro_rules | `(tactic| k_all) => `(tactic| k_extra "all")
local macro_rules | `(tactic| k_ne) => `(tactic| k_extra "ne")
section
open PySem PySem.W PyProof.Rows PySem.Calls
set_option maxRecDepth 100000
namespace Mine
noncomputable abbrev prog0 : Program := PySem.Challenge.rw_nq0007_01.row.prog
noncomputable abbrev view0 : Program := Mine.hd.view_39
abbrev Top0 (mean : ExcName → Option Value) (mg mb : Str → Option Value) (h : Heap) : Prop := Top view0 (looseW view0 []) mean mg mb h

/-- all of h stays in h' -/
def Grow (h h' : Heap) : Prop := ∀ b o, h.get? b = some o → h'.get? b = some o
theorem Grow.refl (h : Heap) : Grow h h := fun _ _ e => e
theorem Grow.trans {a b c : Heap} (x : Grow a b) (y : Grow b c) : Grow a c := fun d o e => y d o (x d o e)
theorem Grow.isList {h h' : Heap} {l : Addr} {vs : Array Value} (g : Grow h h') (x : h.IsList l vs) : h'.IsList l vs :=
  let ⟨o, ho, r⟩ := x; ⟨o, g _ _ ho, r⟩

theorem Grow.none {h h' : Heap} {a : Addr} (g : Grow h h') (e : h'.get? a = none) : h.get? a = none := by
  cases q : h.get? a with
  | none => rfl
  | some o => rw [g _ _ q] at e; cases e

abbrev mkA (dp un : Nat) (gd : Option (List Code)) (env : Env) (outer : List Env) : Around :=
  { handled := none, depth := dp, frames := some (env :: outer), guards := gd, units := un }
theorem mkA_depth (dp un : Nat) (gd : Option (List Code)) (env : Env) (outer : List Env) : (mkA dp un gd env outer).depth = dp := rfl
theorem mkA_units (dp un : Nat) (gd : Option (List Code)) (env : Env) (outer : List Env) : (mkA dp un gd env outer).units = un := rfl

/-- where a call is made from -/
structure At (w : World) (mean : ExcName → Option Value) (mg mb : Str → Option Value) (A : Around) (dp un : Nat) (gd : Option (List Code)) (A₀ : Around) (base h₀ : Heap) (outer : List Env) (env : Env) (L : Addr) (m : Str → Option Value) (h : Heap) : Prop where
  hA : A = mkA dp un gd env outer
  B : Below A₀ base outer h₀
  F : Fr h₀ L h m
  X : (Mine.hd.heap_39 w.params).In h₀
  T : Top0 mean mg mb h₀
  hf : env.frame = some L
  hk : env.scope.kind = .function
  hd : dp + 20 < recursionLimit
  hu : un + 1000 < cLine

/-- a body's end: its frame stands, the value is handed on -/
def Back (g : Heap) (L' : Addr) (Q : Value → Shared → Prop) (fl : Flow) (s' : Shared) : Prop := ∃ m', Fr g L' s'.heap m' ∧ Q (match fl with | .ret v => v | _ => .none) s'
theorem Back.ret {g : Heap} {L' : Addr} {Q : Value → Shared → Prop} {v : Value} {s' : Shared} {m' : Str → Option Value} (F : Fr g L' s'.heap m') (h : Q v s') : Back g L' Q (.ret v) s' := ⟨m', F, h⟩
def Never (_ : Value) (_ : Shared) : Prop := False

/-- a call that keeps all: the body in a frame of its own over a base that holds all of the heap -/
theorem enterP {w : World} {mean : ExcName → Option Value} {mg mb : Str → Option Value} {A : Around} {dp un : Nat} {gd : Option (List Code)} {A₀ : Around} {base h₀ : Heap} {outer : List Env} {env : Env} {L : Addr} {m : Str → Option Value} {s : Shared}
    {Q E : Value → Shared → Prop} {name qual : Str} {params : Arguments} {body : List Stmt} {scope : Scope} {dV kV doc pm cdv ct oc : Value} {an od : Option Addr} {osl : Array (Option Value)} {f : Addr} {args : List Value} (binds : List (Str × Value))
    (C : At w mean mg mb A dp un gd A₀ base h₀ outer env L m s.heap)
    (ho : (Mine.hd.heap_39 w.params).lookup f = some ⟨oc, od, .func (fnOf name qual params body scope dV kV doc pm an cdv ct), osl⟩) (hcd : codeIn (Mine.hd.heap_39 w.params) cdv qual = true)
    (hbind : BindsTo s (fnOf name qual params body scope dV kV doc pm an cdv ct) ⟨args, []⟩ binds) (hloc : ∀ y ∈ binds, scope.names.lookup y.1 = some .local)
    (hco : scope.isCoroutine = false) (hgen : scope.isGenerator = false) (hk : scope.kind = .function) (hcell : ∀ x ∈ scope.names, x.2 ≠ .cell)
    (h : ∀ g L' h₁ tk, s.toks + binds.length ≤ tk → Fr g L' h₁ (fun y => binds.reverse.lookup y) → News g L' h₁ [] → Below (mkA dp un gd env outer) base (env :: outer) g → (Mine.hd.heap_39 w.params).In g → Top0 mean mg mb g → Grow s.heap g →
      wpAny (model prog0 w) ((mkA dp un gd env outer).deeper (envOf qual scope L' f cdv)) (execs body (envOf qual scope L' f cdv))
        (Back g L' Q) Never
        { s with heap := h₁, toks := tk }) :
    wpAny (model prog0 w) A (call (.ref f) args) Q E s := by
  obtain ⟨rfl, B, F, X, T, hf, hke, hd, hu⟩ := C
  refine wpAny_call ?_
  refine code_defG B F X News.nil T rfl hf hke ho hcd (by show dp < _; omega) hbind hloc ?_ hco hgen hk hcell
  intro g L' h₁ FG F' N' B' X' T' G'
  refine wpAny_mono (h g L' h₁ _ (Nat.le_refl _) F' N' B' X' T' (fun b o e => G' b o e (by simp))) ?_ (fun _ _ x => x.elim)
  rintro fl s' ⟨m', F'', hQ⟩
  exact ⟨L', m', [], F'', News.nil, fun _ _ => hQ⟩
end Mine
end
section
open PySem PySem.W PyProof.Rows PySem.Calls PySem.Spec
set_option maxRecDepth 100000
namespace Mine
section
variable {prog : Program} {w : World} {A : Around} {E : Value → Shared → Prop} {s : Shared} {env : Env} {h₀ : Heap} {x : Str} {body : List Stmt} {Q : Flow → Shared → Prop}
/-- a for over a list of the base, whatever its items: what a turn keeps is said of the frame's names and of a ledger -/
theorem iter_vals {l : Addr} {vs : List Value} {m₀ : Str → Option Value} {news : List (Addr × Obj)} (J : Nat → (Str → Option Value) → List (Addr × Obj) → Prop)
    (hh : A.handled = none) (hl : h₀.IsList l vs.toArray) (F : Fr h₀ env.locals s.heap m₀) (N : News h₀ env.locals s.heap news) (hj : J 0 m₀ news)
    (turn : ∀ i v m₁ nx h tk own, vs[i]? = some v → OwnOff own (nx.map (·.1)) → J i m₁ nx → Fr h₀ env.locals h (fun y => if y = x then some v else m₁ y) → News h₀ env.locals h (nx ++ own) →
      wpAny (model prog w) A (execs body env) (InvPostG h₀ env.locals (J (i + 1)) own { s with heap := h, toks := tk } Q) E { s with heap := h, toks := tk })
    (done : ∀ m₁ nx h tk, J vs.length m₁ nx → Fr h₀ env.locals h m₁ → News h₀ env.locals h nx → Q .next { s with heap := h, toks := tk }) :
    wpAny (model prog w) A (pyIter (.ref l)) (fun it s₂ => LoopAtV prog w A h₀ env x body Q E it s₂) E s := by
  have hls : s.heap.IsList l vs.toArray := hl.at fun o e => F.keep l o e
  obtain ⟨ol, hol, _⟩ := id hl
  have hlt : l < h₀.objs.size := Heap.lt_size hol
  have hne : l ≠ s.heap.objs.size := Nat.ne_of_lt (Nat.lt_trans (Nat.lt_of_lt_of_le hlt F.above) F.ns.lt)
  refine wpAny_pyIter_list hls ?_
  have W := Walks.list (prog := prog) (w := w) hh s.heap.objs.size l hne vs.toArray
  rw [List.size_toArray] at W
  refine ⟨_, _, _, vs.length, _, _, m₀, news, J, rfl, W, fun hm => ?_, fun b hb => ?_, fun p hp hI => ?_, ⟨⟨_, Heap.get?_push_size _ rfl, rfl, rfl⟩, hls.at fun o e => Heap.get?_push_of_some _ e⟩, F.push _, (fun p hp => ⟨Heap.get?_push_of_some _ (N p hp).1, (N p hp).2⟩), hj, ?_, fun h' tk m' news' F' N' _ hJ => done m' news' h' tk hJ F' N'⟩
  · rcases List.mem_cons.mp hm with e | hm
    · exact absurd F.ns.lt (e ▸ Nat.lt_irrefl _)
    · exact absurd (Nat.lt_of_lt_of_le hlt F.above) ((List.mem_singleton.mp hm) ▸ Nat.lt_irrefl _)
  · rw [List.mem_singleton.mp hb]; exact next_is_new F
  · exact absurd (Heap.lt_size (N p hp).1) ((List.mem_singleton.mp hI) ▸ Nat.lt_irrefl _)
  · rintro i v m₁ nx s₁ own ⟨h1, tk1, rfl⟩ _ hP hJ hoff hown _ hfp hst F₁ N₁
    obtain ⟨⟨oI, hoI, _⟩, _⟩ := id hst
    have hIown : (s.heap.objs.size, oI) ∈ own := hfp _ (List.mem_cons.mpr (.inl rfl)) (next_is_new F) _ hoI
    have hsep : OwnOff own (nx.map (·.1)) := by
      intro p hp b hb e
      obtain ⟨q, hq, rfl⟩ := List.mem_map.mp hb
      rcases List.mem_cons.mp (hown p hp) with h2 | h2
      · exact hoff q hq (List.mem_singleton.mpr (e ▸ h2))
      · have h3 := (N₁ q (List.mem_append.mpr (.inr hq))).2.2
        rw [← e, List.mem_singleton.mp h2, hol] at h3
        cases h3
    refine wpAny_mono (turn i v m₁ nx h1 tk1 own (by simpa using hP) hsep hJ F₁ fun p hp => N₁ p (by simpa [or_comm] using hp)) (fun f s₂ p => ?_) fun _ _ e => e
    have fin : InvEndG h₀ env.locals (J (i + 1)) own { s with heap := h1, toks := tk1 } s₂ → LoopStepU h₀ env.locals [s.heap.objs.size] own (J (i + 1)) { s with heap := h1, toks := tk1 } .next s₂ := by
      rintro ⟨h', tk, m', news', nx', e, F', N', hn, ho, ha, hm⟩
      refine ⟨rfl, h', tk, m', nx', e, F', fun p hp => N' p ((List.mem_append.mp hp).elim (ho p) (hn p)), fun p hp hq => ?_, hm⟩
      exact ha _ hIown p.1 (List.mem_map.mpr ⟨p, hp, rfl⟩) (List.mem_singleton.mp hq).symm
    cases f with
    | ret v => exact .ret p
    | brk => exact .brk p
    | next => exact .next (fin p)
    | cont => exact .cont (fin p)
end
end Mine
end
section
open PySem PySem.W PyProof.Rows PySem.Calls
set_option maxRecDepth 100000
namespace Mine
theorem kind_isub_nested : builtinKind "issubclass.nested" = none := by decide +kernel
theorem plain_isub_nested : plainId "issubclass.nested" = true := by decide +kernel
theorem args_isub_nested (a b c : Value) : argsOk "issubclass.nested" ⟨[a, b, c], []⟩ := by unfold argsOk; kernel_rfl
theorem isub_str : isSubtype (.type "str") (.type "str") = pure true := by rw [isSubtype_type]; kernel_rfl
theorem type_str : typeOf (.type "str") = pure (.type "type") := by first | rfl | kernel_rfl
section
variable {prog : Program} {w : World} {A : Around} {E : Value → Shared → Prop} {s : Shared}
theorem isub_nested_str (dep : Int) (tk : Tok) : Meets (Builtin.«issubclass.nested» ⟨[.type "str", .type "str", .int dep tk], []⟩) (fun _ R s => R (.ok (.ret (.bool true))) s) := by
  intro prog w A R s h
  have hm := type_str
  have hs := isub_str
  repeat (any_goals (first | assumption | (rw [hm]) | (rw [hs]) | wp_step))
theorem isub_nested_tuple {tp : Addr} {n : Nat} {tk : Tok} {cs : List Value} {Q : Fin → Shared → Prop} (hcs : cs = [.type "str", .type "bytes"]) (htp : s.heap.get? tp = some { cls := .type "tuple", data := .seq cs.toArray n })
    (hq : Q (.done (.ret (.bool true))) s) : wpAny (model prog w) A (Builtin.«issubclass.nested» ⟨[.type "str", .ref tp, .int 0 tk], []⟩) Q E s := by
  obtain ⟨h, g, d, t, os⟩ := s
  have hT2 : (⟨h, g, d, t, os⟩ : Shared).TypeIs (.ref tp) "tuple" := ⟨_, htp, rfl⟩
  have f1 := F.isi_sub_tuple
  repeat (any_goals (first | assumption | wp_step))
  refine wpAny_arrayLoop ?_
  simp only [Option.getD_some, List.toList_toArray]
  rw [hcs, List.forIn_cons]
  refine wpAny_bind (wpAny_bind (call_function_meets kind_isub_nested plain_isub_nested F.entry_issubclass_nested (args_isub_nested _ _ _) (isub_nested_str _ _) ?_))
  show wpAny _ _ (truthy (.bool true) >>= _) _ _ _
  refine wpAny_bind (m := truthy (.bool true)) (wpAny_pure ?_)
  exact wpAny_bind (wpAny_pure (wpAny_pure (wpAny_pure (wpAny_pure hq))))
theorem isub_tuple {tp : Addr} {n : Nat} {Q : Value → Shared → Prop} (htp : s.heap.get? tp = some { cls := .type "tuple", data := .seq #[.type "str", .type "bytes"] n })
    (hq : Q (.bool true) s) : wpAny (model prog w) A (call (.builtin "issubclass") [.type "str", .ref tp]) Q E s :=
  call_issubclass (S := fun _ R s => s.heap.get? tp = some { cls := .type "tuple", data := .seq #[.type "str", .type "bytes"] n } ∧ R (.ok (.ret (.bool true))) s)
    (fun _ _ _ _ _ hs => issubclass_outer (isub_nested_tuple rfl hs.1 hs.2)) ⟨htp, hq⟩
end
end Mine
end
section
open PySem PySem.W PyProof.Rows PySem.Calls PySem.Builtin PySem.Builtin.Str
set_option maxRecDepth 100000
namespace Mine
/-- a token that stands, below the count -/
def TB (t k : Nat) : Prop := 0 < t ∧ t < k
theorem TB.up {t k k' : Nat} (h : TB t k) (hk : k ≤ k') : TB t k' := ⟨h.1, Nat.lt_of_lt_of_le h.2 hk⟩
theorem TB.new {k : Nat} (h : 0 < k) : TB k (k + 1) := ⟨h, Nat.lt_succ_self _⟩
theorem TB.pos {t k : Nat} (h : TB t k) : 0 < k := Nat.lt_of_le_of_lt (Nat.zero_le _) h.2
theorem post_T {s : Shared} {c : Prop} [Decidable c] {y z : Str} {t : Tok} {Q : Value → Shared → Prop} (ht : TB t s.toks)
    (h : (if c then y else z).length ≤ sizeLine ∧ ∀ t' k, TB t' k → s.toks ≤ k → Q (.str (if c then y else z) t') { s with toks := k }) :
    (if c then Made.val (.str y t) else Made.str z).post Q s := by
  obtain ⟨h1, h2⟩ := h
  by_cases hc : c
  · rw [if_pos hc]
    have h' := h2 t s.toks ht (Nat.le_refl _)
    rw [if_pos hc] at h'
    exact h'
  · rw [if_neg hc]
    have h' := h2 s.toks (s.toks + 1) (.new ht.pos) (Nat.le_succ _)
    rw [if_neg hc] at h' h1
    exact ⟨h1, h'⟩
section
variable {prog : Program} {w : World} {A : Around} {E : Value → Shared → Prop} {s : Shared} {value slice : Expr} {x : Str} {t : Tok} {h₀ : Heap} {L : Addr} {m : Str → Option Value} {news : List (Addr × Obj)} {Q : Value → Shared → Prop}
theorem slice_T {j : Int} {uj : Tok} (hF : Fr h₀ L s.heap m) (hN : News h₀ L s.heap news) (htk : TB t s.toks)
    (h : ∀ h' t' k, Fr h₀ L h' m → News h₀ L h' news → TB t' k → s.toks ≤ k → (Txt.slice x none (some j)).length ≤ x.length → Q (.str (Txt.slice x none (some j)) t') { s with heap := h', toks := k }) (hsz : x.length ≤ sizeLine)
    (hs : subscripted slice false (.str x t) (.ref s.heap.objs.size) = operate [.ref s.heap.objs.size, .str x t] (getItem (.str x t) (.ref s.heap.objs.size)) := by with_unfolding_all rfl)
    (ht : ∀ r, letTemporaryGo value (.str x t) r = pure () := by intro _; with_unfolding_all rfl) :
    wpAny (model prog w) A (subscriptTail value slice (.str x t) (.ref s.heap.objs.size)) Q E { s with heap := s.heap.push { cls := .type "slice", data := .fields #[.none, .int j uj, .none] } } :=
  tail_of_ItemOn ⟨"str", _, F.slot_str_getitem.lookup, typeIs_str _ _ _, wpAny_getItem_str_slice (l := none) (u := some (j, uj)) (st := none) ⟨_, Heap.get?_push_size _ rfl, rfl, rfl⟩ rfl
    (post_T htk ⟨Nat.le_trans (Txt.slice_le x _ _) hsz, fun t' k a c => h _ t' k (Fr.pushS hF _) (hN.pushKeep _) a c (Txt.slice_le x _ _)⟩)⟩ hs ht
theorem rstrip_T {y : Str} {u : Tok} (ht : TB t s.toks) (hq : ∀ t' k, TB t' k → s.toks ≤ k → (Txt.rstripChars x y).length ≤ x.length → Q (.str (Txt.rstripChars x y) t') { s with toks := k }) (hsz : x.length ≤ sizeLine) :
    wpAny (model prog w) A (call (.builtin "str.rstrip") [.str x t, .str y u]) Q E s :=
  call_gives F.slot_str_rstrip (typeIs_str _ _ _) F.entry_str_rstrip (F.args_str_rstrip_2 _ _) (gives_str_rstrip_chars x y t u)
    (post_T ht ⟨Nat.le_trans (len_rstripChars x y) hsz, fun t' k a c => hq t' k a c (len_rstripChars x y)⟩)
end
theorem gen_toks {α : Type} {M : Model} {A : Around} {t : Sem α} {Q : α → Shared → Prop} {E : Value → Shared → Prop} {hp : Heap} {g : Array GenState} {d : Drawn} {tk : Nat} {os : OsState} (h : ∀ tk', tk ≤ tk' → wpAny M A t Q E ⟨hp, g, d, tk', os⟩) : wpAny M A t Q E ⟨hp, g, d, tk, os⟩ := h tk (Nat.le_refl _)
theorem with_toks {α : Type} {M : Model} {A : Around} {t : Sem α} {Q : α → Shared → Prop} {E : Value → Shared → Prop} {s : Shared} (h : wpAny M A t (fun a s' => s.toks ≤ s'.toks → Q a s') (fun e s' => s.toks ≤ s'.toks → E e s') s) : wpAny M A t Q E s :=
  wpAny_with_toks (Nat.le_refl _) h
end Mine
end
section
open PySem PySem.W PyProof.Rows PySem.Calls
set_option maxRecDepth 100000
namespace Mine
def hdOf (x : Str) : Str := Txt.slice x none (some (Txt.rfind x (Str.ofString "/") + 1))
def dn (x : Str) : Str :=
  if ((hdOf x).length : Int) ≠ 0 then (if (hdOf x != Txt.mul (Str.ofString "/") ((hdOf x).length : Int)) = true then Txt.rstripChars (hdOf x) (Str.ofString "/") else hdOf x) else hdOf x
theorem dn_1 {x : Str} (h : ((hdOf x).length : Int) ≠ 0) (h2 : (hdOf x != Txt.mul (Str.ofString "/") ((hdOf x).length : Int)) = true) : Txt.rstripChars (hdOf x) (Str.ofString "/") = dn x := by
  unfold dn; rw [if_pos h, if_pos h2]
theorem dn_2 {x : Str} (h2 : ¬ (hdOf x != Txt.mul (Str.ofString "/") ((hdOf x).length : Int)) = true) : hdOf x = dn x := by
  unfold dn; rw [if_neg h2]; split <;> rfl
theorem dn_4 {x : Str} (h2 : (hdOf x != Txt.mul (Str.ofString "/") ((hdOf x).length : Int)) = false) : hdOf x = dn x := dn_2 (by rw [h2]; exact Bool.false_ne_true)
theorem dn_3 {x : Str} (h : ¬ ((hdOf x).length : Int) ≠ 0) : hdOf x = dn x := by
  unfold dn; rw [if_neg h]
set_option maxHeartbeats 4000000 in
theorem dirname_c {w : World} {mean : ExcName → Option Value} {mg mb : Str → Option Value} {A : Around} {dp un : Nat} {gd : Option (List Code)} {A₀ : Around} {base h₀ : Heap} {outer : List Env} {env : Env} {L : Addr} {m : Str → Option Value} {s : Shared}
    {Q E : Value → Shared → Prop} {x : Str} {tx : Tok}
    (C : At w mean mg mb A dp un gd A₀ base h₀ outer env L m s.heap) (hx : x.length ≤ 20) (ht : TB tx s.toks)
    (ret : ∀ h' tk' t' y, y = dn x → Grow s.heap h' → s.toks ≤ tk' → TB t' tk' → Q (.str y t') { s with heap := h', toks := tk' }) :
    wpAny (model prog0 w) A (call (.ref 129) [.str x tx]) Q E s := by
  w_top off
  k_with_none
  k_with "room" => ((try simp only [depth_under_make, depth_under_kw, depth_in1, depth_deeper, depth_caller, mkA_depth]); omega)
  k_with "call builtin:issubclass" => (k_here; (with_reducible show wpAny _ _ (call (Value.builtin "issubclass") [Value.type "str", Value.ref _]) _ _ _); (refine' isub_tuple (News.get (by k_asm) (by k_mem)) ?_))
  k_with "execs cons" => (k_here; (with_reducible show wpAny _ _ (execs _ _) _ _ (Shared.mk _ _ _ (HAdd.hAdd _ _) _)); (refine gen_toks ?_); intro tkN htkN; (try dsimp only at htkN))
  k_with "execs nil" => (k_here; (with_reducible show wpAny _ _ (execs _ _) _ _ (Shared.mk _ _ _ (HAdd.hAdd _ _) _)); (refine gen_toks ?_); intro tkN htkN; (try dsimp only at htkN))
  k_with "subscriptTail Name Slice str ref" => (k_here; (with_reducible show wpAny _ _ (subscriptTail _ (Expr.Slice none (some _) none _) _ _) _ _ _); (with_reducible rename Fr _ _ _ _ => kF); (with_reducible rename News _ _ _ _ => kN); (with_unfolding_all refine slice_T (s := ⟨_, _, _, _, _⟩) kF kN (by refine TB.up (by with_reducible assumption) ?_; dsimp only; (try dsimp only at *); omega) ?_ (by size_fits)); (intro _ _ _ _ _ _ _ _))
  k_with "call builtin:str.rstrip" => (k_here; (with_reducible show wpAny _ _ (call (Value.builtin "str.rstrip") [Value.str _ _, Value.str _ _]) _ _ _); (refine rstrip_T (by refine TB.up (by with_reducible assumption) ?_; dsimp only; (try dsimp only at *); omega) ?_ (by size_fits)); (intro _ _ _ _ _))
  k_with "binaryOp Mult str int" => (k_here; (fail_if_success (with_reducible show wpAny _ _ _ (fun _ s' => _ ≤ Shared.toks s' → _) _ _)); (with_reducible refine with_toks ?_); dsimp only)
  have kf0 : PySem.Challenge.rw_nq0007_01 = PySem.Challenge.rw_nq0007_01 → Mine.hd.heap_39 w.params = Mine.hd.heap_39 w.params := by (k_fill; exact fun _ => rfl)
  clear kf0
  refine enterP [("p", .str x tx)] C (by k_is) (by k_is) (BindsTo.of_eq rfl) (locs rfl) rfl rfl rfl (by decide) ?_
  intro g L' h₁ tk htk F' N' B' X' T' G'
  have hd := C.hd
  have hu := C.hu
  clear C
  replace htk : s.toks ≤ tk := Nat.le_trans (Nat.le_add_right _ _) htk
  k_steps
  all_goals (dsimp only)
  all_goals (refine Back.ret (by assumption) (ret _ _ _ _ ?_ (G'.trans (Fr.keep (by assumption))) ?_ ?_))
  all_goals (first
    | ((try dsimp only at *); omega)
    | (refine TB.up (by with_reducible assumption) ?_; (try dsimp only at *); omega)
    | exact dn_4 (by assumption)
    | exact dn_1 (by assumption) (by assumption)
    | exact dn_2 (by assumption)
    | exact dn_3 (fun q => q (by assumption)))
end Mine
end
section
open PySem PySem.W PyProof.Rows PySem.Calls
set_option maxRecDepth 100000
namespace Mine
theorem entry_hasattr : entryFor table "hasattr" = some Builtin.«hasattr» := entryFor_of_tree (by kernel_rfl)
theorem kind_hasattr : builtinKind "hasattr" = none := by decide +kernel
theorem plain_hasattr : plainId "hasattr" = true := by decide +kernel
theorem args_hasattr (a b : Value) : argsOk "hasattr" ⟨[a, b], []⟩ := by unfold argsOk; kernel_rfl
theorem sub_list_module : isSubtype (.type "list") (.type "module") = pure false := by rw [isSubtype_type]; kernel_rfl
theorem slot_md_get : Slot "method_descriptor" "__get__" "method_descriptor.__get__" :=
  .of (owner := "method_descriptor") (n := "__get__") (by rw [typeLookup_type, builtinLookup_eq_fast]; kernel_rfl) (by decide +kernel) (by decide +kernel) (by decide +kernel)
    (by first | exact .inl (by decide +kernel) | exact .inr (by decide +kernel)) (by rw [isSubtype_type]; kernel_rfl)
theorem entry_md_get : entryFor table "method_descriptor.__get__" = some Builtin.«method_descriptor.__get__» := entryFor_of_tree (by kernel_rfl)
theorem args_md_get (a b c : Value) : argsOk "method_descriptor.__get__" ⟨[a, b, c], []⟩ := by unfold argsOk; kernel_rfl
theorem lk_md_set : typeLookup (.type "method_descriptor") "__set__" = pure none := by rw [typeLookup_type, builtinLookup_eq_fast]; kernel_rfl
theorem lk_md_del : typeLookup (.type "method_descriptor") "__delete__" = pure none := by rw [typeLookup_type, builtinLookup_eq_fast]; kernel_rfl
theorem owner_list_getitem : (".".intercalate ("list.__getitem__".cutAt '.').dropLast) = "list" := by
  have e0 : "list.__getitem__".cutAt '.' = ["list", "__getitem__"] := by first | rfl | decide +kernel
  rw [e0]; rfl
theorem sub_list_owner : isSubtype (.type "list") (.type (".".intercalate ("list.__getitem__".cutAt '.').dropLast)) = pure true := by
  rw [owner_list_getitem, isSubtype_type]; kernel_rfl
section
variable {prog : Program} {w : World} {A : Around} {E : Value → Shared → Prop} {h : Heap} {g : Array GenState} {d : Drawn} {t : Nat} {os : OsState} {a : Addr} {items : Array Value} {n : Nat}
theorem gi_get {R : Result → Shared → Prop} (hx : h.get? a = some { cls := .type "list", data := .seq items n }) (hq : ∀ v h' k, Grow h h' → R (.ok (.ret (.ref v))) ⟨h', g, d, k, os⟩) :
    codeAny (model prog w) A (.call (.builtin "method_descriptor.__get__") ⟨[.builtin "list.__getitem__", .ref a, .type "list"], []⟩) R ⟨h, g, d, t, os⟩ := by
  have hT : (⟨h, g, d, t, os⟩ : Shared).TypeIs (.ref a) "list" := ⟨_, hx, rfl⟩
  have hT5 : (⟨h, g, d, t, os⟩ : Shared).TypeIs (.builtin "list.__getitem__") "method_descriptor" := F.type_list_getitem
  have f8 := sub_list_owner
  refine codeAny_call_builtin slot_md_get.plain entry_md_get (slot_md_get.check _ _ _ _ _ _ _ _ hT5 (args_md_get _ _ _) ?_)
  repeat (any_goals (first | assumption | wp_step))
  exact hq _ _ _ (fun _ _ e => Heap.get?_push_of_some _ e)
theorem gi_entry {tk : Tok} {Q : PySem.Fin → Shared → Prop} (hx : h.get? a = some { cls := .type "list", data := .seq items n }) (hq : ∀ v h' k, Grow h h' → Q (.done (.ret (.ref v))) ⟨h', g, d, k, os⟩) :
    wpAny (model prog w) A (Builtin.«object.__getattribute__» ⟨[.ref a, .str "__getitem__" tk], []⟩) Q E ⟨h, g, d, t, os⟩ := by
  have hT : (⟨h, g, d, t, os⟩ : Shared).TypeIs (.ref a) "list" := ⟨_, hx, rfl⟩
  have f4 := F.slot_list_getitem.lookup
  have f5 := F.type_list_getitem
  have f6 := slot_md_get.lookup
  have f7 := lk_md_set
  have f8 := lk_md_del
  have hT5 : (⟨h, g, d, t, os⟩ : Shared).TypeIs (.builtin "list.__getitem__") "method_descriptor" := F.type_list_getitem
  repeat (any_goals (first | assumption | wp_step))
  refine gi_get hx ?_
  intro v h' k hg
  exact wpAny_pure (hq v h' k hg)
theorem gi_call {tk : Tok} {R : Result → Shared → Prop} (hx : h.get? a = some { cls := .type "list", data := .seq items n }) (hq : ∀ v h' k, Grow h h' → R (.ok (.ret (.ref v))) ⟨h', g, d, k, os⟩) :
    codeAny (model prog w) A (.call (.builtin "list.__getattribute__") ⟨[.ref a, .str "__getitem__" tk], []⟩) R ⟨h, g, d, t, os⟩ :=
  codeAny_call_builtin F.slot_list_getattribute.plain F.entry_list_ga (F.slot_list_getattribute.check _ _ _ _ _ _ _ _ (show (⟨h, g, d, t, os⟩ : Shared).TypeIs (.ref a) "list" from ⟨_, hx, rfl⟩) (F.args_list_getattribute_2 _ _) (gi_entry hx hq))
theorem gi_by {tk : Tok} {Q : Value → Shared → Prop} (hx : h.get? a = some { cls := .type "list", data := .seq items n }) (hq : ∀ v h' k, Grow h h' → Q (.ref v) ⟨h', g, d, k, os⟩) : wpAny (model prog w) A (getAttrBy (.ref a) (.str "__getitem__" tk) false) Q E ⟨h, g, d, t, os⟩ := by
  have hT : (⟨h, g, d, t, os⟩ : Shared).TypeIs (.ref a) "list" := ⟨_, hx, rfl⟩
  have f2 := F.slot_list_getattribute.lookup
  have f3 := F.slot_list_getattribute.bind (.ref a)
  repeat (any_goals (first | assumption | wp_step))
  refine gi_call hx ?_
  intro v h' k hg
  repeat (any_goals (first | assumption | wp_step))
  exact hq _ _ _ hg
end
theorem hasattr_meets (l : Addr) (items : Array Value) (n : Nat) (t : Tok) : Meets (Builtin.«hasattr» ⟨[.ref l, .str "__getitem__" t], []⟩)
    (fun _ R s => s.heap.get? l = some { cls := .type "list", data := .seq items n } ∧ ∀ h' tk, Grow s.heap h' → R (.ok (.ret (.bool true))) { s with heap := h', toks := tk }) := by
  intro prog w A R s h
  obtain ⟨hp, g, d, tk, os⟩ := s
  obtain ⟨hl, h⟩ := h
  have hT2 : (⟨hp, g, d, tk, os⟩ : Shared).TypeIs (.ref l) "list" := ⟨_, hl, rfl⟩
  have f1 := F.slot_list_getitem.lookup
  have f2 := F.slot_list_getattribute.lookup
  have f3 := sub_list_module
  repeat (any_goals (first | assumption | with_reducible apply gi_by hl | wp_step))
  intro v h' k hg
  repeat (any_goals (first | assumption | wp_step))
  exact h _ _ hg
theorem hasattr_list {prog : Program} {w : World} {A : Around} {E : Value → Shared → Prop} {s : Shared} {l : Addr} {items : Array Value} {n : Nat} {t : Tok} {Q : Value → Shared → Prop} (hl : s.heap.get? l = some { cls := .type "list", data := .seq items n })
    (hq : ∀ h' tk, Grow s.heap h' → Q (.bool true) { s with heap := h', toks := tk }) : wpAny (model prog w) A (call (.builtin "hasattr") [.ref l, .str "__getitem__" t]) Q E s :=
  call_function_meets kind_hasattr plain_hasattr entry_hasattr (args_hasattr _ _) (hasattr_meets l items n t) ⟨hl, hq⟩
end Mine
end
section
open PySem PySem.W PyProof.Rows PySem.Calls
set_option maxRecDepth 100000
namespace Mine
set_option maxHeartbeats 4000000 in
theorem contains_c {w : World} {mean : ExcName → Option Value} {mg mb : Str → Option Value} {A : Around} {dp un : Nat} {gd : Option (List Code)} {A₀ : Around} {base h₀ : Heap} {outer : List Env} {env : Env} {L : Addr} {m : Str → Option Value} {s : Shared}
    {Q E : Value → Shared → Prop} {l : Addr} {vs : List Value} {xs : List Str} {x : Str} {tx : Tok}
    (C : At w mean mg mb A dp un gd A₀ base h₀ outer env L m s.heap)
    (hl : s.heap.IsList l vs.toArray) (hx : StrsAre vs xs)
    (ret : ∀ h' tk', Grow s.heap h' → Q (.bool (xs.any fun y => y == x)) { s with heap := h', toks := tk' }) :
    wpAny (model prog0 w) A (call (.ref 35) [.ref l, .str x tx]) Q E s := by
  w_top off
  k_with_none
  k_with "room" => ((try simp only [depth_under_make, depth_under_kw, depth_in1, depth_deeper, depth_caller, mkA_depth]); omega)
  have kf0 : PySem.Challenge.rw_nq0007_01 = PySem.Challenge.rw_nq0007_01 → Mine.hd.heap_39 w.params = Mine.hd.heap_39 w.params := by (k_fill; exact fun _ => rfl)
  clear kf0
  refine enterP [("a", .ref l), ("b", .str x tx)] C (by k_is) (by k_is) (BindsTo.of_eq rfl) (locs rfl) rfl rfl rfl (by decide) ?_
  intro g L' h₁ tk htk F' N' B' X' T' G'
  have hl' : g.IsList l vs.toArray := G'.isList hl
  have hd := C.hd
  have hu := C.hu
  clear C
  k_steps
  exact Back.ret (by assumption) (ret _ _ (G'.trans (Fr.keep (by assumption))))
end Mine
end
section
open PySem PySem.W PyProof.Rows PySem.Calls PySem.Spec
set_option maxRecDepth 100000
namespace Mine
theorem told_none {w : World} {M : Model} {h : Heap} {A : Around} {E : Value → Shared → Prop} {s : Shared} {t : Tok} {Q : Bool → Shared → Prop} (X : (Mine.hd.heap_39 w.params).In h) (e : nsIn (Mine.hd.heap_39 w.params) cStatics sharingNotToldKey = some none)
    (k : Grow h s.heap) (hq : Q false s) : wpAny M A (sharingNotTold t) Q E s := by
  unfold sharingNotTold
  exact wpAny_bind (looks_nsIn X e A _ E s k (wpAny_pure hq))
theorem is_str_rule {w : World} {M : Model} {A : Around} {E : Value → Shared → Prop} {s : Shared} {h : Heap} {y z : Str} {u v : Nat} {Q : Value → Shared → Prop} (X : (Mine.hd.heap_39 w.params).In h) (e : nsIn (Mine.hd.heap_39 w.params) cStatics sharingNotToldKey = some none)
    (k : Grow h s.heap) (h0 : 0 < u) (h1 : 0 < v) (huv : u = v → y = z) (hq : ∀ b, (b = true → y = z) → Q (.bool b) s) : wpAny M A (compareOp .Is (.str y u) (.str z v)) Q E s := by
  show wpAny M A (do let r ← isSame (.str y u) (.str z v); return .bool r) Q E s
  refine wpAny_bind ?_
  show wpAny M A (isSame.created (y == z) u v) _ E s
  unfold isSame.created
  refine wpAny_ite ?_
  split
  · rename_i h
    simp only [Bool.or_eq_true, beq_iff_eq] at h
    rcases h with h | h
    · exact absurd h (Nat.ne_of_gt h0)
    · exact absurd h (Nat.ne_of_gt h1)
  refine wpAny_ite ?_
  split
  · rename_i h
    exact wpAny_pure (wpAny_pure (hq _ fun _ => huv (by simpa using h)))
  refine wpAny_ite ?_
  split
  · exact wpAny_pure (wpAny_pure (hq _ fun q => (Bool.false_ne_true q).elim))
  rename_i he
  refine wpAny_bind (told_none X e k ?_)
  simp only [Bool.false_eq_true, if_false]
  refine wpAny_bind (told_none X e k ?_)
  simp only [Bool.false_eq_true, if_false]
  exact wpAny_bind (wpAny_rule (wpAny_bind (wpAny_askSetting (wpAny_pure (wpAny_pure (hq _ fun _ => by simpa using he))))))

/-- strs with tokens below a count -/
inductive StrsT (T : Nat) : List Value → List Str → Prop
  | nil : StrsT T [] []
  | cons {x : Str} {t : Nat} {vs : List Value} {xs : List Str} : TB t T → StrsT T vs xs → StrsT T (.str x t :: vs) (x :: xs)
theorem StrsT.up {T T' : Nat} {vs : List Value} {xs : List Str} (h : StrsT T vs xs) (hT : T ≤ T') : StrsT T' vs xs := by
  induction h with
  | nil => exact .nil
  | cons a _ ih => exact .cons (a.up hT) ih
theorem StrsT.length {T : Nat} {vs : List Value} {xs : List Str} (h : StrsT T vs xs) : vs.length = xs.length := by
  induction h with
  | nil => rfl
  | cons _ _ ih => simp [ih]
theorem StrsT.are {T : Nat} {vs : List Value} {xs : List Str} (h : StrsT T vs xs) : StrsAre vs xs := by
  induction h with
  | nil => exact .nil
  | cons _ _ ih => exact .cons _ _ ih
theorem StrsT.append {T : Nat} {vs ws : List Value} {xs ys : List Str} (h : StrsT T vs xs) (k : StrsT T ws ys) : StrsT T (vs ++ ws) (xs ++ ys) := by
  induction h with
  | nil => exact k
  | cons a _ ih => exact .cons a ih
theorem StrsT.get {T : Nat} {vs : List Value} {xs : List Str} (h : StrsT T vs xs) {i : Nat} {v : Value} (e : vs[i]? = some v) : ∃ x t, xs[i]? = some x ∧ v = .str x t ∧ TB t T := by
  induction h generalizing i with
  | nil => simp at e
  | cons a _ ih =>
    cases i with
    | zero => simp at e; exact ⟨_, _, rfl, e.symm, a⟩
    | succ i => simpa using ih (by simpa using e)
theorem foldl_count (x : Str) (xs : List Str) (a : Int) : xs.foldl (fun a n => if n = x then a + 1 else a) a = a + (xs.count x : Int) := by
  induction xs generalizing a with
  | nil => simp
  | cons n r ih =>
    rw [List.foldl_cons, ih, List.count_cons]
    by_cases h : n = x
    · subst h; simp; omega
    · simp [h]
section
variable {prog : Program} {w : World} {A : Around} {E : Value → Shared → Prop} {s : Shared} {env : Env} {h₀ : Heap} {x : Str} {body : List Stmt} {Q : Flow → Shared → Prop}
/-- a for over a list of strs of the base that counts into one name -/
theorem count_iter {l : Addr} {vs : List Value} {xs : List Str} {T : Nat} {m₀ : Str → Option Value} {news : List (Addr × Obj)} {y yb z₀ : Str} {t₀ tz : Tok}
    (_hb : m₀ yb = some (.str z₀ tz)) (hh : A.handled = none) (hl : h₀.IsList l vs.toArray) (hi : StrsT T vs xs) (F : Fr h₀ env.locals s.heap m₀) (N : News h₀ env.locals s.heap news) (hy : m₀ y = some (.int 0 t₀)) (hyx : y ≠ x)
    (turn : ∀ n t a ta h tk own, n ∈ xs → TB t T → Fr h₀ env.locals h (fun z => if z = x then some (.str n t) else if z = y then some (.int a ta) else m₀ z) → News h₀ env.locals h own →
      wpAny (model prog w) A (execs body env) (InvPostG h₀ env.locals (fun m' nx => nx = [] ∧ (∃ t', m' y = some (.int (if n = z₀ then a + 1 else a) t')) ∧ ∀ z, z ≠ x → z ≠ y → m' z = m₀ z) own { s with heap := h, toks := tk } Q) E { s with heap := h, toks := tk })
    (done : ∀ (u : Str → Option Value) t h tk, Fr h₀ env.locals h (fun z => if z = x then u z else if z = y then some (.int (0 + xs.count z₀ : Int) t) else m₀ z) → Q .next { s with heap := h, toks := tk }) :
    wpAny (model prog w) A (pyIter (.ref l)) (fun it s₂ => LoopAtV prog w A h₀ env x body Q E it s₂) E s := by
  let g : Int → Str → Int := fun a n => if n = z₀ then a + 1 else a
  refine iter_vals (news := []) (fun i m nx => nx = [] ∧ (∃ t, m y = some (.int ((xs.take i).foldl g 0) t)) ∧ ∀ z, z ≠ x → z ≠ y → m z = m₀ z) hh hl F News.nil ⟨rfl, ⟨t₀, by simpa using hy⟩, fun _ _ _ => rfl⟩ ?_ ?_
  · rintro i v m₁ nx h tk own hv _ ⟨rfl, ⟨ta, ha⟩, hm⟩ F₁ N₁
    obtain ⟨n, t, hn, rfl, hT⟩ := hi.get hv
    have e : (fun z => if z = x then some (Value.str n t) else m₁ z) = fun z => if z = x then some (Value.str n t) else if z = y then some (Value.int ((xs.take i).foldl g 0) ta) else m₀ z := by
      funext z
      by_cases h1 : z = x
      · simp [h1]
      · simp only [if_neg h1]
        by_cases h2 : z = y
        · subst h2; simp [ha]
        · simp only [if_neg h2]; exact hm z h1 h2
    rw [e] at F₁
    have hs : (xs.take (i + 1)).foldl g 0 = g ((xs.take i).foldl g 0) n := by
      rw [List.take_add_one, hn]; simp
    rw [hs]
    exact turn n t _ ta h tk own (List.mem_of_getElem? hn) hT F₁ (by simpa using N₁)
  · rintro m₁ nx h tk ⟨rfl, ⟨t, ha⟩, hm⟩ F₁ _
    rw [hi.length, List.take_length, foldl_count] at ha
    refine done m₁ t h tk ?_
    have e : (fun z => if z = x then m₁ z else if z = y then some (Value.int (0 + xs.count z₀ : Int) t) else m₀ z) = m₁ := by
      funext z
      by_cases h1 : z = x
      · simp [h1]
      · simp only [if_neg h1]
        by_cases h2 : z = y
        · subst h2; simp [ha]
        · simp only [if_neg h2]; exact (hm z h1 h2).symm
    rw [e]; exact F₁
end
theorem tb_ne {t T tx : Nat} (h : TB t T) (hT : T ≤ tx) : t ≠ tx := Nat.ne_of_lt (Nat.lt_of_lt_of_le h.2 hT)
theorem TB.pos' {t k : Nat} (h : TB t k) : 0 < t := h.1
set_option maxHeartbeats 4000000 in
theorem countOf_c {w : World} {mean : ExcName → Option Value} {mg mb : Str → Option Value} {A : Around} {dp un : Nat} {gd : Option (List Code)} {A₀ : Around} {base h₀ : Heap} {outer : List Env} {env : Env} {L : Addr} {m : Str → Option Value} {s : Shared}
    {Q E : Value → Shared → Prop} {l : Addr} {vs : List Value} {xs : List Str} {x : Str} {tx T : Nat}
    (C : At w mean mg mb A dp un gd A₀ base h₀ outer env L m s.heap)
    (hl : s.heap.IsList l vs.toArray) (hx : StrsT T vs xs) (htx : 0 < tx) (hT : T ≤ tx)
    (ret : ∀ h' tk' t', Grow s.heap h' → Q (.int (xs.count x) t') { s with heap := h', toks := tk' }) :
    wpAny (model prog0 w) A (call (.ref 42) [.ref l, .str x tx]) Q E s := by
  w_top off
  k_with_none
  k_with "room" => ((try simp only [depth_under_make, depth_under_kw, depth_in1, depth_deeper, depth_caller, mkA_depth]); omega)
  k_with "pyIter ref" => (k_here; (with_reducible rename Fr _ _ _ _ => kF); (with_reducible rename News _ _ _ _ => kN); (with_reducible rename StrsT _ _ _ => kS); (with_unfolding_all refine count_iter (y := Str.ofString "count") (yb := Str.ofString "b") rfl rfl (by assumption) kS kF kN rfl (by decide) ?_ ?_); (all_goals intros))
  k_with "compareOp Is str str" => (k_here; (with_reducible rename Fr _ _ _ _ => kF); (refine is_str_rule (by k_asm) (by k_is) (Fr.keep kF) (TB.pos' (by assumption)) (by assumption) (fun q => absurd q (tb_ne (by assumption) (by assumption))) ?_); (intro bI hbI))
  k_with "exec For Name Name cons nil" => (k_here; (with_reducible rename Fr _ _ _ _ => kF); (with_unfolding_all refine For_invVF kF (by rfl) (by rfl) ?_ (by intro _; rfl) (fun _ _ h => False.elim h)))
  have kf0 : PySem.Challenge.rw_nq0007_01 = PySem.Challenge.rw_nq0007_01 → Mine.hd.heap_39 w.params = Mine.hd.heap_39 w.params := by (k_fill; exact fun _ => rfl)
  clear kf0
  refine enterP [("a", .ref l), ("b", .str x tx)] C (by k_is) (by k_is) (BindsTo.of_eq rfl) (locs rfl) rfl rfl rfl (by decide) ?_
  intro g L' h₁ tk htk F' N' B' X' T' G'
  have hl' : g.IsList l vs.toArray := G'.isList hl
  have hd := C.hd
  have hu := C.hu
  clear C
  k_steps
  all_goals first
    | (dsimp only; rw [Int.zero_add]; exact Back.ret (by assumption) (ret _ _ _ (G'.trans (Fr.keep (by assumption)))))
    | (refine InvEndG.intro (nx := []) (by assumption) (by assumption) ⟨rfl, ?_, (fun z h1 h2 => by simp only [h1, h2, if_false])⟩ (fun _ _ _ hb => nomatch hb) (fun _ hp => nomatch hp) (fun _ hp => hp)
       first
         | ((rename (((_ : Str) == _) = true) => hE); rw [if_pos (beq_iff_eq.mp hE)]; exact ⟨_, rfl⟩)
         | ((rename (((_ : Str) == _) = false) => hE); rw [if_neg (beq_eq_false_iff_ne.mp hE)]; exact ⟨_, rfl⟩)
         | ((rename (_ = true → _ = _) => hI); (rename (_ = true) => hB); rw [if_pos (hI hB)]; exact ⟨_, rfl⟩))
end Mine
end
section
open PySem PySem.W PyProof.Rows PySem.Calls
set_option maxRecDepth 100000
namespace Mine
abbrev lst (vs : List Value) (n : Nat) : Obj := { cls := .type "list", data := .seq vs.toArray n }
theorem hasattr_F {prog : Program} {w : World} {A : Around} {E : Value → Shared → Prop} {s : Shared} {h₀ : Heap} {L : Addr} {m : Str → Option Value} {l : Addr} {items : Array Value} {n : Nat} {t : Tok} {Q : Value → Shared → Prop} (F : Fr h₀ L s.heap m) (hl : h₀.get? l = some { cls := .type "list", data := .seq items n })
    (hq : ∀ h' tk, Fr h₀ L h' m → Q (.bool true) { s with heap := h', toks := tk }) : wpAny (model prog w) A (call (.builtin "hasattr") [.ref l, .str "__getitem__" t]) Q E s :=
  hasattr_list (F.keep _ _ hl) fun h' tk hg => hq h' tk (F.keeps hg)
theorem add_F {prog : Program} {w : World} {A : Around} {E : Value → Shared → Prop} {s : Shared} {h₀ : Heap} {L : Addr} {m : Str → Option Value} {l l2 : Addr} {vs vs2 : List Value} {n n2 : Nat} {Q : Value → Shared → Prop} (F : Fr h₀ L s.heap m) (hl : h₀.get? l = some (lst vs n)) (hl2 : h₀.get? l2 = some (lst vs2 n2))
    (hsz : vs.length + vs2.length ≤ sizeLine)
    (hq : ∀ D h', h₀.get? D = none → h'.get? D = some (lst (vs ++ vs2) 0) → Fr h₀ L h' m → Q (.ref D) { s with heap := h' }) : wpAny (model prog w) A (binaryOp .Add (.ref l) (.ref l2)) Q E s := by
  refine P.add_list (F.keep _ _ hl) (F.keep _ _ hl2) (hq _ _ (next_is_new F) ?_ (F.push _)) (by simpa using hsz)
  have := Heap.get?_push_size s.heap (o := { cls := .type "list", data := .seq (vs.toArray ++ vs2.toArray) }) rfl
  rw [this]
  simp
set_option maxHeartbeats 4000000 in
theorem concat_c {w : World} {mean : ExcName → Option Value} {mg mb : Str → Option Value} {A : Around} {dp un : Nat} {gd : Option (List Code)} {A₀ : Around} {base h₀ : Heap} {outer : List Env} {env : Env} {L : Addr} {m : Str → Option Value} {s : Shared}
    {Q E : Value → Shared → Prop} {l l2 : Addr} {vs vs2 : List Value} {n n2 : Nat}
    (C : At w mean mg mb A dp un gd A₀ base h₀ outer env L m s.heap)
    (hl : s.heap.get? l = some (lst vs n)) (hl2 : s.heap.get? l2 = some (lst vs2 n2)) (hsz : vs.length + vs2.length ≤ sizeLine)
    (ret : ∀ h' tk' D, Grow s.heap h' → s.heap.get? D = none → h'.get? D = some (lst (vs ++ vs2) 0) → Q (.ref D) { s with heap := h', toks := tk' }) :
    wpAny (model prog0 w) A (call (.ref 28) [.ref l, .ref l2]) Q E s := by
  w_top off
  k_with_none
  k_with "room" => ((try simp only [depth_under_make, depth_under_kw, depth_in1, depth_deeper, depth_caller, mkA_depth]); omega)
  k_with "call builtin:hasattr" => (k_here; (with_reducible rename Fr _ _ _ _ => kF); (refine hasattr_F kF (by assumption) ?_); intro _ _ _; (try dsimp only))
  k_with "binaryOp Add ref ref" => (k_here; (with_reducible rename Fr _ _ _ _ => kF); (refine add_F kF (by assumption) (by assumption) (by assumption) ?_); intro _ _ _ _ _; (try dsimp only))
  have kf0 : PySem.Challenge.rw_nq0007_01 = PySem.Challenge.rw_nq0007_01 → Mine.hd.heap_39 w.params = Mine.hd.heap_39 w.params := by (k_fill; exact fun _ => rfl)
  clear kf0
  refine enterP [("a", .ref l), ("b", .ref l2)] C (by k_is) (by k_is) (BindsTo.of_eq rfl) (locs rfl) rfl rfl rfl (by decide) ?_
  intro g L' h₁ tk htk F' N' B' X' T' G'
  have hl' := G' _ _ hl
  have hl2' := G' _ _ hl2
  have hd := C.hd
  have hu := C.hu
  clear C
  k_steps
  exact Back.ret (by assumption) (ret _ _ _ (G'.trans (Fr.keep (by assumption))) (Grow.none G' (by assumption)) (by assumption))
end Mine
end
section
open PySem PySem.W PyProof.Rows PySem.Calls PySem.Spec
set_option maxRecDepth 100000
namespace Mine
/-- what unorderable_list_difference does with the items, the last first -/
def uld : List Str → List Str → List Str → List Str × List Str
  | [], ys, zs => (zs, ys)
  | x :: r, ys, zs => if x ∈ ys then uld r (ys.erase x) zs else uld r ys (zs ++ [x])
theorem StrsT.snoc {T : Nat} {vs : List Value} {xs : List Str} (h : StrsT T vs xs) : vs = [] ∧ xs = [] ∨ ∃ vs' x t xs', vs = vs' ++ [.str x t] ∧ xs = xs' ++ [x] ∧ StrsT T vs' xs' ∧ TB t T := by
  induction h with
  | nil => exact .inl ⟨rfl, rfl⟩
  | @cons x t vs xs a hr ih =>
    refine .inr ?_
    rcases ih with ⟨rfl, rfl⟩ | ⟨vs', y, u, xs', rfl, rfl, h1, h2⟩
    · exact ⟨[], x, t, [], rfl, rfl, .nil, a⟩
    · exact ⟨.str x t :: vs', y, u, x :: xs', rfl, rfl, .cons a h1, h2⟩
theorem StrsT.at_ {T : Nat} {vs : List Value} {xs : List Str} (h : StrsT T vs xs) {x : Str} (hx : x ∈ xs) :
    ∃ (j : Nat) (hj : j < vs.length), isStrOf x vs[j] = true ∧ (∀ m (hm : m < vs.length), m < j → isStrOf x vs[m] = false) ∧ StrsT T (vs.eraseIdx j) (xs.erase x) := by
  induction h with
  | nil => cases hx
  | @cons y t vs xs a hr ih =>
    by_cases hy : y = x
    · subst hy
      refine ⟨0, by simp, by simp [isStrOf], fun m _ hm => absurd hm (Nat.not_lt_zero _), ?_⟩
      simpa using hr
    · have hx' : x ∈ xs := by
        rcases List.mem_cons.mp hx with h1 | h1
        · exact absurd h1.symm hy
        · exact h1
      obtain ⟨j, hj, h1, h2, h3⟩ := ih hx'
      refine ⟨j + 1, by simpa using hj, by simpa using h1, fun m hm hmj => ?_, ?_⟩
      · cases m with
        | zero => simp [isStrOf, hy]
        | succ m => simpa using h2 m (by simpa using hm) (by omega)
      · rw [List.erase_cons]
        simp only [beq_eq_false_iff_ne.mpr hy, Bool.false_eq_true, if_false, List.eraseIdx_cons_succ]
        exact .cons a h3
theorem StrsT.no {T : Nat} {vs : List Value} {xs : List Str} (h : StrsT T vs xs) {x : Str} (hx : x ∉ xs) : ∀ m (hm : m < vs.length), isStrOf x vs[m] = false := by
  induction h with
  | nil => intro m hm; simp at hm
  | @cons y t vs xs a hr ih =>
    intro m hm
    have h1 : x ≠ y := fun e => hx (e ▸ List.mem_cons_self)
    have h2 : x ∉ xs := fun e => hx (List.mem_cons_of_mem _ e)
    cases m with
    | zero => simp [isStrOf, Ne.symm h1]
    | succ m => simpa using ih h2 m (by simpa using hm)
section
variable {prog : Program} {w : World} {A : Around} {E : Value → Shared → Prop} {s : Shared} {h₀ : Heap} {L : Addr} {m : Str → Option Value} {news news' : List (Addr × Obj)} {g : Obj → List (Addr × Obj)} {D : Addr}
theorem truthy_N {vs : List Value} {n : Nat} {Q : Bool → Shared → Prop} (N : News h₀ L s.heap news) (hm : (D, lst vs n) ∈ news) (hz : vs.length ≤ 1000) (h : Q (!vs.isEmpty) { s with toks := s.toks + 1 + 1 }) : wpAny (model prog w) A (truthy (.ref D)) Q E s := by
  refine wpAny_truthy_list ⟨_, (N _ hm).1, rfl, n, rfl⟩ (by simp; omega) ?_
  simpa using h
theorem pop_N {vs : List Value} {v : Value} {n : Nat} {Q : Value → Shared → Prop} (F : Fr h₀ L s.heap m) (N : News h₀ L s.heap news) (U : UpdF D (lst (vs ++ [v]) n) news g) (hz : (vs ++ [v]).length ≤ 1000)
    (h : ∀ h' n', Fr h₀ L h' m → News h₀ L h' (g (lst vs n')) → Q v { s with heap := h' }) : wpAny (model prog w) A (call (.builtin "list.pop") [.ref D]) Q E s := by
  have U' : Upd D (listOf (vs ++ [v]).toArray n) (listOf vs.toArray (n + 1)) news (g (lst vs (n + 1))) := by
    clear N h
    induction U with
    | head h => exact .head h
    | tail h _ ih => exact .tail h ih
  refine kl_pop F N (p := vs) (y := v) ?_ U' ?_ fun h' F' N' => h h' _ F' N'
  · simpa using kpa_last v vs
  · have := sizeLine_eq; simp at hz ⊢; omega
theorem remove_N {ws : List Value} {ys : List Str} {T n : Nat} {x : Str} {t : Tok} {Q : Value → Shared → Prop} (hh : A.handled = none) (F : Fr h₀ L s.heap m) (N : News h₀ L s.heap news) (U : UpdF D (lst ws n) news g) (hS : StrsT T ws ys) (hz : ws.length ≤ 1000)
    (hyes : ∀ h' ws' n', x ∈ ys → StrsT T ws' (ys.erase x) → Fr h₀ L h' m → News h₀ L h' (g (lst ws' n')) → Q .none { s with heap := h' })
    (hno : ∀ h' tk e, x ∉ ys → Heap.NewExc s.heap h' e "ValueError" → E (.ref e) { s with heap := h', toks := tk }) : wpAny (model prog w) A (call (.builtin "list.remove") [.ref D, .str x t]) Q E s := by
  have hD : (D, lst ws n) ∈ news := by
    clear N hyes
    induction U with
    | head => exact .head _
    | tail _ _ ih => exact .tail _ ih
  have z := N _ hD
  have hs1 : ws.toArray.size ≤ sizeLine := by have := sizeLine_eq; simp; omega
  have he : ∀ y, y ∈ ws.toArray → MeetsSeq.EqGives y (.str x t) (isStrOf x y) := fun y hy => eq_isStrOf x t hS.are y (by simpa using hy)
  by_cases hx : x ∈ ys
  · obtain ⟨j, hj, h1, h2, h3⟩ := hS.at_ hx
    refine call_meets PySem.F.slot_list_remove ⟨_, z.1, rfl⟩ PySem.F.entry_list_remove (PySem.F.args_list_remove_2 _ _) (MeetsSeq.list_remove D ws.toArray n (.str x t) (isStrOf x) he j (by simpa using hj) (by simpa using h1) (fun m hm hmj => by simpa using h2 m (by simpa using hm) hmj) hs1) ⟨z.1, ?_⟩
    obtain ⟨pre, post, rfl, e2, a, b⟩ := U.split
    obtain ⟨F', N'⟩ := news_upd (f := Obj.mapSeq fun xs => xs.eraseIdxIfInBounds j) (o' := lst (ws.eraseIdx j) (n + 1)) F N a b (by
      show Obj.mapSeq _ _ = _
      simp only [Obj.mapSeq]
      have : (ws.toArray.eraseIdxIfInBounds j) = (ws.eraseIdx j).toArray := by simp
      simp [this, List.length_eraseIdx, hj]
      omega) rfl
    exact hyes _ _ _ hx h3 F' (by rw [e2]; exact N')
  · exact call_meets PySem.F.slot_list_remove ⟨_, z.1, rfl⟩ PySem.F.entry_list_remove (PySem.F.args_list_remove_2 _ _) (MeetsSeq.list_remove_none D ws.toArray n (.str x t) (isStrOf x) he (fun m hm => by simpa using hS.no hx m (by simpa using hm))) ⟨z.1, hh, fun h' tk e q => hno h' tk e hx q⟩
end
end Mine
end
section
open PySem PySem.W PyProof.Rows PySem.Calls PySem.Spec
set_option maxRecDepth 100000
namespace Mine
/-- the heap as it was when the object at L was made -/
def trunc (h : Heap) (L : Addr) : Heap := { h with objs := h.objs.extract 0 L }
theorem trunc_size (h : Heap) (L : Nat) : (trunc h L).objs.size ≤ L := by
  show (h.objs.extract 0 L).size ≤ L
  rw [Array.size_extract]; omega
theorem trunc_some {h : Heap} {L b : Nat} {o : Obj} (e : (trunc h L).get? b = some o) : b < L ∧ h.get? b = some o := by
  obtain ⟨e1, e2⟩ := Heap.get?_some_iff.mp e
  have e3 : (h.objs.extract 0 L)[b]? = some o := e1
  rw [Array.getElem?_extract] at e3
  split at e3
  · rename_i hb
    refine ⟨by omega, Heap.get?_some_iff.mpr ⟨by simpa using e3, e2⟩⟩
  · cases e3
theorem trunc_get {h : Heap} {L b : Nat} {o : Obj} (e : h.get? b = some o) (hb : b < L) : (trunc h L).get? b = some o := by
  obtain ⟨e1, e2⟩ := Heap.get?_some_iff.mp e
  refine Heap.get?_some_iff.mpr ⟨?_, e2⟩
  show (h.objs.extract 0 L)[b]? = some o
  have hs : @LT.lt Nat _ b h.objs.size := Heap.lt_size e
  rw [Array.getElem?_extract, if_pos (by omega)]
  simpa using e1

/-- where a call is made from, told of the heap at hand: the frames above stand in it -/
structure AtF (w : World) (mean : ExcName → Option Value) (mg mb : Str → Option Value) (A : Around) (dp un : Nat) (gd : Option (List Code)) (base : Heap) (outer : List Env) (env : Env) (L : Addr) (m : Str → Option Value) (frs : List (Addr × Obj)) (h : Heap) : Prop where
  hA : A = mkA dp un gd env outer
  ns : h.Ns L m
  X : (Mine.hd.heap_39 w.params).In base
  T : Top0 mean mg mb base
  stays : Grow base h
  lo : base.objs.size ≤ L
  fs : TI.Frs outer frs
  fh : ∀ p ∈ frs, h.get? p.1 = some p.2 ∧ @LT.lt Nat _ p.1 L ∧ base.get? p.1 = none
  hf : env.frame = some L
  hk : env.scope.kind = .function
  hd : dp + 20 < recursionLimit
  hu : un + 1000 < cLine
theorem funFrames_of {h base : Heap} : ∀ {l : List Env} {frs : List (Addr × Obj)}, TI.Frs l frs → (∀ p ∈ frs, h.get? p.1 = some p.2 ∧ base.get? p.1 = none) → h.FunFrames base l
  | [], _, _, _ => trivial
  | env :: l, [], hf, _ => False.elim hf
  | env :: l, p :: frs, hf, hh => by
    obtain ⟨h1, h2, ⟨es, ep, h3⟩, h4⟩ := hf
    obtain ⟨a, b⟩ := hh p (.head _)
    exact ⟨h1, ⟨p.1, p.2, h2, b, a, fun vs q => by rw [h3] at q; cases q⟩, funFrames_of h4 fun q hq => hh q (.tail _ hq)⟩
theorem AtF.at {w : World} {mean : ExcName → Option Value} {mg mb : Str → Option Value} {A : Around} {dp un : Nat} {gd : Option (List Code)} {base : Heap} {outer : List Env} {env : Env} {L : Addr} {m : Str → Option Value} {frs : List (Addr × Obj)} {h : Heap}
    (C : AtF w mean mg mb A dp un gd base outer env L m frs h) : At w mean mg mb A dp un gd { frames := some outer } base (trunc h L) outer env L m h := by
  obtain ⟨hA, ns, X, T, st, lo, fs, fh, hf, hk, hd, hu⟩ := C
  have bt : Grow base (trunc h L) := fun b o e => trunc_get (st b o e) (Nat.lt_of_lt_of_le (Heap.lt_size e) lo)
  exact ⟨hA, ⟨rfl, bt, funFrames_of fs fun p hp => ⟨trunc_get (fh p hp).1 (fh p hp).2.1, (fh p hp).2.2⟩⟩, ⟨ns, fun b o e => (trunc_some e).2, trunc_size _ _⟩, X.keeps bt, T.keeps bt, hf, hk, hd, hu⟩

def Gets (Q : Value → Shared → Prop) (fl : Flow) (s' : Shared) : Prop := Q (match fl with | .ret v => v | _ => .none) s'
/-- a call with the frames above hidden from the base: what its own try does to them may be told -/
theorem enterU {w : World} {mean : ExcName → Option Value} {mg mb : Str → Option Value} {A : Around} {dp un : Nat} {gd : Option (List Code)} {base : Heap} {outer : List Env} {env : Env} {L : Addr} {m : Str → Option Value} {frs : List (Addr × Obj)} {s : Shared}
    {Q E : Value → Shared → Prop} {name qual : Str} {params : Arguments} {body : List Stmt} {scope : Scope} {dV kV doc pm cdv ct oc : Value} {an od : Option Addr} {osl : Array (Option Value)} {f : Addr} {args : List Value} (binds : List (Str × Value)) {new : List (Addr × Obj)}
    (C : AtF w mean mg mb A dp un gd base outer env L m frs s.heap) (hn : ∀ p ∈ new, s.heap.get? p.1 = some p.2 ∧ base.get? p.1 = none ∧ ∀ es ep, p.2.data ≠ .dict es ep)
    (ho : (Mine.hd.heap_39 w.params).lookup f = some ⟨oc, od, .func (fnOf name qual params body scope dV kV doc pm an cdv ct), osl⟩) (hcd : codeIn (Mine.hd.heap_39 w.params) cdv qual = true)
    (hbind : BindsTo s (fnOf name qual params body scope dV kV doc pm an cdv ct) ⟨args, []⟩ binds) (hloc : ∀ y ∈ binds, scope.names.lookup y.1 = some .local)
    (hco : scope.isCoroutine = false) (hgen : scope.isGenerator = false) (hk : scope.kind = .function) (hcell : ∀ x ∈ scope.names, x.2 ≠ .cell)
    (h : ∀ hb L' h₁ tk oL, s.toks + binds.length ≤ tk → s.heap.get? L = some oL → (∃ es ep, oL.data = .dict es ep) → TI.Frs (env :: outer) ((L, oL) :: frs) → (∀ p ∈ (L, oL) :: frs, ∀ q ∈ new, p.1 ≠ q.1) → (∀ p ∈ new ++ (L, oL) :: frs, p.1 < L') →
      Fr hb L' h₁ (fun y => binds.reverse.lookup y) → News hb L' h₁ (new ++ (L, oL) :: frs) → (Mine.hd.heap_39 w.params).In hb → Top0 mean mg mb hb →
      (∀ b o, s.heap.get? b = some o → (∀ p ∈ new ++ (L, oL) :: frs, p.1 ≠ b) → hb.get? b = some o) → (∀ b o, hb.get? b = some o → s.heap.get? b = some o) → Grow s.heap h₁ →
      wpAny (model prog0 w) ((mkA dp un gd env outer).deeper (envOf qual scope L' f cdv)) (execs body (envOf qual scope L' f cdv)) (Gets Q) Never { s with heap := h₁, toks := tk }) :
    wpAny (model prog0 w) A (call (.ref f) args) Q E s := by
  obtain ⟨rfl, ns, X, T, st, lo, fs, fh, hf, hke, hd, hu⟩ := C
  refine wpAny_call ?_
  refine codeAny_call_def (fd := fnX name qual params body scope [] dV kV doc pm an cdv ct) (body := body) (binds := binds) (by show dp < _; omega) ((X.keeps st) _ _ ho) rfl (T.nolimit.keeps st) (codeRec_of (X.keeps st) hcd) rfl hbind hcell hloc (fun h₁ hns hk₁ => ?_) hco hgen hk
  obtain ⟨oL, es, ep, hL, hLd, hLk, hLf⟩ := id ns
  have hbL : base.get? L = none := Heap.get?_none_of_le lo
  generalize hal : new ++ (L, oL) :: frs = all
  have hall : ∀ p ∈ all, s.heap.get? p.1 = some p.2 ∧ base.get? p.1 = none := fun p hp => by
    rw [← hal] at hp
    rcases List.mem_append.mp hp with q | q
    · exact ⟨(hn p q).1, (hn p q).2.1⟩
    · rcases List.mem_cons.mp q with rfl | q
      · exact ⟨hL, hbL⟩
      · exact ⟨(fh p q).1, (fh p q).2.2⟩
  have st' : Grow base (hideAll s.heap (all.map (·.1))) := fun b o e => hideAll_get _ (st b o e) fun q => by
    obtain ⟨p, hp, rfl⟩ := List.mem_map.mp q
    rw [(hall p hp).2] at e; cases e
  have hfs : TI.Frs (env :: outer) ((L, oL) :: frs) := ⟨by rw [hke]; decide, hf, ⟨es, ep, hLd⟩, fs⟩
  have h := h (hideAll s.heap (all.map (·.1))) s.heap.objs.size h₁ (s.toks + binds.length) oL
  rw [hal] at h
  refine wpAny_mono (h (Nat.le_refl _) hL ⟨es, ep, hLd⟩ hfs ?_ (fun p hp => Heap.lt_size (hall p hp).1) ⟨hns, fun b o e => hk₁ b o (of_hideAll _ e), Nat.le_of_eq (hideAll_size _ _)⟩
    (fun p hp => ⟨hk₁ _ _ (hall p hp).1, Nat.ne_of_lt (Heap.lt_size (hall p hp).1), hideAll_none _ (List.mem_map_of_mem hp)⟩) (X.keeps st') (T.keeps st')
    (fun b o e hne => hideAll_get _ e fun q => by obtain ⟨p, hp, rfl⟩ := List.mem_map.mp q; exact hne p hp rfl) (fun b o e => of_hideAll _ e) hk₁) (fun fl s' hl => hl) (fun _ _ x => x.elim)
  intro p hp q hq e
  have h1 := (hall p (by rw [← hal]; exact List.mem_append_right _ hp)).1
  rw [e, (hn q hq).1] at h1
  have h2 : q.2 = p.2 := Option.some.inj h1
  obtain ⟨es', ep', h3⟩ : ∃ es ep, p.2.data = .dict es ep := by
    rcases List.mem_cons.mp hp with rfl | hp
    · exact ⟨es, ep, hLd⟩
    · exact TI.Frs.dict fs p hp
  exact (hn q hq).2.2 es' ep' (by rw [h2]; exact h3)
end Mine
end
section
open PySem PySem.W PyProof.Rows PySem.Calls PySem.Spec
set_option maxRecDepth 100000
namespace Mine
theorem sameUp_fst : ∀ {a b : List (Addr × Obj)}, TI.SameUp a b → a.map (·.1) = b.map (·.1)
  | [], [], _ => rfl
  | [], _ :: _, h => False.elim h
  | _ :: _, [], h => False.elim h
  | p :: a, q :: b, ⟨h1, _, h3⟩ => by simp [h1, sameUp_fst h3]
theorem apart_up {a b : List (Addr × Obj)} {d : Addr} (h : TI.SameUp a b) (k : ∀ p ∈ a, p.1 ≠ d) : ∀ p ∈ b, p.1 ≠ d := fun p hp e => by
  have h1 : d ∈ b.map (·.1) := List.mem_map.mpr ⟨p, hp, e⟩
  rw [← sameUp_fst h] at h1
  obtain ⟨q, hq, e'⟩ := List.mem_map.mp h1
  exact k q hq e'
section
variable {prog : Program} {w : World} {A : Around} {E : Value → Shared → Prop} {s : Shared} {h₀ : Heap} {L : Addr} {env : Env} {m : Str → Option Value} {news news' : List (Addr × Obj)} {D : Addr}
theorem truthy_snoc {vs : List Value} {v : Value} {n : Nat} {Q : Bool → Shared → Prop} (N : News h₀ L s.heap news) (hm : (D, lst (vs ++ [v]) n) ∈ news) (hz : (vs ++ [v]).length ≤ 1000) (h : Q true { s with toks := s.toks + 1 + 1 }) : wpAny (model prog w) A (truthy (.ref D)) Q E s := by
  refine truthy_N N hm hz ?_
  have e : (!(vs ++ [v]).isEmpty) = true := by cases vs <;> rfl
  rw [e]; exact h
theorem truthy_nil {n : Nat} {Q : Bool → Shared → Prop} (N : News h₀ L s.heap news) (hm : (D, lst [] n) ∈ news) (h : Q false { s with toks := s.toks + 1 + 1 }) : wpAny (model prog w) A (truthy (.ref D)) Q E s := by
  refine truthy_N N hm (by simp) ?_
  simpa using h
theorem append_N {ms : List Value} {v : Value} {n : Nat} {g : Obj → List (Addr × Obj)} {Q : Value → Shared → Prop} (F : Fr h₀ L s.heap m) (N : News h₀ L s.heap news) (U : UpdF D (lst ms n) news g) (hz : ms.length ≤ 1000)
    (h : ∀ h' n', Fr h₀ L h' m → News h₀ L h' (g (lst (ms ++ [v]) n')) → Q .none { s with heap := h' }) : wpAny (model prog w) A (call (.builtin "list.append") [.ref D, v]) Q E s := by
  have U' : Upd D (listOf ms.toArray n) (listOf (ms.toArray.push v) (n + 1)) news (g (lst (ms ++ [v]) (n + 1))) := by
    have e : listOf (ms.toArray.push v) (n + 1) = lst (ms ++ [v]) (n + 1) := by simp
    rw [e]
    clear N h
    induction U with
    | head h => exact .head h
    | tail h _ ih => exact .tail h ih
  exact append_K F N U' (fun h' F' N' => h h' _ F' N') (by have := sizeLine_eq; simp; omega)
theorem noted_U {A₀ : Around} {s' : Shared} {h : Heap} {a e : Addr} {name : Str} {scope : Scope} {cd : Value} {Q : Unit → Shared → Prop} {X : String} {l : List Env} {frs : List (Addr × Obj)} {p1 p2 p3 : Addr × Obj}
    (hfr : A₀.frames = some l) (Fs : TI.Frs l frs) (hx : Heap.NewExc h s'.heap e X) (F : Fr h₀ L h m) (N : News h₀ L h (p1 :: p2 :: p3 :: frs)) (h1 : ∀ q ∈ frs, q.1 ≠ p1.1) (h2 : ∀ q ∈ frs, q.1 ≠ p2.1) (h3 : ∀ q ∈ frs, q.1 ≠ p3.1)
    (k : ∀ h' frs', TI.SameUp frs frs' → TI.Frs l frs' → (∀ q ∈ frs', q.1 ≠ p1.1) → (∀ q ∈ frs', q.1 ≠ p2.1) → (∀ q ∈ frs', q.1 ≠ p3.1) → TT.HeldN h₀ L h' m e X (p1 :: p2 :: p3 :: frs') → Q () { s' with heap := h' }) (hk : scope.kind = .function := by rfl) :
    wpAny (model prog w) (A₀.deeper (envOf name scope L a cd)) (noteFrame (.ref e) (envOf name scope L a cd)) Q E s' := by
  refine TLg.noted_newA (new := [p1, p2, p3]) hfr Fs hx F N (fun p hp hm => ?_) (fun h' frs' SU Fs' H => k h' frs' SU Fs' (apart_up SU h1) (apart_up SU h2) (apart_up SU h3) H) hk
  rcases List.mem_cons.mp hm with q | hm
  · exact (N p (List.mem_append_left frs hp)).2.1 q
  · obtain ⟨r, hr, e⟩ := List.mem_map.mp hm
    rcases List.mem_cons.mp hp with rfl | hp
    · exact h1 r hr e
    · rcases List.mem_cons.mp hp with rfl | hp
      · exact h2 r hr e
      · exact h3 r hr (by rw [e, List.mem_singleton.mp hp])

def UldEnd (h₀ : Heap) (L : Addr) (s : Shared) (m₀ : Str → Option Value) (it : Str) (M e a : Addr) (frs : List (Addr × Obj)) (T : Nat) (vs : List Value) (R : List Str × List Str) (xr : List Str) (f : Flow) (s₃ : Shared) : Prop :=
  f = .next ∧ ∃ h' tk m₂ ws ms ys zs k1 k2 k3 frs', s₃ = { s with heap := h', toks := tk } ∧ Fr h₀ L h' m₂ ∧ News h₀ L h' ((M, lst ms k3) :: (e, lst vs k1) :: (a, lst ws k2) :: frs') ∧ TI.SameUp frs frs' ∧ StrsT T ws ys ∧ StrsT T ms zs ∧
    uld xr ys zs = R ∧ (∀ z, z ≠ it → m₂ z = m₀ z) ∧ ws.length ≤ 1000 ∧ ms.length + vs.length ≤ 1000
theorem uld_while {test : Expr} {body : List Stmt} {pos : Pos} {Q : Flow → Shared → Prop} {M e a : Addr} {T : Nat} {vs ws ms : List Value} {xs ys zs : List Str} {k1 k2 k3 : Nat} {it : Str} {frs : List (Addr × Obj)} {l : List Env}
    (F : Fr h₀ L s.heap m) (N : News h₀ L s.heap ((M, lst ms k3) :: (e, lst vs k1) :: (a, lst ws k2) :: frs)) (hS : StrsT T vs xs) (hW : StrsT T ws ys) (hM : StrsT T ms zs) (hz1 : ws.length ≤ 1000) (hz2 : ms.length + vs.length ≤ 1000) (_hn : m it = none)
    (Fs : TI.Frs l frs) (a1 : ∀ p ∈ frs, p.1 ≠ M) (a2 : ∀ p ∈ frs, p.1 ≠ e) (a3 : ∀ p ∈ frs, p.1 ≠ a)
    (hE : PassesOwn (model prog w) A env E)
    (hnil : ∀ ws ms k1 k2 k3 frs' (u : Str → Option Value) h tk, StrsT T ws (uld xs.reverse ys zs).2 → StrsT T ms (uld xs.reverse ys zs).1 → TI.SameUp frs frs' → (∀ p ∈ frs', p.1 ≠ M) → (∀ p ∈ frs', p.1 ≠ e) → (∀ p ∈ frs', p.1 ≠ a) → Fr h₀ L h (fun z => if z = it then u z else m z) → News h₀ L h ((M, lst ms k3) :: (e, lst [] k1) :: (a, lst ws k2) :: frs') →
      wpAny (model prog w) A (isTrue test env (eval test env)) (fun b s₂ => if b = true then False else Q .next s₂) E { s with heap := h, toks := tk })
    (hsnoc : ∀ vs x t ws ms xr ys zs k1 k2 k3 frs' (u : Str → Option Value) h tk, StrsT T ws ys → StrsT T ms zs → TB t T → ws.length ≤ 1000 → ms.length + (vs ++ [Value.str x t]).length ≤ 1000 → TI.SameUp frs frs' → TI.Frs l frs' → (∀ p ∈ frs', p.1 ≠ M) → (∀ p ∈ frs', p.1 ≠ e) → (∀ p ∈ frs', p.1 ≠ a) → Fr h₀ L h (fun z => if z = it then u z else m z) →
      News h₀ L h ((M, lst ms k3) :: (e, lst (vs ++ [Value.str x t]) k1) :: (a, lst ws k2) :: frs') →
      wpAny (model prog w) A (isTrue test env (eval test env)) (fun b s₂ => if b = true then wpAny (model prog w) A (execs body env) (UldEnd h₀ L s m it M e a frs T vs (uld (x :: xr) ys zs) xr) E s₂ else False) E { s with heap := h, toks := tk }) :
    wpAny (model prog w) A (exec (.While test body [] pos) env) Q E s := by
  refine While_inv2 (fun n m' nx => ∃ vs ws ms xs' ys' zs' k1 k2 k3 frs', nx = (M, lst ms k3) :: (e, lst vs k1) :: (a, lst ws k2) :: frs' ∧ TI.SameUp frs frs' ∧ StrsT T vs xs' ∧ StrsT T ws ys' ∧ StrsT T ms zs' ∧ vs.length = n ∧ ws.length ≤ 1000 ∧ ms.length + vs.length ≤ 1000 ∧
    uld xs'.reverse ys' zs' = uld xs.reverse ys zs ∧ ∀ z, z ≠ it → m' z = m z) F N ⟨vs, ws, ms, xs, ys, zs, k1, k2, k3, frs, rfl, TI.SameUp.refl _, hS, hW, hM, rfl, hz1, hz2, rfl, fun _ _ => rfl⟩ ?_ hE
  rintro n m₁ nx h tk F₁ N₁ ⟨vs, ws, ms, xs', ys', zs', k1, k2, k3, frs', rfl, SU, hS, hW, hM, rfl, hz1, hz2, hu, hm⟩
  have em : m₁ = fun z => if z = it then m₁ z else m z := by
    funext z
    by_cases h1 : z = it
    · simp [h1]
    · simp only [if_neg h1]; exact hm z h1
  rw [em] at F₁
  rcases hS.snoc with ⟨rfl, rfl⟩ | ⟨vs', x, t, xs'', rfl, rfl, h1, h2⟩
  · have hu' : uld xs.reverse ys zs = (zs', ys') := hu.symm
    refine wpAny_mono (hnil ws ms k1 k2 k3 frs' m₁ h tk (by rw [hu']; exact hW) (by rw [hu']; exact hM) SU (apart_up SU a1) (apart_up SU a2) (apart_up SU a3) F₁ N₁) (fun b s₂ p => ?_) fun _ _ q => q
    cases b with
    | true => simp at p
    | false => simpa using p
  · rw [List.reverse_append] at hu
    refine wpAny_mono (hsnoc vs' x t ws ms xs''.reverse ys' zs' k1 k2 k3 frs' m₁ h tk hW hM h2 hz1 hz2 SU (Fs.up SU) (apart_up SU a1) (apart_up SU a2) (apart_up SU a3) F₁ N₁) (fun b s₂ p => ?_) fun _ _ q => q
    cases b with
    | false => simp at p
    | true =>
      simp only [if_true] at p ⊢
      refine wpAny_mono p (fun f s₃ q => ?_) fun _ _ q => q
      obtain ⟨rfl, h', tk', m₂, ws', ms', ys', zs', j1, j2, j3, frs'', rfl, F', N', SU', hW', hM', hu', hm', hz1', hz2'⟩ := q
      exact ⟨h', tk', m₂, _, vs'.length, rfl, F', N', by simp, vs', ws', ms', xs'', ys', zs', j1, j2, j3, frs'', rfl, SU', h1, hW', hM', rfl, hz1', hz2', hu'.trans hu, hm'⟩
end
end Mine
end
section
open PySem PySem.W PyProof.Rows PySem.Calls PySem.Spec
set_option maxRecDepth 100000
namespace Mine
structure UldIn (T : Nat) (vs ws : List Value) (xs ys : List Str) (l : List Env) (frs : List (Addr × Obj)) (e a : Addr) : Prop where
  sa : StrsT T vs xs
  sb : StrsT T ws ys
  z1 : vs.length ≤ 500
  z2 : ws.length ≤ 500
  fs : TI.Frs l frs
  ne : ∀ p ∈ frs, p.1 ≠ e
  na : ∀ p ∈ frs, p.1 ≠ a
theorem UldIn.c {T : Nat} {vs ws : List Value} {xs ys : List Str} {l : List Env} {frs : List (Addr × Obj)} {e a : Addr} (h : UldIn T vs ws xs ys l frs e a) : ws.length ≤ 1000 := Nat.le_trans h.z2 (by decide)
theorem UldIn.d {T : Nat} {vs ws : List Value} {xs ys : List Str} {l : List Env} {frs : List (Addr × Obj)} {e a : Addr} (h : UldIn T vs ws xs ys l frs e a) : ([] : List Value).length + vs.length ≤ 1000 := by have := h.z1; simp; omega
theorem allLt_ne {M : Nat} : ∀ {l : List (Addr × Obj)}, AllLt M l → ∀ p ∈ l, p.1 ≠ M
  | [], _, _, h => nomatch h
  | _ :: _, ⟨h1, h2⟩, p, h => by
    rcases List.mem_cons.mp h with rfl | h
    · exact Nat.ne_of_lt h1
    · exact allLt_ne h2 p h
theorem lt_of_and {a b c : Nat} {P : Prop} (h : a < c ∧ b < c ∧ P) : P := h.2.2
theorem neN' {a b : Nat} (h : a ≠ b) : a ≠ b := h
theorem uldEnd_yes {h₀ : Heap} {L : Addr} {s : Shared} {m₀ m₂ : Str → Option Value} {it : Str} {M e a : Addr} {frs frs' : List (Addr × Obj)} {T : Nat} {vs ws ws' ms : List Value} {ys zs xr : List Str} {x : Str} {t : Nat} {h' : Heap} {tk k1 k2 k3 : Nat}
    (N : News h₀ L h' ((M, lst ms k3) :: (e, lst vs k1) :: (a, lst ws' k2) :: frs')) (F : Fr h₀ L h' m₂) (SU : TI.SameUp frs frs') (hx : x ∈ ys) (hW : StrsT T ws ys) (hW' : StrsT T ws' (ys.erase x)) (hM : StrsT T ms zs) (hz : ws.length ≤ 1000) (hz2 : ms.length + (vs ++ [Value.str x t]).length ≤ 1000)
    (hm : ∀ z, z ≠ it → m₂ z = m₀ z) : UldEnd h₀ L s m₀ it M e a frs T vs (uld (x :: xr) ys zs) xr .next { s with heap := h', toks := tk } := by
  refine ⟨rfl, h', tk, m₂, ws', ms, ys.erase x, zs, k1, k2, k3, frs', rfl, F, N, SU, hW', hM, ?_, hm, ?_, ?_⟩
  · show _ = (if x ∈ ys then _ else _); rw [if_pos hx]
  · rw [hW'.length]; rw [hW.length] at hz; exact Nat.le_trans (List.length_erase_le ..) hz
  · simp at hz2; omega
theorem uldEnd_no {h₀ : Heap} {L : Addr} {s : Shared} {m₀ m₂ : Str → Option Value} {it : Str} {M e a : Addr} {frs frs' frs'' : List (Addr × Obj)} {T : Nat} {vs ws ms : List Value} {ys zs xr : List Str} {x : Str} {t : Nat} {h' : Heap} {tk k1 k2 k3 : Nat}
    (N : News h₀ L h' ((M, lst (ms ++ [.str x t]) k3) :: (e, lst vs k1) :: (a, lst ws k2) :: frs'')) (F : Fr h₀ L h' m₂) (SU : TI.SameUp frs frs') (SU' : TI.SameUp frs' frs'') (hx : x ∉ ys) (hW : StrsT T ws ys) (hM : StrsT T ms zs) (ht : TB t T) (hz : ws.length ≤ 1000) (hz2 : ms.length + (vs ++ [Value.str x t]).length ≤ 1000)
    (hm : ∀ z, z ≠ it → m₂ z = m₀ z) : UldEnd h₀ L s m₀ it M e a frs T vs (uld (x :: xr) ys zs) xr .next { s with heap := h', toks := tk } := by
  refine ⟨rfl, h', tk, m₂, ws, ms ++ [.str x t], ys, zs ++ [x], k1, k2, k3, frs'', rfl, F, N, SU.trans SU', hW, hM.append (.cons ht .nil), ?_, hm, hz, ?_⟩
  · show _ = (if x ∈ ys then _ else _); rw [if_neg hx]
  · simp at hz2 ⊢; omega
theorem allLt_of_sameUp {d : Nat} : ∀ {a b : List (Addr × Obj)}, TI.SameUp a b → AllLt d b → ∀ p ∈ a, p.1 ≠ d := fun {a b} h k p hp e => by
  have h1 : d ∈ a.map (·.1) := List.mem_map.mpr ⟨p, hp, e⟩
  rw [sameUp_fst h] at h1
  obtain ⟨q, hq, e'⟩ := List.mem_map.mp h1
  exact allLt_ne k q hq e'
set_option maxHeartbeats 4000000 in
theorem uld_c {w : World} {mean : ExcName → Option Value} {mg mb : Str → Option Value} {A : Around} {dp un : Nat} {gd : Option (List Code)} {base : Heap} {outer : List Env} {env : Env} {L : Addr} {m : Str → Option Value} {frs : List (Addr × Obj)} {s : Shared}
    {Q E : Value → Shared → Prop} {e a : Addr} {vs ws : List Value} {xs ys : List Str} {k1 k2 T : Nat}
    (C : AtF w mean mg mb A dp un gd base outer env L m frs s.heap) (he : s.heap.get? e = some (lst vs k1)) (ha : s.heap.get? a = some (lst ws k2)) (hea : e ≠ a) (hbe : base.get? e = none) (hba : base.get? a = none)
    (hS : StrsT T vs xs) (hW : StrsT T ws ys) (hz : vs.length ≤ 500) (hz2 : ws.length ≤ 500)
    (ret : ∀ h' tk' M D ms ws' j1 j2 j3 oL oL' frs', (∀ b o, b ≠ e → b ≠ a → b ≠ L → (∀ p ∈ frs, p.1 ≠ b) → s.heap.get? b = some o → h'.get? b = some o) → s.heap.get? L = some oL → TI.SameUp ((L, oL) :: frs) ((L, oL') :: frs') → h'.get? L = some oL' → (∀ p ∈ frs', h'.get? p.1 = some p.2) →
      s.heap.get? M = none → s.heap.get? D = none → M ≠ D →
      h'.get? M = some (lst ms j3) → h'.get? a = some (lst ws' j2) → h'.get? e = some (lst [] j1) → h'.get? D = some { cls := .type "tuple", data := .seq #[.ref M, .ref a] } →
      StrsT T ms (uld xs.reverse ys []).1 → StrsT T ws' (uld xs.reverse ys []).2 → Q (.ref D) { s with heap := h', toks := tk' }) :
    wpAny (model prog0 w) A (call (.ref 136) [.ref e, .ref a]) Q E s := by
  w_top off
  k_with_none
  k_with "room" => ((try simp only [depth_under_make, depth_under_kw, depth_in1, depth_deeper, depth_caller, mkA_depth]); omega)
  k_with "exec While Name cons nil" => (k_here; (with_reducible rename Fr _ _ _ _ => kF); (with_reducible rename News _ _ _ _ => kN); (with_reducible rename UldIn _ _ _ _ _ _ _ _ _ => kU); (with_unfolding_all refine uld_while (it := Str.ofString "item") (zs := []) kF kN (UldIn.sa kU) (UldIn.sb kU) StrsT.nil (UldIn.c kU) (UldIn.d kU) rfl (UldIn.fs kU) (allLt_ne (lt_of_and (by assumption))) (UldIn.ne kU) (UldIn.na kU) (fun _ _ h => False.elim h) ?_ ?_); (all_goals intros))
  k_with "truthy ref" => (k_here; (with_reducible show wpAny _ _ (truthy (Value.ref _)) _ _ _); first | (refine truthy_snoc (by k_asm) (by k_mem) (by simp only [List.length_append, List.length_cons, List.length_nil] at *; omega) ?_) | (refine truthy_nil (by k_asm) (by k_mem) ?_))
  k_with "call builtin:list.pop" => (k_here; (with_reducible show wpAny _ _ (call (Value.builtin "list.pop") [Value.ref _]) _ _ _); (with_reducible rename Fr _ _ _ _ => kF); (with_reducible rename News _ _ _ _ => kN); (refine pop_N kF kN (by k_updF) (by simp only [List.length_append, List.length_cons, List.length_nil] at *; omega) ?_); (intro h' n' F' N'); (try dsimp only at N'))
  k_with "call builtin:list.remove" => (k_here; (with_reducible show wpAny _ _ (call (Value.builtin "list.remove") [Value.ref _, Value.str _ _]) _ _ _); (with_reducible rename Fr _ _ _ _ => kF); (with_reducible rename News _ _ _ _ => kN); (refine remove_N rfl kF kN (by k_updF) (by assumption) (by assumption) ?_ ?_); (all_goals intros))
  k_with "all" => assumption
  k_with "noteFrame ref" => (k_here; (with_reducible rename Heap.NewExc _ _ _ _ => kX); (with_reducible rename TI.Frs _ _ => kS); (refine noted_U rfl kS kX (by assumption) (by assumption) (by assumption) (by assumption) (by assumption) ?_); (intro _ _ _ _ _ _ _ kH))
  k_with "call builtin:list.append" => (k_here; (with_reducible show wpAny _ _ (call (Value.builtin "list.append") [Value.ref _, _]) _ _ _); (with_reducible rename Fr _ _ _ _ => kF); (with_reducible rename News _ _ _ _ => kN); (refine append_N kF kN (by k_updF) (by simp only [List.length_append, List.length_cons, List.length_nil] at *; omega) ?_); (intro h' n' F' N'); (try dsimp only at N'))
  k_with "setFlight ref" => (k_here; (with_reducible rename TT.HeldNA _ _ _ _ _ _ _ _ => kH); (refine TT.HeldNA.land kH ?_); clear kH; (intro _ kH))
  k_with "handleBy" => (k_here; (with_reducible rename TT.HeldNA _ _ _ _ _ _ _ _ => kH); (with_unfolding_all refine TT.clause_hitTN kH (by assumption) (k := ?_) (hE := fun _ _ h => False.elim h)); clear kH; (intro _ _ _))
  have kf0 : PySem.Challenge.rw_nq0007_01 = PySem.Challenge.rw_nq0007_01 → Mine.hd.heap_39 w.params = Mine.hd.heap_39 w.params := by (k_fill; exact fun _ => rfl)
  clear kf0
  refine enterU [("expected", .ref e), ("actual", .ref a)] (new := [(e, lst vs k1), (a, lst ws k2)]) C ?_ (by k_is) (by k_is) (BindsTo.of_eq rfl) (locs rfl) rfl rfl rfl (by decide) ?_
  · intro p hp
    rcases List.mem_cons.mp hp with rfl | hp
    · exact ⟨he, hbe, fun _ _ q => nomatch q⟩
    · rw [List.mem_singleton.mp hp]; exact ⟨ha, hba, fun _ _ q => nomatch q⟩
  intro hb L' h₁ tk oL htk hL hLd Fs hne hlt F' N' X' T' G1 G2 G3
  have hea' := neN' hea
  have hd := C.hd
  have hu := C.hu
  have kU : UldIn T vs ws xs ys (env :: outer) ((L, oL) :: frs) e a := ⟨hS, hW, hz, hz2, Fs, fun p hp => hne p hp _ (.head _), fun p hp => hne p hp _ (.tail _ (.head _))⟩
  clear C
  simp only [List.cons_append, List.nil_append] at N'
  k_steps
  all_goals first
    | exact uldEnd_yes (by assumption) (by assumption) (by assumption) (by assumption) (by assumption) (by assumption) (by assumption) (by assumption) (by assumption) (fun z hz => by simp only [hz, if_false])
    | exact uldEnd_no (by assumption) (by assumption) (by assumption) (by assumption) (by assumption) (by assumption) (by assumption) (by assumption) (by assumption) (by assumption) (fun z hz => by simp only [hz, if_false])
    | skip
  rename_i l1 _ _ ws' ms j1 j2 j3 frs' _ _ _ hW' hM' SU n1 n2 n3 D h' F9 N9 l9
  show Q _ _
  cases frs' with
  | nil => exact False.elim SU
  | cons q fr =>
    obtain ⟨q1, q2⟩ := q
    obtain ⟨e1, e2, e3⟩ := id SU
    have e1' : q1 = L := e1
    subst e1'
    obtain ⟨l91, l92, l93, l94⟩ := l9
    have nos : ∀ b, hb.get? b = none → (∀ p ∈ [(e, lst vs k1), (a, lst ws k2)] ++ (q1, oL) :: frs, p.1 ≠ b) → s.heap.get? b = none := fun b hb0 hb1 => by
      cases hq : s.heap.get? b with
      | none => rfl
      | some o => rw [G1 b o hq hb1] at hb0; cases hb0
    have apart : ∀ d : Addr, e ≠ d → a ≠ d → (∀ p ∈ (q1, oL) :: frs, p.1 ≠ d) → ∀ p ∈ [(e, lst vs k1), (a, lst ws k2)] ++ (q1, oL) :: frs, p.1 ≠ d := fun d h1 h2 h3 p hp => by
      rcases List.mem_append.mp hp with hp | hp
      · rcases List.mem_cons.mp hp with rfl | hp
        · exact h1
        · rw [List.mem_singleton.mp hp]; exact h2
      · exact h3 p hp
    refine ret h' _ _ D ms ws' j1 j2 j3 oL q2 fr ?_ hL SU (N9 (q1, q2) (.tail _ (.tail _ (.tail _ (.tail _ (.head _)))))).1 (fun p hp => (N9 p (.tail _ (.tail _ (.tail _ (.tail _ (.tail _ hp)))))).1) ?_ ?_ (Nat.ne_of_lt l91) (N9 _ (.tail _ (.head _))).1 (N9 _ (.tail _ (.tail _ (.tail _ (.head _))))).1 (N9 _ (.tail _ (.tail _ (.head _)))).1 (N9 _ (.head _)).1 hM' hW'
    · intro b o h1 h2 h3 h4 hq
      refine F9.keep b o (G1 b o hq (apart b (Ne.symm h1) (Ne.symm h2) fun p hp => ?_))
      rcases List.mem_cons.mp hp with rfl | hp
      · exact Ne.symm h3
      · exact h4 p hp
    · exact nos _ (N9 _ (.tail _ (.head _))).2.2 (apart _ (Nat.ne_of_lt l1.1) (Nat.ne_of_lt l1.2.1) (allLt_ne l1.2.2))
    · exact nos _ (N9 _ (.head _)).2.2 (apart _ (Nat.ne_of_lt l92) (Nat.ne_of_lt l93) (allLt_of_sameUp SU l94))
end Mine
end
section
open PySem PySem.W PyProof.Rows PySem.Calls PySem.Spec
set_option maxRecDepth 100000
namespace Mine
theorem enterUC {w : World} {mean : ExcName → Option Value} {mg mb : Str → Option Value} {A : Around} {dp un : Nat} {gd : Option (List Code)} {base : Heap} {outer : List Env} {env : Env} {L : Addr} {m : Str → Option Value} {frs : List (Addr × Obj)} {s : Shared}
    {Q E : Value → Shared → Prop} {name qual : Str} {params : Arguments} {body : List Stmt} {scope : Scope} {dV kV doc pm cdv ct oc : Value} {an od : Option Addr} {osl : Array (Option Value)} {f : Addr} {args : List Value} (binds : List (Str × Value))
    (C : AtF w mean mg mb A dp un gd base outer env L m frs s.heap)
    (ho : (Mine.hd.heap_39 w.params).lookup f = some ⟨oc, od, .func (fnOf name qual params body scope dV kV doc pm an cdv ct), osl⟩) (hcd : codeIn (Mine.hd.heap_39 w.params) cdv qual = true)
    (hbind : BindsTo s (fnOf name qual params body scope dV kV doc pm an cdv ct) ⟨args, []⟩ binds)
    (hkind : (binds.all fun y => scope.names.lookup y.1 == some .local || scope.names.lookup y.1 == some .cell) = true) (hnd : ((cellsFrom 0 scope.names []).map (·.1)).Nodup)
    (hco : scope.isCoroutine = false) (hgen : scope.isGenerator = false) (hk : scope.kind = .function)
    (h : ∀ hb L' h₁ tk cells oL, s.toks ≤ tk → s.heap.get? L = some oL → (∃ es ep, oL.data = .dict es ep) → TI.Frs (env :: outer) ((L, oL) :: frs) → (∀ p ∈ (L, oL) :: frs, p.1 < L') →
      Fr hb L' h₁ (bindL (envOfC qual scope L' f cdv).kindOf binds fun _ => none) → News hb L' h₁ (cells ++ (L, oL) :: frs) → CellsAre (bindC (envOfC qual scope L' f cdv).kindOf binds fun _ => none) (cellsFrom (L' + 1) scope.names []) cells →
      (Mine.hd.heap_39 w.params).In hb → Top0 mean mg mb hb →
      (∀ b o, s.heap.get? b = some o → (∀ p ∈ (L, oL) :: frs, p.1 ≠ b) → hb.get? b = some o) → (∀ b o, hb.get? b = some o → s.heap.get? b = some o) → s.heap.objs.size = L' →
      wpAny (model prog0 w) ((mkA dp un gd env outer).deeper (envOfC qual scope L' f cdv)) (execs body (envOfC qual scope L' f cdv)) (Gets Q) Never { s with heap := h₁, toks := tk }) :
    wpAny (model prog0 w) A (call (.ref f) args) Q E s := by
  obtain ⟨rfl, ns, X, T, st, lo, fs, fh, hf, hke, hd, hu⟩ := C
  refine wpAny_call ?_
  obtain ⟨oL, es, ep, hL, hLd, hLk, hLf⟩ := id ns
  have hbL : base.get? L = none := Heap.get?_none_of_le lo
  have hfs : TI.Frs (env :: outer) ((L, oL) :: frs) := ⟨by rw [hke]; decide, hf, ⟨es, ep, hLd⟩, fs⟩
  have hall : ∀ p ∈ (L, oL) :: frs, s.heap.get? p.1 = some p.2 ∧ base.get? p.1 = none := fun p q => by
    rcases List.mem_cons.mp q with rfl | q
    · exact ⟨hL, hbL⟩
    · exact ⟨(fh p q).1, (fh p q).2.2⟩
  have h := h (hideAll s.heap (((L, oL) :: frs).map (·.1))) s.heap.objs.size
  have st' : Grow base (hideAll s.heap (((L, oL) :: frs).map (·.1))) := fun b o e => hideAll_get _ (st b o e) fun q => by
    obtain ⟨p, hp, rfl⟩ := List.mem_map.mp q
    rw [(hall p hp).2] at e; cases e
  refine codeAny_call_function (fd := fnX name qual params body scope [] dV kV doc pm an cdv ct) (by show dp < _; omega) ((X.keeps st) _ _ ho) rfl hco hgen rfl (codeRec_of (X.keeps st) hcd) (hbind _ _ _ _ ?_)
  refine wpAny_with_toks (Nat.le_refl _) ?_
  refine wpAny_newFunctionEnv_cells hk (kindsX hkind _) fun env' he s' x htk => ?_
  subst he
  refine ⟨(T.nolimit.keeps st).keeps x.toInCall.keep, codeAny_func ?_⟩
  obtain ⟨h₁, tk, rfl, _⟩ := x.done
  have hk₁ := x.toInCall.keep
  obtain ⟨cells, NC, Y⟩ := Cl.news (h₀ := s.heap) (Nat.le_refl _) fun n c hm => ⟨x.cell n c (lookup_of_mem_nodup (cellsFrom_names scope.names 0 (s.heap.objs.size + 1) [] [] rfl ▸ hnd) hm), x.above n c hm⟩
  refine wpAny_mono (h h₁ tk cells oL htk hL ⟨es, ep, hLd⟩ hfs (fun p hp => Heap.lt_size (hall p hp).1) ⟨x.toInCall.ns, fun b o e => hk₁ b o (of_hideAll _ e), Nat.le_of_eq (hideAll_size _ _)⟩ (fun p hp => ?_) Y (X.keeps st') (T.keeps st')
    (fun b o e hne => hideAll_get _ e fun q => by obtain ⟨p, hp, rfl⟩ := List.mem_map.mp q; exact hne p hp rfl) (fun b o e => of_hideAll _ e) rfl) (fun fl s' hl => hl) fun _ _ y => y.elim
  rcases List.mem_append.mp hp with hp | hp
  · refine ⟨(NC p hp).1, (NC p hp).2.1, ?_⟩
    cases q : (hideAll s.heap (((L, oL) :: frs).map (·.1))).get? p.1 with
    | none => rfl
    | some o => have := of_hideAll _ q; rw [(NC p hp).2.2] at this; cases this
  · exact ⟨hk₁ _ _ (hall p hp).1, Nat.ne_of_lt (Heap.lt_size (hall p hp).1), hideAll_none _ (List.mem_map_of_mem hp)⟩
end Mine
end
section
open PySem PySem.W PyProof.Rows PySem.Calls PySem.Spec
set_option maxRecDepth 100000
namespace Mine
/-- not one of the comprehension's own objects -/
def Off (C D : Addr) (wr : List Addr) (b : Addr) : Prop := b ≠ C ∧ b ∉ wr ∧ b ≠ D
abbrev testsOf (ifs : List Expr) (env : Env) : Sem Bool := forIn ifs true fun c r => if r = true then do let ok ← isTrue c env (eval c env); pure (ForInStep.yield ok) else pure (ForInStep.yield r)
/-- one turn: the tests, then the element -/
def TurnOf (prog : Program) (w : World) (A : Around) (ifs : List Expr) (elt : Expr) (cenv : Env) (Z : List Value → List Value → Shared → Prop) (vs ys : List Value) (v : Value) (s₂ : Shared) : Prop :=
  wpAny (model prog w) A (testsOf ifs cenv) (fun ok s₃ => Keeps s₂ s₃ ∧ if ok = true then wpAny (model prog w) A (eval elt cenv) (fun y s₄ => Keeps s₃ s₄ ∧ Z (vs ++ [v]) (ys ++ [y]) s₄) Never s₃ else Z (vs ++ [v]) ys s₃) Never s₂
section
variable {prog : Program} {w : World} {A : Around} {R : Result → Shared → Prop} {s : Shared}
theorem comp_loop {elt iter : Expr} {x : Str} {px : Pos} {ifs : List Expr} {scope : Scope} {pos : Pos} {I D : Addr} {fp wr : List Addr} {n : Nat} {P : Nat → Value → Prop} {St : Nat → Heap → Prop} {cenv : Env} {m : Str → Option Value}
    (W : Walks prog w A I fp wr n P St) (Z : List Value → List Value → Shared → Prop) (hlive : ∀ i h, St i h → ∀ b ∈ wr, ∃ o, h.get? b = some o)
    (hx : cenv.kindOf x = some .local) (hp : (cenv.scope.kind == .class || (cenv.scope.kind == .module && cenv.locals != cenv.globals)) = false)
    (hDC : D ≠ cenv.locals) (hDf : D ∉ fp) (hCf : cenv.locals ∉ fp)
    (hst : St 0 s.heap) (hacc : s.heap.PlainList D #[]) (hn : s.heap.Ns cenv.locals m) (hZ0 : Z [] [] s)
    (hZs : ∀ vs ys s₁ h' tk', Z vs ys s₁ → (∀ b o, Off cenv.locals D wr b → s₁.heap.get? b = some o → h'.get? b = some o) → s₁.toks ≤ tk' → Z vs ys { s₁ with heap := h', toks := tk' })
    (step : ∀ v vs ys s₂ m₂, P vs.length v → Z vs ys s₂ → (∃ h tk, s₂ = { s with heap := h, toks := tk }) → s₂.heap.Ns cenv.locals m₂ → m₂ x = some v → (∀ b o, Off cenv.locals D wr b → s.heap.get? b = some o → s₂.heap.get? b = some o) →
      (∀ b, s₂.heap.get? b = none → Off cenv.locals D wr b) → s.toks ≤ s₂.toks → TurnOf prog w A ifs elt cenv Z vs ys v s₂)
    (hR : ∀ h' tk m' ys (vs : List Value), h'.Ns cenv.locals m' → h'.PlainList D ys.toArray → vs.length = n → ys.length ≤ n → (∀ j v, vs[j]? = some v → P j v) → Z vs ys { s with heap := h', toks := tk } →
      (∀ b o, Off cenv.locals D wr b → s.heap.get? b = some o → h'.get? b = some o) → s.toks ≤ tk → R (.ok .next) { s with heap := h', toks := tk })
    (hsz : n ≤ sizeLine) :
    codeAny (model prog w) A (.compLoop (.ListComp elt [⟨.Name x px, iter, ifs, 0⟩] scope pos) 0 (.ref I) (.ref D) cenv) R s := by
  refine codeAny_compLoop_tests
    (fun k s' => ∃ h' tk m', ∃ ys vs : List Value, s' = { s with heap := h', toks := tk } ∧ St vs.length h' ∧ h'.PlainList D ys.toArray ∧ h'.Ns cenv.locals m' ∧ (∀ j v, vs[j]? = some v → P j v) ∧
      Z vs ys { s with heap := h', toks := tk } ∧ ys.length ≤ vs.length ∧ vs.length ≤ n ∧ k = n + 1 - vs.length ∧
      (∀ b o, Off cenv.locals D wr b → s.heap.get? b = some o → h'.get? b = some o) ∧ s.toks ≤ tk) ?_ (n + 1)
    ⟨s.heap, s.toks, m, [], [], rfl, hst, hacc, hn, by simp, hZ0, Nat.le_refl _, Nat.zero_le _, rfl, fun _ _ _ e => e, Nat.le_refl _⟩
  rintro k s' ⟨H, tk, m', ys, vs, rfl, hst', hacc', hn', hP, hZ, hyl, hi, rfl, hk, htk⟩
  have hCw : cenv.locals ∉ wr := fun h => hCf (W.sub _ h)
  have hDw : D ∉ wr := fun h => hDf (W.sub _ h)
  by_cases hlt : vs.length < n
  · refine wpAny_with_toks (n := tk) (Nat.le_refl _) (W.item vs.length _ _ _ hlt hst' fun v h₁ tk₁ hPv hst₁ hk₁ htk₁ => ?_)
    refine wpAny_assign_Name (wpAny_storeName_local hx (hn'.at' fun o e => hk₁ _ o hCw e) (fun h₂ hn₂ hs₂ => ?_) hp)
    have up₂ : ∀ b o, b ≠ cenv.locals → b ∉ wr → H.get? b = some o → h₂.get? b = some o := fun b o hbC hbf e => hs₂.extBut b o hbC (hk₁ b o hbf e)
    have hst₂ : St (vs.length + 1) h₂ := W.frame _ _ _ hst₁ fun b hb o e => hs₂.extBut b o (fun h => hCf (h ▸ hb)) e
    have hacc₂ : h₂.PlainList D ys.toArray := hacc'.at fun o e => up₂ D o hDC hDw e
    have hZ₂ : Z vs ys { s with heap := h₂, toks := tk₁ + 1 } := hZs vs ys { s with heap := H, toks := tk } h₂ (tk₁ + 1) hZ (fun b o hb e => up₂ b o hb.1 hb.2.1 e) (Nat.le_succ_of_le htk₁)
    have off₂ : ∀ b, h₂.get? b = none → Off cenv.locals D wr b := by
      intro b hb
      refine ⟨fun q => ?_, fun q => ?_, fun q => ?_⟩
      · obtain ⟨o, _, _, ho, _⟩ := hn₂; rw [q, ho] at hb; cases hb
      · obtain ⟨o, ho⟩ := hlive _ _ hst₂ b q; rw [ho] at hb; cases hb
      · obtain ⟨_, ho⟩ := hacc₂; rw [q, ho] at hb; cases hb
    refine wpAny_noRaise (wpAny_mono (wpAny_toks_of (n := tk₁ + 1) (Nat.le_refl _) (step v vs ys { s with heap := h₂, toks := tk₁ + 1 } _ hPv hZ₂ ⟨_, _, rfl⟩ hn₂ (by simp) (fun b o hb e => up₂ b o hb.1 hb.2.1 (hk b o hb e)) off₂ (Nat.le_trans htk (Nat.le_succ_of_le htk₁)))) (fun ok s₃ h₃ => ?_) fun _ _ e => e.2)
    obtain ⟨htk₃, ⟨h₃, tk₃, rfl, hk₃⟩, hok⟩ := h₃
    have hst₃ : St (vs.length + 1) h₃ := W.frame _ _ _ hst₂ fun b _ o e => hk₃ b o e
    have hacc₃ : h₃.PlainList D ys.toArray := hacc₂.at fun o e => hk₃ _ o e
    have hn₃ := hn₂.keeps hk₃
    have hP' : ∀ j u, (vs ++ [v])[j]? = some u → P j u := fun j u hj => by
      rcases Nat.lt_trichotomy j vs.length with h | h | h
      · exact hP j u (by rwa [List.getElem?_append_left h] at hj)
      · subst h; simp at hj; subst hj; exact hPv
      · have hnone : (vs ++ [v])[j]? = none := List.getElem?_eq_none (by rw [List.length_append, List.length_singleton]; omega)
        rw [hnone] at hj; cases hj
    have tkl : s.toks ≤ tk₃ := Nat.le_trans htk (Nat.le_trans (Nat.le_succ_of_le htk₁) htk₃)
    cases ok with
    | false =>
      simp only [Bool.false_eq_true, if_false] at hok ⊢
      refine ⟨n + 1 - (vs.length + 1), by omega, h₃, tk₃, _, ys, vs ++ [v], rfl, by simpa using hst₃, hacc₃, hn₃, hP', hok, by simp; omega, (by rw [List.length_append, List.length_singleton]; exact hlt), (by rw [List.length_append, List.length_singleton]), fun b o hb e => hk₃ b o (up₂ b o hb.1 hb.2.1 (hk b o hb e)), tkl⟩
    | true =>
      simp only [if_true] at hok ⊢
      refine wpAny_noRaise (wpAny_mono (wpAny_toks_of (n := tk₃) (Nat.le_refl _) hok) (fun y s₄ h₄ => ?_) fun _ _ e => e.2)
      obtain ⟨htk₄, ⟨h₄, tk₄, rfl, hk₄⟩, hZ₄⟩ := h₄
      have hys : ys.toArray.size ≤ sizeLine := by simp; omega
      refine wpAny_list_append_plain (hsz := hys) (hacc₃.at fun o e => hk₄ _ o e) fun h₅ hl₅ hs₅ => ?_
      refine ⟨n + 1 - (vs.length + 1), by omega, h₅, tk₄, _, ys ++ [y], vs ++ [v], rfl, ?_, by simpa using hl₅, (hn₃.keeps hk₄).sameBut hs₅ (Ne.symm hDC), hP', ?_, by simp; omega, (by rw [List.length_append, List.length_singleton]; exact hlt), (by rw [List.length_append, List.length_singleton]),
        fun b o hb e => hs₅.extBut b o hb.2.2 (hk₄ b o (hk₃ b o (up₂ b o hb.1 hb.2.1 (hk b o hb e)))), Nat.le_trans tkl htk₄⟩
      · have := W.frame _ _ h₅ hst₃ fun b hb o e => hs₅.extBut b o (fun h => hDf (h ▸ hb)) (hk₄ b o e)
        simpa using this
      · exact hZs _ _ { s with heap := h₄, toks := tk₄ } h₅ tk₄ hZ₄ (fun b o hb e => hs₅.extBut b o hb.2.2 e) (Nat.le_refl _)
  · have hin : vs.length = n := by omega
    refine wpAny_with_toks (n := tk) (Nat.le_refl _) (W.done _ _ _ (hin ▸ hst') fun h₁ tk₁ hk₁ htk₁ => ?_)
    exact hR h₁ tk₁ m' ys vs (hn'.at' fun o e => hk₁ _ o hCw e) (hacc'.at fun o e => hk₁ _ o hDw e) hin (by omega) hP
      (hZs vs ys { s with heap := H, toks := tk } h₁ tk₁ hZ (fun b o hb e => hk₁ b o hb.2.1 e) htk₁) (fun b o hb e => hk₁ b o hb.2.1 (hk b o hb e)) (Nat.le_trans htk htk₁)

/-- what a comprehension over the items vs asks of its word Z: s₁ is the state behind the source -/
structure CompOK (prog : Program) (w : World) (A : Around) (env : Env) (scope : Scope) (cl : List (Str × Addr)) (x : Str) (ifs : List Expr) (elt : Expr) (P : Nat → Value → Prop) (Z : (Addr → Prop) → List Value → List Value → Shared → Prop) (s₁ : Shared) : Prop where
  start : ∀ N h tk, Grow s₁.heap h → s₁.toks ≤ tk → Z N [] [] { s₁ with heap := h, toks := tk }
  stab : ∀ N us ys s₂ h' tk', Z N us ys s₂ → (∀ b o, N b → s₂.heap.get? b = some o → h'.get? b = some o) → s₂.toks ≤ tk' → Z N us ys { s₂ with heap := h', toks := tk' }
  step : ∀ N C us v ys s₂ m₂, P us.length v → Z N us ys s₂ → (∃ h tk, s₂ = { s₁ with heap := h, toks := tk }) → s₂.heap.Ns C m₂ → m₂ x = some v → Grow s₁.heap s₂.heap → (∀ b, s₂.heap.get? b = none → N b) → (∀ b o, s₁.heap.get? b = some o → b ≠ env.locals → N b) →
    s₁.toks ≤ s₂.toks → s₁.heap.objs.size ≤ C → TurnOf prog w A ifs elt (compEnvC scope cl C env) (Z N) us ys v s₂

theorem comp_block {E : Value → Shared → Prop} {env : Env} {elt iter : Expr} {x : Str} {px : Pos} {ifs : List Expr} {scope : Scope} {cl : List (Str × Addr)} {pos : Pos} {s₁ s₂ : Shared} {I : Addr} {fp wr : List Addr} {n : Nat} {P : Nat → Value → Prop}
    {St : Nat → Heap → Prop} {Z : (Addr → Prop) → List Value → List Value → Shared → Prop} {RR : Value → Addr → Result → Shared → Prop} (W : Walks prog w A I fp wr n P St) (hsz : n ≤ sizeLine)
    (hlive : ∀ i h, St i h → ∀ b ∈ wr, ∃ o, h.get? b = some o) (hcell : ∀ y ∈ scope.names, y.2 ≠ .cell) (hkind : scope.kind = .function) (hx : scope.names.lookup x = some .local) (hst : St 0 s₂.heap) (hfp : ∀ b ∈ fp, b < s₂.heap.objs.size)
    (hwr : ∀ b ∈ wr, s₁.heap.get? b = none) (hs₂ : ∃ h tk, s₂ = { s₁ with heap := h, toks := tk }) (hg : Grow s₁.heap s₂.heap) (htk₂ : s₁.toks ≤ s₂.toks) (hsz₁ : s₁.heap.objs.size ≤ s₂.heap.objs.size) (hL : ∃ o, s₁.heap.get? env.locals = some o)
    (ok : CompOK prog w A env scope cl x ifs elt P Z s₁)
    (hRR : ∀ D C h' tk m' (ys vs : List Value) N j, s₁.heap.get? D = none → s₁.heap.get? C = none → D ≠ C → h'.Ns C m' → h'.get? D = some { cls := .type "list", data := .seq ys.toArray j } → vs.length = n → ys.length ≤ n → (∀ j v, vs[j]? = some v → P j v) → Z N vs ys { s₁ with heap := h', toks := tk } →
      (∀ b o, s₁.heap.get? b = some o → b ≠ env.locals → N b) → ¬ N C → ¬ N D → ¬ N env.locals → Grow s₁.heap h' → s₁.toks ≤ tk → RR (.ref D) C (.ok .next) { s₁ with heap := h', toks := tk }) :
    wpAny (model prog w) A (newList []) (fun acc s₃ => wpAny (model prog w) A (newFunctionEnv scope env.globals cl [] env.qual none .none (some env)) (fun cenv s₄ =>
      codeAny (model prog w) A (.compStart (.ListComp elt [⟨.Name x px, iter, ifs, 0⟩] scope pos) 0 (.ref I) acc { cenv with scope := relabel scope env }) (RR acc cenv.locals) s₄) E s₃) E s₂ := by
  obtain ⟨hh₂, tt₂, rfl⟩ := hs₂
  refine wpAny_newObj_type (wpAny_newFunctionEnv hcell (by intro y hy; simp at hy) (fun h₁ hns₁ hsb₁ => ?_) hkind)
  dsimp only at hns₁ hsb₁ hst hfp hg htk₂ hsz₁ ⊢
  generalize hH2 : hh₂.push { cls := .type "list", dict := none, data := .seq ([] : List Value).toArray } = H2 at hns₁ hsb₁ ⊢
  have hC : H2.objs.size = hh₂.objs.size + 1 := by rw [← hH2, Heap.size_push]
  have hDC : hh₂.objs.size ≠ H2.objs.size := by rw [hC]; exact Nat.ne_of_lt (Nat.lt_succ_self _)
  have below : ∀ b, b < hh₂.objs.size → b ≠ H2.objs.size ∧ b ≠ hh₂.objs.size := fun b hb => ⟨by rw [hC]; exact Nat.ne_of_lt (Nat.lt_succ_of_lt hb), Nat.ne_of_lt hb⟩
  have hDf : hh₂.objs.size ∉ fp := fun hm => Nat.lt_irrefl _ (hfp _ hm)
  have hCf : H2.objs.size ∉ fp := fun hm => by have := hfp _ hm; rw [hC] at this; exact Nat.lt_irrefl _ (Nat.lt_of_succ_lt this)
  have old : ∀ b o, hh₂.get? b = some o → h₁.get? b = some o := fun b o e => hsb₁.extBut b o (below b (Heap.lt_size e)).1 (Heap.get?_push_of_some _ (hH2 ▸ Heap.get?_push_of_some _ e))
  have hacc : h₁.PlainList hh₂.objs.size #[] := ⟨_, hsb₁.extBut _ _ hDC (Heap.get?_push_of_some _ (hH2 ▸ Heap.get?_push_size _ rfl))⟩
  have hst₁ : St 0 h₁ := W.frame _ _ _ hst fun b _ o e => old b o e
  have fresh : ∀ a, s₁.heap.objs.size ≤ a → s₁.heap.get? a = none := fun a ha => by
    cases e : s₁.heap.get? a with
    | none => rfl
    | some o' => exact absurd (Heap.lt_size e) (Nat.not_lt.mpr ha)
  have hCs : s₁.heap.objs.size ≤ H2.objs.size := by rw [hC]; exact Nat.le_succ_of_le hsz₁
  obtain ⟨oLL, hLL⟩ := hL
  let N : Addr → Prop := fun b => Off H2.objs.size hh₂.objs.size wr b ∧ b ≠ env.locals
  have hNold : ∀ b o, s₁.heap.get? b = some o → b ≠ env.locals → N b := fun b o e hb => by
    have hlt := Heap.lt_size (hg b o e)
    exact ⟨⟨(below b hlt).1, (fun q => by rw [hwr b q] at e; cases e), (below b hlt).2⟩, hb⟩
  have loop : ∀ s₃ : Shared, s₃ = { s₁ with heap := h₁, toks := tt₂ + ([] : List (Str × Value)).length } →
      codeAny (model prog w) A (.compLoop (.ListComp elt [⟨.Name x px, iter, ifs, 0⟩] scope pos) 0 (.ref I) (.ref hh₂.objs.size) (compEnvC scope cl H2.objs.size env))
        (RR (.ref hh₂.objs.size) H2.objs.size) s₃ := by
    rintro s₃ rfl
    have hg₁ : Grow s₁.heap h₁ := fun b o e => old b o (hg b o e)
    refine comp_loop (hsz := hsz) (cenv := compEnvC scope cl H2.objs.size env) W (Z N) hlive (lookup_relabel_local hx) (by simp [compEnvC, relabel, hkind]) hDC hDf hCf hst₁ hacc hns₁ (ok.start N h₁ _ hg₁ htk₂)
      (fun vs ys s' h' tk' hz hk ht => ok.stab N vs ys s' h' tk' hz (fun b o hb e => hk b o hb.1 e) ht)
      (fun v vs ys s' m₂ hP hz hs' hn hm hk hoff htk => ?_) (fun h' tk m' ys vs hn hpl hlen hyl hP hz hk htk => ?_)
    · obtain ⟨h', tk', rfl⟩ := hs'
      refine ok.step N H2.objs.size vs v ys _ m₂ hP hz ⟨h', tk', rfl⟩ hn hm (fun b o e => ?_) (fun b hb => ⟨hoff b hb, fun q => ?_⟩) hNold (Nat.le_trans htk₂ htk) hCs
      · have hlt := Heap.lt_size (hg b o e)
        exact hk b o ⟨(below b hlt).1, (fun q => by rw [hwr b q] at e; cases e), (below b hlt).2⟩ (hg₁ b o e)
      · have hlt := Heap.lt_size (hg _ _ hLL)
        have h2 := hk env.locals oLL ⟨(below _ hlt).1, (fun q => by rw [hwr _ q] at hLL; cases hLL), (below _ hlt).2⟩ (hg₁ _ _ hLL)
        rw [q, h2] at hb; cases hb
    · obtain ⟨j, hpl⟩ := hpl
      refine hRR _ _ h' tk m' ys vs N j (fresh _ hsz₁) (fresh _ hCs) hDC hn hpl hlen hyl hP hz hNold (fun q => q.1.1 rfl) (fun q => q.1.2.2 rfl) (fun q => q.2 rfl) (fun b o e => ?_) (Nat.le_trans htk₂ htk)
      have hlt := Heap.lt_size (hg b o e)
      exact hk b o ⟨(below b hlt).1, (fun q => by rw [hwr b q] at e; cases e), (below b hlt).2⟩ (hg₁ b o e)
  exact codeAny_compStart_list (loop _ rfl) (W.self 0 _ _ _ hst₁ (loop _ rfl))
end
end Mine
end
section
open PySem PySem.W PyProof.Rows PySem.Calls PySem.Spec
set_option maxRecDepth 100000
namespace Mine
theorem places {vs us : List Value} (hlen : us.length = vs.length) (hP : ∀ (j : Nat) v, us[j]? = some v → vs[j]? = some v) : us = vs := by
  apply List.ext_getElem? 
  intro j
  cases h : us[j]? with
  | some v => exact (hP j v h).symm
  | none =>
    have : us.length ≤ j := by simpa using h
    exact (List.getElem?_eq_none (by omega)).symm
section
variable {prog : Program} {w : World} {A : Around} {E : Value → Shared → Prop} {s : Shared} {env : Env} {elt iter : Expr} {x : Str} {px : Pos} {ifs : List Expr} {scope : Scope} {cl : List (Str × Addr)} {pos : Pos} {Z : (Addr → Prop) → List Value → List Value → Shared → Prop}
theorem ListComp_list {Q : Value → Shared → Prop} (hclos : closureFor scope env = pure cl) (hcell : ∀ y ∈ scope.names, y.2 ≠ .cell) (hkind : scope.kind = .function)
    (hnames : ∀ y ∈ scope.names, y.2 = .local → scope.names.lookup y.1 = some .local) (hx : scope.names.lookup x = some .local) (hh : A.handled = none) (hs : ∀ x, foldedSetIterable iter env x = pure x)
    (h : wpAny (model prog w) A (eval iter env) (fun xv s₁ => ∃ ax vs, xv = .ref ax ∧ s₁.heap.IsList ax vs.toArray ∧ vs.length ≤ sizeLine ∧ (∃ o, s₁.heap.get? env.locals = some o) ∧ CompOK prog w A env scope cl x ifs elt (fun i v => vs[i]? = some v) Z s₁ ∧
      (∀ D h' tk ys N j, s₁.heap.get? D = none → h'.get? D = some { cls := .type "list", data := .seq ys.toArray j } → ys.length ≤ vs.length → Z N vs ys { s₁ with heap := h', toks := tk } → (∀ b o, s₁.heap.get? b = some o → b ≠ env.locals → N b) → ¬ N D → Grow s₁.heap h' → s₁.toks ≤ tk →
        Q (.ref D) { s₁ with heap := h', toks := tk })) E s) :
    wpAny (model prog w) A (eval (.ListComp elt [⟨.Name x px, iter, ifs, 0⟩] scope pos) env) Q E s := by
  rw [eval_ListComp]
  refine wpAny_comprehension_free (use := none) rfl hs hclos hkind hnames (wpAny_mono h (fun xv s₁ h₁ => ?_) fun _ _ e => e)
  obtain ⟨ax, vs, rfl, hl, hsz, hL, ok, hQ⟩ := h₁
  obtain ⟨ol, hol, _⟩ := id hl
  have hne : ax ≠ s₁.heap.objs.size := Nat.ne_of_lt (Heap.lt_size hol)
  refine wpAny_pyIter_list hl ?_
  have W : Walks prog w A s₁.heap.objs.size [s₁.heap.objs.size, ax] [s₁.heap.objs.size] vs.length (fun i v => vs[i]? = some v) (fun i h => h.IsListIter s₁.heap.objs.size ax i ∧ h.IsList ax vs.toArray) := by
    have W := Walks.list (prog := prog) (w := w) hh s₁.heap.objs.size ax hne vs.toArray
    simpa using W
  refine comp_block (s₁ := s₁) (P := fun i v => vs[i]? = some v) (RR := fun acc C => compPost (model prog w) A E none Q acc C) W hsz (fun i h st b hb => ?_) hcell hkind hx ⟨⟨_, Heap.get?_push_size _ rfl, rfl, rfl⟩, hl.at fun o e => Heap.get?_push_of_some _ e⟩ (fun b hb => ?_) (fun b hb => ?_) ⟨_, _, rfl⟩ (fun b o e => Heap.get?_push_of_some _ e) (Nat.le_refl _) (by rw [Heap.size_push]; exact Nat.le_succ _) hL ok ?_
  · obtain ⟨⟨o, ho, _⟩, _⟩ := st
    rw [List.mem_singleton.mp hb]; exact ⟨o, ho⟩
  · show b < _
    rw [Heap.size_push]
    rcases List.mem_cons.mp hb with rfl | hb
    · exact Nat.lt_succ_self _
    · rw [List.mem_singleton.mp hb]; exact Nat.lt_succ_of_lt (Heap.lt_size hol)
  · rw [List.mem_singleton.mp hb]; exact Heap.get?_none_of_le (Nat.le_refl _)
  · intro D C h' tk m' ys us N j hD hC hDC hn hpl hlen hyl hP hz hN hNC hND hNL hg htk
    have e := places hlen hP
    subst e
    refine ⟨m', hn, fun h'' hs'' => hQ D h'' tk ys N j hD (hs''.extBut _ _ hDC hpl) hyl (ok.stab N us ys { s₁ with heap := h', toks := tk } h'' tk hz (fun b o hb e => hs''.extBut b o (fun q => hNC (q ▸ hb)) e) (Nat.le_refl _)) hN hND (fun b o e => hs''.extBut b o (fun q => by rw [q, hC] at e; cases e) (hg b o e)) htk⟩
theorem Assign_ListComp_list {y : Str} {py spos : Pos} {Q : Flow → Shared → Prop} (hsw : swapsWith (.ListComp elt [⟨.Name x px, iter, ifs, 0⟩] scope pos) (some (.Name y py)) spos.line env = pure true)
    (hclos : closureFor scope env = pure cl) (hcell : ∀ y ∈ scope.names, y.2 ≠ .cell) (hkind : scope.kind = .function)
    (hnames : ∀ y ∈ scope.names, y.2 = .local → scope.names.lookup y.1 = some .local) (hx : scope.names.lookup x = some .local) (hy : env.kindOf y = some .local) (hp : (env.scope.kind == .class || (env.scope.kind == .module && env.locals != env.globals)) = false) (hh : A.handled = none) (hs : ∀ x, foldedSetIterable iter env x = pure x)
    (h : wpAny (model prog w) A (eval iter env) (fun xv s₁ => ∃ ax vs m, xv = .ref ax ∧ s₁.heap.IsList ax vs.toArray ∧ vs.length ≤ sizeLine ∧ s₁.heap.Ns env.locals m ∧ CompOK prog w A env scope cl x ifs elt (fun i v => vs[i]? = some v) Z s₁ ∧
      (∀ D h' tk ys N j, s₁.heap.get? D = none → h'.get? D = some { cls := .type "list", data := .seq ys.toArray j } → ys.length ≤ vs.length → Z N vs ys { s₁ with heap := h', toks := tk } → (∀ b o, s₁.heap.get? b = some o → b ≠ env.locals → N b) → ¬ N D → h'.Ns env.locals (fun z => if z = y then some (.ref D) else m z) →
        (∀ b o, b ≠ env.locals → s₁.heap.get? b = some o → h'.get? b = some o) → s₁.toks ≤ tk → Q .next { s₁ with heap := h', toks := tk })) E s) :
    wpAny (model prog w) A (exec (.Assign [.Name y py] (.ListComp elt [⟨.Name x px, iter, ifs, 0⟩] scope pos) spos) env) Q E s := by
  rw [exec_Assign_Name_used _ _ _ _ hsw]
  refine wpAny_bind (wpAny_standAt (wpAny_bind ?_))
  show wpAny _ A (do let _ ← comprehension (.ListComp elt [⟨.Name x px, iter, ifs, 0⟩] scope pos) scope env _ (newList []) false (eval iter env) (some (assign (.Name y py) env))) _ _ s
  refine wpAny_bind (wpAny_mono (wpAny_comprehension_free (use := some (assign (.Name y py) env)) (Q := fun _ s' => Q .next s') rfl hs hclos hkind hnames
    (wpAny_mono h (fun xv s₁ h₁ => ?_) fun _ _ e => e)) (fun _ s' hq => wpAny_pure (wpAny_pure hq)) fun _ _ e => e)
  obtain ⟨ax, vs, m, rfl, hl, hsz, hn₁, ok, hQ⟩ := h₁
  obtain ⟨ol, hol, _⟩ := id hl
  have hne : ax ≠ s₁.heap.objs.size := Nat.ne_of_lt (Heap.lt_size hol)
  refine wpAny_pyIter_list hl ?_
  have W : Walks prog w A s₁.heap.objs.size [s₁.heap.objs.size, ax] [s₁.heap.objs.size] vs.length (fun i v => vs[i]? = some v) (fun i h => h.IsListIter s₁.heap.objs.size ax i ∧ h.IsList ax vs.toArray) := by
    have W := Walks.list (prog := prog) (w := w) hh s₁.heap.objs.size ax hne vs.toArray
    simpa using W
  refine comp_block (s₁ := s₁) (P := fun i v => vs[i]? = some v) (RR := fun acc C => compPost (model prog w) A E (some (assign (.Name y py) env)) (fun _ s' => Q .next s') acc C) W hsz (fun i h st b hb => ?_) hcell hkind hx ⟨⟨_, Heap.get?_push_size _ rfl, rfl, rfl⟩, hl.at fun o e => Heap.get?_push_of_some _ e⟩ (fun b hb => ?_) (fun b hb => ?_) ⟨_, _, rfl⟩ (fun b o e => Heap.get?_push_of_some _ e) (Nat.le_refl _) (by rw [Heap.size_push]; exact Nat.le_succ _) (let ⟨o, _, _, ho, _⟩ := hn₁; ⟨o, ho⟩) ok ?_
  · obtain ⟨⟨o, ho, _⟩, _⟩ := st
    rw [List.mem_singleton.mp hb]; exact ⟨o, ho⟩
  · show b < _
    rw [Heap.size_push]
    rcases List.mem_cons.mp hb with rfl | hb
    · exact Nat.lt_succ_self _
    · rw [List.mem_singleton.mp hb]; exact Nat.lt_succ_of_lt (Heap.lt_size hol)
  · rw [List.mem_singleton.mp hb]; exact Heap.get?_none_of_le (Nat.le_refl _)
  · intro D C h' tk m' ys us N j hD hC hDC hn hpl hlen hyl hP hz hN hNC hND hNL hg htk
    have e := places hlen hP
    subst e
    have hLC : env.locals ≠ C := by rintro rfl; obtain ⟨o, _, _, ho, _⟩ := hn₁; rw [hC] at ho; cases ho
    have hLD : env.locals ≠ D := by rintro rfl; obtain ⟨o, _, _, ho, _⟩ := hn₁; rw [hD] at ho; cases ho
    show wpAny _ A (assign (.Name y py) env (.ref D)) _ _ _
    refine wpAny_assign_Name (wpAny_storeName_local hy (hn₁.at' fun o e => hg _ o e) (fun h₂ hn₂ hs₂ => ?_) hp)
    refine ⟨m', hn.sameBut hs₂ (Ne.symm hLC), fun h₃ hs₃ => ?_⟩
    refine hQ D h₃ _ ys N j hD (hs₃.extBut _ _ hDC (hs₂.extBut _ _ (Ne.symm hLD) hpl)) hyl (ok.stab N us ys { s₁ with heap := h', toks := tk } h₃ (tk + 1) hz (fun b o hb e => hs₃.extBut b o (fun q => hNC (q ▸ hb)) (hs₂.extBut b o (fun q => hNL (q ▸ hb)) e)) (Nat.le_succ _)) hN hND (hn₂.sameBut hs₃ hLC)
      (fun b o hbL e => hs₃.extBut b o (fun q => by rw [q, hC] at e; cases e) (hs₂.extBut b o hbL (hg b o e))) (Nat.le_succ_of_le htk)
end
end Mine
end
section
open PySem PySem.W PyProof.Rows PySem.Calls PySem.Spec
set_option maxRecDepth 100000
namespace Mine
def Ends (P : Shared → Prop) (f : Flow) (s' : Shared) : Prop := f = .next ∧ P s'
theorem execs_step {M : Model} {A : Around} {env : Env} {st : Stmt} {rest : List Stmt} {Q : Flow → Shared → Prop} {s : Shared} (P : Shared → Prop) (h1 : wpAny M A (exec st env) (Ends P) Never s) (h2 : ∀ s', P s' → wpAny M A (execs rest env) Q Never s') : wpAny M A (execs (st :: rest) env) Q Never s :=
  wpAny_execs_cons (wpAny_mono h1 (fun f s' h => by obtain ⟨rfl, h⟩ := h; exact h2 s' h) fun _ _ h => h)
theorem keeps_refl (s : Shared) : Keeps s s := ⟨s.heap, s.toks, rfl, fun _ _ e => e⟩
/-- the frame of a def that the law calls: what stands of the law's own frame is told of the ledger -/
structure Sub (w : World) (mean : ExcName → Option Value) (mg mb : Str → Option Value) (dp un : Nat) (gd : Option (List Code)) (base : Heap) (env : Env) (L : Addr) (hb : Heap) (L' : Addr) : Prop where
  X : (Mine.hd.heap_39 w.params).In base
  T : Top0 mean mg mb base
  st : Grow base hb
  lo : base.objs.size ≤ L'
  lo0 : base.objs.size ≤ L
  lt : @LT.lt Nat _ L L'
  hf : env.frame = some L
  hk : env.scope.kind = .function
  hd : dp + 21 < recursionLimit
  hu : un + 1003 < cLine
theorem Sub.at {w : World} {mean : ExcName → Option Value} {mg mb : Str → Option Value} {dp un : Nat} {gd : Option (List Code)} {base : Heap} {env : Env} {L : Addr} {hb : Heap} {env' : Env} {L' : Addr} {h : Heap} {m : Str → Option Value} {news : List (Addr × Obj)} {oL : Obj}
    (S : Sub w mean mg mb dp un gd base env L hb L') (hf' : env'.frame = some L') (hk' : env'.scope.kind = .function) (F : Fr hb L' h m) (N : News hb L' h news) (hm : (L, oL) ∈ news) (hd : ∃ es ep, oL.data = .dict es ep) :
    AtF w mean mg mb ((mkA dp un gd env []).deeper env') (dp + 1) (un + 3) gd base [env] env' L' m [(L, oL)] h := by
  obtain ⟨X, T, st, lo, lo0, lt, hf, hk, hd', hu'⟩ := S
  refine ⟨rfl, F.ns, X, T, fun b o e => F.keep b o (st b o e), lo, ⟨by rw [hk]; decide, hf, hd, trivial⟩, fun p hp => ?_, hf', hk', by omega, by omega⟩
  rw [List.mem_singleton.mp hp]
  exact ⟨(N _ hm).1, lt, Heap.get?_none_of_le lo0⟩
section
variable {w : World} {M : Model} {A : Around} {E : Value → Shared → Prop} {s : Shared} {env : Env} {base : Heap} {mean : ExcName → Option Value} {mg mb : Str → Option Value}
theorem name_G {x : Str} {pos : Pos} {v : Value} {Q : Value → Shared → Prop} (X : (Mine.hd.heap_39 w.params).In base) (T : Top0 mean mg mb base) (k : Grow base s.heap) (e : nsIn (Mine.hd.heap_39 w.params) mainGlobals x = some (some v))
    (hg : env.globals = mainGlobals) (hk : env.scope.kind = .function) (hx : env.kindOf x = some .globalImplicit) (hd : (x == ("__debug__" : Str)) = false) (h : Q v s) : wpAny M A (eval (.Name x pos) env) Q E s :=
  Name_function_global hk hx (loadGlobal_global (env := env) (by rw [hg]; exact T.g.keeps k) (mg_of X T.g e) h) hd
theorem name_L {x : Str} {pos : Pos} {v : Value} {m : Str → Option Value} {Q : Value → Shared → Prop} (n : s.heap.Ns env.locals m) (hk : env.scope.kind = .function) (hx : env.kindOf x = some .local) (hd : (x == ("__debug__" : Str)) = false) (hv : m x = some v) (h : Q v s) : wpAny M A (eval (.Name x pos) env) Q E s :=
  wpAny_Name (wpAny_loadName_local hk hx n hv h) hd
theorem call_G1 {x : Str} {p pos : Pos} {f : Addr} {e1 : Expr} {oc : Value} {od : Option Addr} {fd : FuncData} {osl : Array (Option Value)} {Q : Value → Shared → Prop} (X : (Mine.hd.heap_39 w.params).In base) (T : Top0 mean mg mb base) (k : Grow base s.heap) (e : nsIn (Mine.hd.heap_39 w.params) mainGlobals x = some (some (.ref f)))
    (ho : (Mine.hd.heap_39 w.params).lookup f = some ⟨oc, od, .func fd, osl⟩) (hg : env.globals = mainGlobals) (hk : env.scope.kind = .function) (hx : env.kindOf x = some .globalImplicit) (hd : (x == ("__debug__" : Str)) = false) (hs : starEach [e1] env = [(false, eval e1 env)])
    (h : wpAny M A (eval e1 env) (fun v s₁ => Grow base s₁.heap ∧ wpAny M A (call (.ref f) [v]) Q E s₁) E s) : wpAny M A (eval (.Call (.Name x p) [e1] [] pos) env) Q E s :=
  Call_Name1 (name_G X T k e hg hk hx hd (callWith_function (evalArgs_plain (spliced_cons (wpAny_mono h (fun v s₁ h₁ => spliced_nil ⟨⟨h₁.1 _ _ (X _ _ ho), rfl⟩, h₁.2⟩) fun _ _ q => q))))) hs
theorem call_G2 {x : Str} {p pos : Pos} {f : Addr} {e1 e2 : Expr} {oc : Value} {od : Option Addr} {fd : FuncData} {osl : Array (Option Value)} {Q : Value → Shared → Prop} (X : (Mine.hd.heap_39 w.params).In base) (T : Top0 mean mg mb base) (k : Grow base s.heap) (e : nsIn (Mine.hd.heap_39 w.params) mainGlobals x = some (some (.ref f)))
    (ho : (Mine.hd.heap_39 w.params).lookup f = some ⟨oc, od, .func fd, osl⟩) (hg : env.globals = mainGlobals) (hk : env.scope.kind = .function) (hx : env.kindOf x = some .globalImplicit) (hd : (x == ("__debug__" : Str)) = false) (hs : starEach [e1, e2] env = [(false, eval e1 env), (false, eval e2 env)])
    (h : wpAny M A (eval e1 env) (fun v s₁ => wpAny M A (eval e2 env) (fun v2 s₂ => Grow base s₂.heap ∧ wpAny M A (call (.ref f) [v, v2]) Q E s₂) E s₁) E s) : wpAny M A (eval (.Call (.Name x p) [e1, e2] [] pos) env) Q E s :=
  Call_Name2 (name_G X T k e hg hk hx hd (callWith_function (evalArgs_plain (spliced_cons (wpAny_mono h (fun v s₁ h₁ => spliced_cons (wpAny_mono h₁ (fun v2 s₂ h₂ => spliced_nil ⟨⟨h₂.1 _ _ (X _ _ ho), rfl⟩, h₂.2⟩) fun _ _ q => q)) fun _ _ q => q))))) hs
end
/-- strs handed through a function -/
def ZStr (f : Str → Str) (xs : List Str) (_ : Addr → Prop) (us ys : List Value) (s : Shared) : Prop := StrsT s.toks ys ((xs.take us.length).map f)
theorem ZStr.snoc {f : Str → Str} {xs : List Str} {N : Addr → Prop} {us ys : List Value} {v : Value} {s s' : Shared} {x : Str} {t : Nat} (h : ZStr f xs N us ys s) (hx : xs[us.length]? = some x) (ht : TB t s'.toks) (hs : s.toks ≤ s'.toks) : ZStr f xs N (us ++ [v]) (ys ++ [.str (f x) t]) s' := by
  unfold ZStr at *
  rw [List.length_append, List.length_singleton, List.take_add_one, hx, Option.toList_some, List.map_append]
  exact (h.up hs).append (.cons ht .nil)
/-- a frame with its ledger, behind a statement -/
structure TS (s : Shared) (hb : Heap) (L' : Addr) (m : Str → Option Value) (objs : List (Addr × Obj)) (s' : Shared) : Prop where
  st : ∃ h tk, s' = { s with heap := h, toks := tk }
  F : Fr hb L' s'.heap m
  N : News hb L' s'.heap objs
theorem newsUp {h₀ h h' : Heap} {L : Addr} {news : List (Addr × Obj)} (N : News h₀ L h news) (k : ∀ p ∈ news, h.get? p.1 = some p.2 → h'.get? p.1 = some p.2) : News h₀ L h' news := fun p hp => ⟨k p hp (N p hp).1, (N p hp).2⟩
set_option maxHeartbeats 1000000 in
theorem dirs_step {w : World} {mean : ExcName → Option Value} {mg mb : Str → Option Value} {dp un : Nat} {gd : Option (List Code)} {base : Heap} {env env' : Env} {L L' : Addr} {hb : Heap} {m : Str → Option Value} {s : Shared} {objs : List (Addr × Obj)} {oL : Obj}
    {la : Addr} {ls : List Value} {ps : List Str} {y src : Str} {py spos p1 p2 p3 p4 p5 pos : Pos} {sc : Scope}
    (S : Sub w mean mg mb dp un gd base env L hb L') (hf' : env'.frame = some L') (hk' : env'.scope.kind = .function) (hgl : env'.globals = mainGlobals) (hlo : env'.locals = L') (F : Fr hb L' s.heap m) (N : News hb L' s.heap objs) (hm : (L, oL) ∈ objs) (hd : ∃ es ep, oL.data = .dict es ep)
    (hl : hb.IsList la ls.toArray) (hls : StrsT s.toks ls ps) (hpl : ∀ p ∈ ps, p.length ≤ 20) (hz : ls.length ≤ 100) (hsrc : m src = some (.ref la)) (h0 : 0 < s.toks)
    (hsw : swapsWith (.ListComp (.Call (.Name "dirname" p1) [.Name "path" p2] [] p3) [⟨.Name "path" p4, .Name src p5, [], 0⟩] sc pos) (some (.Name y py)) spos.line env' = pure true)
    (hclos : closureFor sc env' = pure []) (hcell : ∀ y ∈ sc.names, y.2 ≠ .cell) (hkind : sc.kind = .function) (hnames : ∀ y ∈ sc.names, y.2 = .local → sc.names.lookup y.1 = some .local) (hx : sc.names.lookup ("path" : Str) = some .local) (hy : env'.kindOf y = some .local)
    (hsk : env'.kindOf src = some .local) (hsd : (src == ("__debug__" : Str)) = false) (hcx : ∀ C, (compEnvC sc [] C env').kindOf "path" = some .local) (hcd : ∀ C, (compEnvC sc [] C env').kindOf "dirname" = some .globalImplicit) (hcs : ∀ C, starEach [.Name "path" p2] (compEnvC sc [] C env') = [(false, eval (.Name "path" p2) (compEnvC sc [] C env'))])
    (hs : ∀ x, foldedSetIterable (.Name src p5) env' x = pure x)
    (ho : nsIn (Mine.hd.heap_39 w.params) mainGlobals "dirname" = some (some (.ref 129))) {oc : Value} {od : Option Addr} {fd : FuncData} {osl : Array (Option Value)} (hfo : (Mine.hd.heap_39 w.params).lookup 129 = some ⟨oc, od, .func fd, osl⟩) :
    wpAny (model prog0 w) ((mkA dp un gd env []).deeper env') (exec (.Assign [.Name y py] (.ListComp (.Call (.Name "dirname" p1) [.Name "path" p2] [] p3) [⟨.Name "path" p4, .Name src p5, [], 0⟩] sc pos) spos) env')
      (Ends fun s' => ∃ (D : Addr) (ys : List Value) (j : Nat), TS s hb L' (fun z => if z = y then some (.ref D) else m z) ((D, lst ys j) :: objs) s' ∧ StrsT s'.toks ys (ps.map dn) ∧ s.heap.get? D = none ∧ s.toks ≤ s'.toks) Never s := by
  have hb0 : Grow base s.heap := fun b o e => F.keep b o (S.st b o e)
  refine Assign_ListComp_list (Z := ZStr dn ps) hsw hclos hcell hkind hnames hx hy (by rw [hk']; rfl) rfl hs ?_
  refine name_L (m := m) (by rw [hlo]; exact F.ns) hk' hsk hsd hsrc ?_
  refine ⟨la, ls, m, rfl, hl.at fun o e => F.keep _ o e, by have := sizeLine_eq; omega, by rw [hlo]; exact F.ns, ⟨fun N h tk hg ht => by simpa [ZStr] using StrsT.nil, fun N us ys s₂ h' tk' hz hk ht => hz.up ht, ?_⟩, ?_⟩
  · intro N' C us v ys s₂ m₂ hv hZ hs₂ hn hm₂ hg hN hN' htk hC
    obtain ⟨p, t, hp, rfl, ht⟩ := hls.get hv
    refine wpAny_tests_nil ⟨keeps_refl _, ?_⟩
    simp only [if_true]
    have hg₂ : Grow base s₂.heap := hb0.trans hg
    refine call_G1 S.X S.T hg₂ ho hfo hgl hkind (hcd C) (by decide) (hcs C) ?_
    refine name_L (m := m₂) hn hkind (hcx C) (by decide) hm₂ ⟨hg₂, ?_⟩
    have At2 := S.at hf' hk' (F.keeps hg) (newsUp N fun p hp e => hg _ _ e) hm hd
    refine dirname_c At2.at (hpl p (List.mem_of_getElem? hp)) (ht.up htk) ?_
    intro h' tk' t' y hy' hg' htk' ht'
    subst hy'
    exact ⟨⟨h', tk', rfl, hg'⟩, hZ.snoc hp ht' htk'⟩
  · intro D h' tk' ys N' j hD hpl' hyl hZ hN hND hns hk htk
    refine ⟨rfl, D, ys, j, ⟨⟨h', tk', rfl⟩, ⟨by rw [← hlo]; exact hns, fun b o e => hk b o ?_ (F.keep b o e), F.above⟩, ?_⟩, ?_, hD, htk⟩
    · rw [hlo]; exact Nat.ne_of_lt (Nat.lt_of_lt_of_le (Heap.lt_size e) F.above)
    · intro p hp
      rcases List.mem_cons.mp hp with rfl | hp
      · refine ⟨hpl', fun q => ?_, Grow.none F.keep hD⟩
        obtain ⟨o, _, _, ho, _⟩ := F.ns
        have q' : D = L' := q
        rw [q', ho] at hD; cases hD
      · exact ⟨hk _ _ (by rw [hlo]; exact (N p hp).2.1) (N p hp).1, (N p hp).2⟩
    · have : ls.length = ps.length := hls.length
      simpa [ZStr, this] using hZ
end Mine
end
section
open PySem PySem.W PyProof.Rows PySem.Calls PySem.Spec
set_option maxRecDepth 100000
namespace Mine
def F8 : List Str := ["", "a", "ab", "b", "a/a", "a/ab", "ab/a", "b/b"].map Str.ofString
def S8 : List Str := ["", "a", "a/a", "a/ab", "ab", "ab/a", "b", "b/b"].map Str.ofString
abbrev le8 (a b : Str) : Prop := ltCps b.cps.toList a.cps.toList = false
theorem le8_trans : ∀ a ∈ F8, ∀ b ∈ F8, ∀ c ∈ F8, le8 a b → le8 b c → le8 a c := by decide +kernel
theorem le8_anti : ∀ a ∈ F8, ∀ b ∈ F8, le8 a b → le8 b a → a = b := by decide +kernel
theorem rising_pw : ∀ (l : List Str) (p : Str), p ∈ F8 → (∀ x ∈ l, x ∈ F8) → risingS p l = true → (p :: l).Pairwise le8
  | [], p, _, _, _ => List.pairwise_singleton _ _
  | x :: r, p, hp, hl, h => by
    simp only [risingS, Bool.and_eq_true, Bool.not_eq_true'] at h
    have ih := rising_pw r x (hl x List.mem_cons_self) (fun y hy => hl y (List.mem_cons_of_mem _ hy)) h.2
    refine List.pairwise_cons.mpr ⟨fun y hy => ?_, ih⟩
    rcases List.mem_cons.mp hy with rfl | hy
    · exact h.1
    · exact le8_trans p hp x (hl x List.mem_cons_self) y (hl y (List.mem_cons_of_mem _ hy)) h.1 ((List.pairwise_cons.mp ih).1 y hy)
theorem sorted8 {ss : List Str} (hp : ss.Perm F8) (hs : sortedS ss = true) : ss = S8 := by
  have hm : ∀ x ∈ ss, x ∈ F8 := fun x hx => hp.mem_iff.mp hx
  have h8 : S8.Perm F8 := by decide +kernel
  have hm8 : ∀ x ∈ S8, x ∈ F8 := fun x hx => h8.mem_iff.mp hx
  have pw : ss.Pairwise le8 := by
    cases ss with
    | nil => exact .nil
    | cons p l => exact rising_pw l p (hm p List.mem_cons_self) (fun x hx => hm x (List.mem_cons_of_mem _ hx)) hs
  have pw8 : S8.Pairwise le8 := by decide +kernel
  exact List.Perm.eq_of_pairwise (fun a b ha hb h1 h2 => le8_anti a (hm a ha) b (hm8 b hb) h1 h2) pw pw8 (hp.trans h8.symm)
section
variable {prog : Program} {w : World} {A : Around} {E : Value → Shared → Prop} {s : Shared}
theorem sorted_perm {l : Addr} {vs : List Value} {ss : List Str} {Q : Value → Shared → Prop} {h₀ : Heap} {L : Addr} {m : Str → Option Value} {news : List (Addr × Obj)} (F : Fr h₀ L s.heap m) (N : News h₀ L s.heap news) (hl : s.heap.IsList l vs.toArray) (hS : StrsAre vs ss) (h64 : vs.length < 64)
    (h : ∀ (h' : Heap) (vs' : List Value) (ss' : List Str) (e : Nat), Fr h₀ L h' m → News h₀ L h' ((s.heap.objs.size + 1, seqObj "list" vs'.toArray e) :: news) → StrsAre vs' ss' → ss'.Perm ss → sortedS ss' = true → vs'.Perm vs → Q (.ref (s.heap.objs.size + 1)) { s with heap := h' }) :
    wpAny (model prog w) A (call (.builtin "sorted") [.ref l]) Q E s := by
  refine sortedK strKind_oneLt hl hS.keysOf (fun v₁ v₂ rest e => keyKind_strs (by rw [← e]; exact hS)) h64 fun st' hp hs => ?_
  obtain ⟨ss', h1, h2, h3⟩ := sorted_out_str hS hp hs
  obtain ⟨e, he⟩ := sortedAll_at s.heap vs ((arrOf st').map (·.2))
  refine h _ ((arrOf st').map (·.2)).toList ss' e (F.kept fun _ _ => sortedAll_old) (N.kept_cons F (fun _ _ => sortedAll_old) (Nat.le_succ _) he) h1 h2 h3 ?_
  have hl : (arrOf st').toList.Perm (vs.zip vs) := by rw [← pairsOf_toList]; exact Array.perm_iff_toList_perm.mp hp
  have h4 := hl.map Prod.snd
  rw [List.map_snd_zip (Nat.le_refl _)] at h4
  simpa using h4
theorem sorted8_N {l : Addr} {n T t0 t1 t2 t3 t4 t5 t6 t7 : Nat} {Q : Value → Shared → Prop} {h₀ : Heap} {L : Addr} {m : Str → Option Value} {news : List (Addr × Obj)} (F : Fr h₀ L s.heap m)
    (N : News h₀ L s.heap ((l, listOf #[.str (Str.ofString "") t0, .str (Str.ofString "a") t1, .str (Str.ofString "ab") t2, .str (Str.ofString "b") t3, .str (Str.ofString "a/a") t4, .str (Str.ofString "a/ab") t5, .str (Str.ofString "ab/a") t6, .str (Str.ofString "b/b") t7] n) :: news))
    (ht : T ≤ t0 ∧ T ≤ t1 ∧ T ≤ t2 ∧ T ≤ t3 ∧ T ≤ t4 ∧ T ≤ t5 ∧ T ≤ t6 ∧ T ≤ t7)
    (h : ∀ (h' : Heap) (D : Addr) (vs' : List Value) (e : Nat), Fr h₀ L h' m → News h₀ L h' ((D, lst vs' e) :: news) → StrsAre vs' S8 → (∀ x t, Value.str x t ∈ vs' → T ≤ t) → TLg.AllNe D news → Q (.ref D) { s with heap := h' }) :
    wpAny (model prog w) A (call (.builtin "sorted") [.ref l]) Q E s := by
  refine sorted_perm (vs := [.str (Str.ofString "") t0, .str (Str.ofString "a") t1, .str (Str.ofString "ab") t2, .str (Str.ofString "b") t3, .str (Str.ofString "a/a") t4, .str (Str.ofString "a/ab") t5, .str (Str.ofString "ab/a") t6, .str (Str.ofString "b/b") t7]) (ss := F8) F N ⟨_, (N _ (.head _)).1, rfl, n, rfl⟩
    (StrsAre.cons _ _ (.cons _ _ (.cons _ _ (.cons _ _ (.cons _ _ (.cons _ _ (.cons _ _ (.cons _ _ .nil)))))))) (by simp) ?_
  intro h' vs' ss' e F' N' hS hp hs hv
  obtain rfl := sorted8 hp hs
  refine h h' _ vs' e F' (fun p hp => N' p ?_) hS (fun x t hx => ?_) ?_
  · rcases List.mem_cons.mp hp with rfl | hp
    · exact .head _
    · exact .tail _ (.tail _ hp)
  · have := hv.mem_iff.mp hx
    simp only [List.mem_cons, List.not_mem_nil, or_false, Value.str.injEq] at this
    obtain ⟨a0, a1, a2, a3, a4, a5, a6, a7⟩ := ht
    rcases this with h | h | h | h | h | h | h | h <;> (obtain ⟨_, rfl⟩ := h; assumption)
  · have : ∀ p ∈ news, @Ne Nat p.1 (s.heap.objs.size + 1) := fun p hp => Nat.ne_of_lt (Nat.lt_succ_of_lt (Heap.lt_size (N p (.tail _ hp)).1))
    clear N N' h
    induction news with
    | nil => trivial
    | cons p r ih => exact ⟨this p (.head _), ih fun q hq => this q (.tail _ hq)⟩
theorem sorted8_G {l : Addr} {t0 t1 t2 t3 t4 t5 t6 t7 : Nat} {Q : Value → Shared → Prop}
    (hl : s.heap.IsList l #[.str (Str.ofString "") t0, .str (Str.ofString "a") t1, .str (Str.ofString "ab") t2, .str (Str.ofString "b") t3, .str (Str.ofString "a/a") t4, .str (Str.ofString "a/ab") t5, .str (Str.ofString "ab/a") t6, .str (Str.ofString "b/b") t7])
    (h : ∀ (h' : Heap) (D : Addr) (vs' : List Value) (e : Nat), Grow s.heap h' → s.heap.get? D = none → h'.get? D = some (lst vs' e) → StrsAre vs' S8 → Q (.ref D) { s with heap := h' }) :
    wpAny (model prog w) A (call (.builtin "sorted") [.ref l]) Q E s := by
  have hS : StrsAre [.str (Str.ofString "") t0, .str (Str.ofString "a") t1, .str (Str.ofString "ab") t2, .str (Str.ofString "b") t3, .str (Str.ofString "a/a") t4, .str (Str.ofString "a/ab") t5, .str (Str.ofString "ab/a") t6, .str (Str.ofString "b/b") t7] F8 := .cons _ _ (.cons _ _ (.cons _ _ (.cons _ _ (.cons _ _ (.cons _ _ (.cons _ _ (.cons _ _ .nil)))))))
  refine sortedK strKind_oneLt (vs := [.str (Str.ofString "") t0, .str (Str.ofString "a") t1, .str (Str.ofString "ab") t2, .str (Str.ofString "b") t3, .str (Str.ofString "a/a") t4, .str (Str.ofString "a/ab") t5, .str (Str.ofString "ab/a") t6, .str (Str.ofString "b/b") t7]) hl hS.keysOf (fun v₁ v₂ rest e => keyKind_strs (by rw [← e]; exact hS)) (by simp) fun st' hp hs => ?_
  obtain ⟨ss', h1, h2, h3⟩ := sorted_out_str hS hp hs
  obtain rfl := sorted8 h2 h3
  obtain ⟨e, he⟩ := sortedAll_at s.heap _ ((arrOf st').map (·.2))
  exact h _ _ ((arrOf st').map (·.2)).toList e (fun _ _ => sortedAll_old) (Heap.get?_none_of_le (Nat.le_succ _)) he h1
end
end Mine
end
section
open PySem PySem.W PyProof.Rows PySem.Calls PySem.Spec
set_option maxRecDepth 100000
namespace Mine
theorem allNe_of {d : Addr} : ∀ {l : List (Addr × Obj)}, (∀ p ∈ l, p.1 ≠ d) → TLg.AllNe d l
  | [], _ => trivial
  | p :: _, h => ⟨h p (.head _), allNe_of fun q hq => h q (.tail _ hq)⟩
theorem UpdF.mem {d : Addr} {o : Obj} {l : List (Addr × Obj)} {g : Obj → List (Addr × Obj)} (U : UpdF d o l g) : (d, o) ∈ l := by
  induction U with
  | head _ => exact .head _
  | tail _ _ ih => exact .tail _ ih
theorem UpdF.other {d : Addr} {o o' : Obj} {l : List (Addr × Obj)} {g : Obj → List (Addr × Obj)} (U : UpdF d o l g) : ∀ p ∈ g o', p = (d, o') ∨ (p ∈ l ∧ p.1 ≠ d) := by
  induction U with
  | head h =>
    intro p hp
    rcases List.mem_cons.mp hp with rfl | hp
    · exact .inl rfl
    · exact .inr ⟨.tail _ hp, h p hp⟩
  | tail h _ ih =>
    intro p hp
    rcases List.mem_cons.mp hp with rfl | hp
    · exact .inr ⟨.head _, h⟩
    · rcases ih p hp with q | ⟨q, r⟩
      · exact .inl q
      · exact .inr ⟨.tail _ q, r⟩
theorem ne_new' {h₀ h : Heap} {L D : Addr} {news : List (Addr × Obj)} (N : News h₀ L h news) (hD : h.get? D = none) : TLg.AllNe D news := by
  refine allNe_of fun p hp q => ?_
  have h1 := (N p hp).1
  rw [q, hD] at h1; cases h1
theorem copy_N {prog : Program} {w : World} {A : Around} {E : Value → Shared → Prop} {s : Shared} {h₀ : Heap} {L : Addr} {m : Str → Option Value} {news : List (Addr × Obj)} {value slice : Expr} {l : Addr} {vs : List Value} {n : Nat} {Q : Value → Shared → Prop}
    (F : Fr h₀ L s.heap m) (N : News h₀ L s.heap news) (hm : (l, lst vs n) ∈ news) (hz : vs.length ≤ 1000)
    (h : ∀ D h', Fr h₀ L h' m → News h₀ L h' ((D, lst vs 0) :: news) → AllLt D news → Q (.ref D) { s with heap := h' })
    (hs : subscripted slice false (.ref l) (.ref s.heap.objs.size) = operate [.ref s.heap.objs.size, .ref l] (getItem (.ref l) (.ref s.heap.objs.size)) := by with_unfolding_all rfl)
    (ht : ∀ r, letTemporaryGo value (.ref l) r = pure () := by intro _; with_unfolding_all rfl) :
    wpAny (model prog w) A (subscriptTail value slice (.ref l) (.ref s.heap.objs.size)) Q E { s with heap := s.heap.push { cls := .type "slice", data := .fields #[.none, .none, .none] } } := by
  refine slice_list F N ⟨_, (N _ hm).1, rfl, n, rfl⟩ .none .none (fun h' F' N' => h _ h' F' (by rw [slicePick_all] at N'; exact N') ?_) hs ht (by have := sizeLine_eq; simp; omega)
  exact allLt_of fun p hp => Nat.lt_succ_of_lt (Heap.lt_size (N p hp).1)
theorem uld_len : ∀ (xs ys zs : List Str), (uld xs ys zs).1.length ≤ zs.length + xs.length ∧ (uld xs ys zs).2.length ≤ ys.length
  | [], ys, zs => ⟨Nat.le_refl _, Nat.le_refl _⟩
  | x :: r, ys, zs => by
    unfold uld
    split
    · have h := uld_len r (ys.erase x) zs
      have h2 : (ys.erase x).length ≤ ys.length := List.length_erase_le ..
      constructor
      · simp only [List.length_cons]; omega
      · omega
    · have h := uld_len r ys (zs ++ [x])
      simp only [List.length_append, List.length_cons, List.length_nil] at h ⊢
      omega
set_option maxHeartbeats 1000000 in
theorem uld_K {w : World} {mean : ExcName → Option Value} {mg mb : Str → Option Value} {dp un : Nat} {gd : Option (List Code)} {base : Heap} {env env' : Env} {L L' : Addr} {hb : Heap} {m : Str → Option Value} {s : Shared} {oL : Obj} {Q E : Value → Shared → Prop}
    {rest : List (Addr × Obj)} {g : Obj → List (Addr × Obj)} {e a : Addr} {vs ws : List Value} {xs ys : List Str} {k1 k2 T : Nat}
    (S : Sub w mean mg mb dp un gd base env L hb L') (hf' : env'.frame = some L') (hk' : env'.scope.kind = .function) (F : Fr hb L' s.heap m) (N : News hb L' s.heap ((a, lst ws k2) :: (e, lst vs k1) :: rest)) (hea : @Ne Nat e a) (ne : TLg.AllNe e rest) (na : TLg.AllNe a rest) (U : UpdF L oL rest g) (hd : ∃ es ep, oL.data = .dict es ep)
    (hS : StrsT T vs xs) (hW : StrsT T ws ys) (hz : vs.length ≤ 500) (hz2 : ws.length ≤ 500)
    (ret : ∀ h' tk' M D ms ws' j2 j3 sl, Fr hb L' h' m → News hb L' h' ((D, { cls := .type "tuple", data := .seq #[.ref M, .ref a] }) :: (M, lst ms j3) :: (a, lst ws' j2) :: g { oL with slots := sl }) → @Ne Nat M D → TLg.AllNe D ((a, lst ws k2) :: (e, lst vs k1) :: rest) → TLg.AllNe M ((a, lst ws k2) :: (e, lst vs k1) :: rest) →
      StrsT T ms (uld xs.reverse ys []).1 → StrsT T ws' (uld xs.reverse ys []).2 → ms.length ≤ vs.length → ws'.length ≤ ws.length → s.toks ≤ tk' → Q (.ref D) { s with heap := h', toks := tk' }) :
    wpAny (model prog0 w) ((mkA dp un gd env []).deeper env') (call (.ref 136) [.ref e, .ref a]) Q E s := by
  have hmem : (L, oL) ∈ rest := UpdF.mem U
  have At := S.at hf' hk' F N (.tail _ (.tail _ hmem)) hd
  have hbn : ∀ {b : Addr}, hb.get? b = none → base.get? b = none := fun {b} q => Grow.none S.st q
  have ha := N _ (.head _)
  have he := N _ (.tail _ (.head _))
  refine wpAny_with_toks (Nat.le_refl _) ?_
  refine wpAny_noRaise ?_
  refine uld_c At he.1 ha.1 hea (hbn he.2.2) (hbn ha.2.2) hS hW hz hz2 ?_
  intro h' tk' M D ms ws' j1 j2 j3 oT oT' frs' hk hT SU hT' hfr hM hD hMD gM ga ge gD sM sW htk
  have hLn : hb.get? L = none := (N _ (.tail _ (.tail _ hmem))).2.2
  obtain ⟨_, ⟨sl1, e1⟩, SU2⟩ := SU
  have e1' : oT' = { oT with slots := sl1 } := e1
  have key : ∃ sl, frs' = [(L, { oL with slots := sl })] := by
    cases frs' with
    | nil => exact False.elim SU2
    | cons q r =>
      obtain ⟨q1, ⟨sl, q2⟩, q3⟩ := SU2
      cases r with
      | cons _ _ => exact False.elim q3
      | nil =>
        obtain ⟨qa, qo⟩ := q
        exact ⟨sl, by rw [show qa = L from q1, show qo = { oL with slots := sl } from q2]⟩
  obtain ⟨sl, rfl⟩ := key
  have hL' := hfr _ (.head _)
  have F' : Fr hb L' h' m := by
    obtain ⟨o, es, ep, h1, h2, h3, h4⟩ := F.ns
    have h1' : some o = some oT := h1.symm.trans hT
    cases h1'
    refine ⟨⟨_, es, ep, hT', by rw [e1']; exact h2, h3, h4⟩, fun b o' q => hk b o' (fun r => ?_) (fun r => ?_) (Nat.ne_of_lt (Nat.lt_of_lt_of_le (Heap.lt_size q) F.above)) (fun p hp r => ?_) (F.keep b o' q), F.above⟩
    · rw [r, he.2.2] at q; cases q
    · rw [r, ha.2.2] at q; cases q
    · rw [List.mem_singleton.mp hp] at r
      have r' : L = b := r
      rw [← r', hLn] at q; cases q
  refine ret h' tk' M D ms ws' j2 j3 sl F' (fun p hp => ?_) hMD (ne_new' N hD) (ne_new' N hM) sM sW (by have := (uld_len xs.reverse ys []).1; rw [sM.length, hS.length]; simpa using this) (by have := (uld_len xs.reverse ys []).2; rw [sW.length, hW.length]; exact this) htk
  have fresh : ∀ {b : Addr}, s.heap.get? b = none → b ≠ L' ∧ hb.get? b = none := by
    intro b q
    refine ⟨fun r => ?_, Grow.none F.keep q⟩
    obtain ⟨o, _, _, h1, _⟩ := F.ns
    rw [r, h1] at q; cases q
  rcases List.mem_cons.mp hp with rfl | hp
  · exact ⟨gD, fresh hD⟩
  rcases List.mem_cons.mp hp with rfl | hp
  · exact ⟨gM, fresh hM⟩
  rcases List.mem_cons.mp hp with rfl | hp
  · exact ⟨ga, ha.2⟩
  rcases UpdF.other U p hp with rfl | ⟨hp, hpL⟩
  · exact ⟨hL', (N _ (.tail _ (.tail _ hmem))).2⟩
  · have np := N p (.tail _ (.tail _ hp))
    refine ⟨hk p.1 p.2 (ne.mem p hp) (na.mem p hp) np.2.1 (fun q hq r => ?_) np.1, np.2⟩
    rw [List.mem_singleton.mp hq] at r
    exact hpL r.symm
end Mine
end
section
open PySem PySem.W PyProof.Rows PySem.Calls PySem.Spec
set_option maxRecDepth 100000
namespace Mine
theorem StrsT.strs {T : Nat} {vs : List Value} {xs : List Str} (h : StrsT T vs xs) : StrsAre vs xs := h.are
section
variable {w : World} {A A₀ : Around} {dp un : Nat} {gd : Option (List Code)} {E : Value → Shared → Prop} {s : Shared} {ce env : Env} {base base0 h₀ : Heap} {mean : ExcName → Option Value} {mg mb : Str → Option Value} {outer : List Env} {L : Addr} {m m₂ : Str → Option Value} {Q : Value → Shared → Prop}
theorem name_C {M : Model} {x : Str} {pos : Pos} {c : Addr} {v : Value} (hk : ce.scope.kind = .function) (hx : ce.kindOf x = some .cell) (hd : (x == ("__debug__" : Str)) = false) (hc : ce.cells.lookup x = some c) (hv : s.heap.IsCell c (some v)) (h : Q v s) : wpAny M A (eval (.Name x pos) ce) Q E s :=
  wpAny_Name (wpAny_loadName_cell hk hx hc hv h) hd
theorem call_CL {fn cn : Str} {p1 p2 p3 p4 : Pos} {f c : Addr} {v1 v2 : Value} {oc : Value} {od : Option Addr} {fd : FuncData} {osl : Array (Option Value)} (X : (Mine.hd.heap_39 w.params).In base) (T : Top0 mean mg mb base) (k : Grow base s.heap)
    (ho : nsIn (Mine.hd.heap_39 w.params) mainGlobals fn = some (some (.ref f))) (hfo : (Mine.hd.heap_39 w.params).lookup f = some ⟨oc, od, .func fd, osl⟩)
    (hgl : ce.globals = mainGlobals) (hkind : ce.scope.kind = .function) (hk1 : ce.kindOf fn = some .globalImplicit) (hfd : (fn == ("__debug__" : Str)) = false) (hk2 : ce.kindOf cn = some .cell) (hcd : (cn == ("__debug__" : Str)) = false) (hc : ce.cells.lookup cn = some c) (hv : s.heap.IsCell c (some v1))
    (hk3 : ce.kindOf "one" = some .local) (hn : s.heap.Ns ce.locals m₂) (hx1 : m₂ "one" = some v2) (hs : starEach [.Name cn p2, .Name "one" p3] ce = [(false, eval (.Name cn p2) ce), (false, eval (.Name "one" p3) ce)])
    (h : wpAny (model prog0 w) A (call (.ref f) [v1, v2]) Q E s) : wpAny (model prog0 w) A (eval (.Call (.Name fn p1) [.Name cn p2, .Name "one" p3] [] p4) ce) Q E s :=
  call_G2 X T k ho hfo hgl hkind hk1 hfd hs (name_C hkind hk2 hcd hc hv (name_L hn hkind hk3 (by decide) hx1 ⟨k, h⟩))
end
theorem strsGet : ∀ {vs : List Value} {xs : List Str}, StrsAre vs xs → ∀ {i : Nat} {v : Value}, vs[i]? = some v → ∃ x t, xs[i]? = some x ∧ v = .str x t
  | _, _, .nil, _, _, e => by simp at e
  | _, _, .cons m t _, 0, v, e => by simp at e; subst e; exact ⟨_, _, rfl, rfl⟩
  | _, _, .cons _ _ h, i + 1, v, e => by simpa using strsGet h (i := i) (v := v) (by simpa using e)
theorem IsCell.up {h h' : Heap} {c : Addr} {v : Option Value} (g : Grow h h') (x : h.IsCell c v) : h'.IsCell c v := by
  obtain ⟨o, ho, r⟩ := x
  exact ⟨o, g _ _ ho, r⟩
/-- a row that is told of a folder -/
def rowV (ms ls : List Str) (x : Str) (t1 t2 : Nat) : List Value := [.int (ms.count x) t1, .int (ls.count x) t2, .bool (ms.any fun y => y == x), .bool (ls.any fun y => y == x)]
def ZTold (ms ls xs : List Str) (N : Addr → Prop) (us ys : List Value) (s : Shared) : Prop :=
  ∃ as : List (Addr × Nat × Nat), ys = as.map (fun a => .ref a.1) ∧ as.length = us.length ∧ ∀ (j : Nat) a x, as[j]? = some a → xs[j]? = some x → N a.1 ∧ s.heap.get? a.1 = some (lst (rowV ms ls x a.2.1 a.2.2) 0)
theorem ZTold.up {ms ls xs : List Str} {N : Addr → Prop} {us ys : List Value} {s s' : Shared} (h : ZTold ms ls xs N us ys s) (k : ∀ b o, N b → s.heap.get? b = some o → s'.heap.get? b = some o) : ZTold ms ls xs N us ys s' := by
  obtain ⟨as, h1, h2, h3⟩ := h
  exact ⟨as, h1, h2, fun j a x ha hx => ⟨(h3 j a x ha hx).1, k _ _ (h3 j a x ha hx).1 (h3 j a x ha hx).2⟩⟩
theorem ZTold.snoc {ms ls xs : List Str} {N : Addr → Prop} {us ys : List Value} {s : Shared} {v : Value} {D : Addr} {x : Str} {t1 t2 : Nat} (h : ZTold ms ls xs N us ys s) (hx : xs[us.length]? = some x) (hN : N D) (hD : s.heap.get? D = some (lst (rowV ms ls x t1 t2) 0)) : ZTold ms ls xs N (us ++ [v]) (ys ++ [.ref D]) s := by
  obtain ⟨as, rfl, h2, h3⟩ := h
  refine ⟨as ++ [(D, t1, t2)], by simp, by simp [h2], fun j a x' ha hx' => ?_⟩
  rcases Nat.lt_trichotomy j as.length with q | q | q
  · exact h3 j a x' (by rwa [List.getElem?_append_left q] at ha) hx'
  · subst q
    rw [h2] at hx'
    rw [hx] at hx'; cases hx'
    simp at ha; subst ha
    exact ⟨hN, hD⟩
  · rw [List.getElem?_eq_none (by rw [List.length_append, List.length_singleton]; omega)] at ha; cases ha
set_option maxHeartbeats 1000000 in
theorem told_step {w : World} {mean : ExcName → Option Value} {mg mb : Str → Option Value} {dp un : Nat} {gd : Option (List Code)} {base : Heap} {env env' : Env} {L L' : Addr} {hb : Heap} {m : Str → Option Value} {s : Shared} {objs : List (Addr × Obj)} {oL : Obj}
    {la M1 a1 cM cW : Addr} {vs3 ms1 ws1 : List Value} {xs ms ls : List Str} {i1 i2 T : Nat} {y src : Str} {py spos p1 p2 p3 p4 p5 q1 q2 q3 q4 q5 r1 r2 r3 r4 u1 u2 u3 u4 pos lp : Pos} {sc : Scope} {cl : List (Str × Addr)}
    (S : Sub w mean mg mb dp un gd base env L hb L') (hf' : env'.frame = some L') (hk' : env'.scope.kind = .function) (hgl : env'.globals = mainGlobals) (hlo : env'.locals = L') (F : Fr hb L' s.heap m) (N : News hb L' s.heap objs) (hm : (L, oL) ∈ objs) (hd : ∃ es ep, oL.data = .dict es ep)
    (hcM : s.heap.IsCell cM (some (.ref M1))) (hcW : s.heap.IsCell cW (some (.ref a1))) (hM : s.heap.get? M1 = some (lst ms1 i1)) (hW : s.heap.get? a1 = some (lst ws1 i2)) (sM : StrsT T ms1 ms) (sW : StrsT T ws1 ls)
    (hl : s.heap.IsList la vs3.toArray) (hls : StrsAre vs3 xs) (hT : ∀ x t, Value.str x t ∈ vs3 → T ≤ t) (h0 : 0 < T) (hz : vs3.length ≤ 100) (hsrc : m src = some (.ref la))
    (hsw : swapsWith (.ListComp (.List [.Call (.Name "countOf" p1) [.Name "more" p2, .Name "one" p3] [] p4, .Call (.Name "countOf" q1) [.Name "less" q2, .Name "one" q3] [] q4, .Call (.Name "contains" r1) [.Name "more" r2, .Name "one" r3] [] r4, .Call (.Name "contains" u1) [.Name "less" u2, .Name "one" u3] [] u4] lp) [⟨.Name "one" p5, .Name src q5, [], 0⟩] sc pos) (some (.Name y py)) spos.line env' = pure true)
    (hclos : closureFor sc env' = pure cl) (hcell : ∀ y ∈ sc.names, y.2 ≠ .cell) (hkind : sc.kind = .function) (hnames : ∀ y ∈ sc.names, y.2 = .local → sc.names.lookup y.1 = some .local) (hx : sc.names.lookup ("one" : Str) = some .local) (hy : env'.kindOf y = some .local)
    (hsk : env'.kindOf src = some .local) (hsd : (src == ("__debug__" : Str)) = false) (hco : ∀ C, (compEnvC sc cl C env').kindOf "one" = some .local) (hcc : ∀ C, (compEnvC sc cl C env').kindOf "countOf" = some .globalImplicit) (hcn : ∀ C, (compEnvC sc cl C env').kindOf "contains" = some .globalImplicit)
    (hcm : ∀ C, (compEnvC sc cl C env').kindOf "more" = some .cell) (hcl : ∀ C, (compEnvC sc cl C env').kindOf "less" = some .cell) (hlm : cl.lookup ("more" : Str) = some cM) (hll : cl.lookup ("less" : Str) = some cW)
    (hs : ∀ x, foldedSetIterable (.Name src q5) env' x = pure x)
    (ho : nsIn (Mine.hd.heap_39 w.params) mainGlobals "countOf" = some (some (.ref 42))) {oc : Value} {od : Option Addr} {fd : FuncData} {osl : Array (Option Value)} (hfo : (Mine.hd.heap_39 w.params).lookup 42 = some ⟨oc, od, .func fd, osl⟩)
    (ho2 : nsIn (Mine.hd.heap_39 w.params) mainGlobals "contains" = some (some (.ref 35))) {oc2 : Value} {od2 : Option Addr} {fd2 : FuncData} {osl2 : Array (Option Value)} (hfo2 : (Mine.hd.heap_39 w.params).lookup 35 = some ⟨oc2, od2, .func fd2, osl2⟩) :
    wpAny (model prog0 w) ((mkA dp un gd env []).deeper env') (exec (.Assign [.Name y py] (.ListComp (.List [.Call (.Name "countOf" p1) [.Name "more" p2, .Name "one" p3] [] p4, .Call (.Name "countOf" q1) [.Name "less" q2, .Name "one" q3] [] q4, .Call (.Name "contains" r1) [.Name "more" r2, .Name "one" r3] [] r4, .Call (.Name "contains" u1) [.Name "less" u2, .Name "one" u3] [] u4] lp) [⟨.Name "one" p5, .Name src q5, [], 0⟩] sc pos) spos) env')
      (Ends fun s' => ∃ (D : Addr) (as : List (Addr × Nat × Nat)) (j : Nat), TS s hb L' (fun z => if z = y then some (.ref D) else m z) ((D, lst (as.map fun a => .ref a.1) j) :: objs) s' ∧ as.length = vs3.length ∧ (∀ (j : Nat) a x, as[j]? = some a → xs[j]? = some x → a.1 ≠ L' ∧ hb.get? a.1 = none ∧ s'.heap.get? a.1 = some (lst (rowV ms ls x a.2.1 a.2.2) 0)) ∧ s.heap.get? D = none ∧ s.toks ≤ s'.toks) Never s := by
  have hb0 : Grow base s.heap := fun b o e => F.keep b o (S.st b o e)
  refine Assign_ListComp_list (Z := fun N us ys s₂ => ZTold ms ls xs (fun b => N b ∧ b ≠ L' ∧ hb.get? b = none) us ys s₂) hsw hclos hcell hkind hnames hx hy (by rw [hk']; rfl) rfl hs ?_
  refine name_L (m := m) (by rw [hlo]; exact F.ns) hk' hsk hsd hsrc ?_
  refine ⟨la, vs3, m, rfl, hl, by have := sizeLine_eq; omega, by rw [hlo]; exact F.ns, ⟨fun N h tk hg ht => ⟨[], rfl, rfl, fun j a x ha => by simp at ha⟩, fun N us ys s₂ h' tk' hz hk ht => hz.up fun b o hb e => hk b o hb.1 e, ?_⟩, ?_⟩
  · intro N' C us v ys s₂ m₂ hv hZ hs₂ hn hm₂ hg hN hN' htk hC
    obtain ⟨x, t, hp, rfl⟩ := strsGet hls hv
    have hTt := hT x t (List.mem_of_getElem? hv)
    refine wpAny_tests_nil ⟨keeps_refl _, ?_⟩
    simp only [if_true]
    refine wpAny_List ?_
    refine spliced_cons (call_CL S.X S.T (hb0.trans hg) ho hfo hgl hkind (hcc C) (by decide) (hcm C) (by decide) hlm (IsCell.up hg hcM) (hco C) hn hm₂ rfl ?_)
    have isl : ∀ {h : Heap} {a : Addr} {vs : List Value} {n : Nat}, h.get? a = some (lst vs n) → h.IsList a vs.toArray := fun e => ⟨_, e, rfl, _, rfl⟩
    have upg : ∀ {h : Heap} {a : Addr} {vs : List Value} {n : Nat}, Grow s.heap h → s.heap.get? a = some (lst vs n) → h.IsList a vs.toArray := fun g e => isl (g _ _ e)
    refine countOf_c (S.at hf' hk' (F.keeps hg) (newsUp N fun p hp e => hg _ _ e) hm hd).at (upg hg hM) sM (Nat.lt_of_lt_of_le h0 hTt) hTt ?_
    intro h1 tk1 t1 g1
    have hg1 := hg.trans g1
    refine spliced_cons (call_CL S.X S.T (hb0.trans hg1) ho hfo hgl hkind (hcc C) (by decide) (hcl C) (by decide) hll (IsCell.up hg1 hcW) (hco C) (hn.keeps g1) hm₂ rfl ?_)
    refine countOf_c (S.at hf' hk' (F.keeps hg1) (newsUp N fun p hp e => hg1 _ _ e) hm hd).at (upg hg1 hW) sW (Nat.lt_of_lt_of_le h0 hTt) hTt ?_
    intro h2 tk2 t2 g2
    have hg2 := hg1.trans g2
    refine spliced_cons (call_CL S.X S.T (hb0.trans hg2) ho2 hfo2 hgl hkind (hcn C) (by decide) (hcm C) (by decide) hlm (IsCell.up hg2 hcM) (hco C) ((hn.keeps g1).keeps g2) hm₂ rfl ?_)
    refine contains_c (S.at hf' hk' (F.keeps hg2) (newsUp N fun p hp e => hg2 _ _ e) hm hd).at (upg hg2 hM) sM.are ?_
    intro h3 tk3 g3
    have hg3 := hg2.trans g3
    refine spliced_cons (call_CL S.X S.T (hb0.trans hg3) ho2 hfo2 hgl hkind (hcn C) (by decide) (hcl C) (by decide) hll (IsCell.up hg3 hcW) (hco C) (((hn.keeps g1).keeps g2).keeps g3) hm₂ rfl ?_)
    refine contains_c (S.at hf' hk' (F.keeps hg3) (newsUp N fun p hp e => hg3 _ _ e) hm hd).at (upg hg3 hW) sW.are ?_
    intro h4 tk4 g4
    have hg4 := hg3.trans g4
    have gg : Grow s₂.heap h4 := ((g1.trans g2).trans g3).trans g4
    refine spliced_nil ⟨by have := sizeLine_eq; simp; omega, ?_⟩
    obtain ⟨hh, ttk, rfl⟩ := hs₂
    have hnew : h4.get? h4.objs.size = none := Heap.get?_none_of_le (Nat.le_refl _)
    refine ⟨⟨_, _, rfl, fun b o e => Heap.get?_push_of_some _ (gg b o e)⟩, ?_⟩
    refine ZTold.snoc (t1 := t1) (t2 := t2) (ZTold.up hZ fun b o _ e => Heap.get?_push_of_some _ (gg b o e)) hp ⟨hN _ (Grow.none gg hnew), fun q => ?_, Grow.none (F.keeps hg4).keep hnew⟩ (Heap.get?_push_size _ rfl)
    obtain ⟨o, _, _, ho', _⟩ := (F.keeps hg4).ns
    rw [← q] at ho'
    exact nomatch (ho'.symm.trans hnew)
  · intro D h' tk' ys N' j hD hpl' hyl hZ hN hND hns hk htk
    obtain ⟨as, rfl, hal, hrow⟩ := hZ
    refine ⟨rfl, D, as, j, ⟨⟨h', tk', rfl⟩, ⟨by rw [← hlo]; exact hns, fun b o e => hk b o ?_ (F.keep b o e), F.above⟩, ?_⟩, hal, fun j a x ha hx => ⟨(hrow j a x ha hx).1.2.1, (hrow j a x ha hx).1.2.2, (hrow j a x ha hx).2⟩, hD, htk⟩
    · rw [hlo]; exact Nat.ne_of_lt (Nat.lt_of_lt_of_le (Heap.lt_size e) F.above)
    · intro p hp
      rcases List.mem_cons.mp hp with rfl | hp
      · refine ⟨hpl', fun q => ?_, Grow.none F.keep hD⟩
        obtain ⟨o, _, _, ho, _⟩ := F.ns
        have q' : D = L' := q
        rw [q', ho] at hD; cases hD
      · exact ⟨hk _ _ (by rw [hlo]; exact (N p hp).2.1) (N p hp).1, (N p hp).2⟩
end Mine
end
section
open PySem PySem.W PyProof.Rows PySem.Calls PySem.Spec
set_option maxRecDepth 100000
namespace Mine
theorem Fr.at_of {hb : Heap} {L' : Addr} {h h' : Heap} {m : Str → Option Value} (F : Fr hb L' h m) (ns : h'.Ns L' m) (k : ∀ b o, hb.get? b = some o → h'.get? b = some o) : Fr hb L' h' m := ⟨ns, k, F.above⟩
/-- the shape of a pair of lists of strs -/
structure PairAt (T : Nat) (h₀ h : Heap) (D : Addr) (xs ys : List Str) : Prop where
  at_ : ∃ M W ms ws i j, h₀.get? D = none ∧ h₀.get? M = none ∧ h₀.get? W = none ∧ h.get? D = some { cls := .type "tuple", data := .seq #[.ref M, .ref W] } ∧ h.get? M = some (lst ms i) ∧ h.get? W = some (lst ws j) ∧ StrsT T ms xs ∧ StrsT T ws ys
set_option maxHeartbeats 1000000 in
theorem chk_elt {w : World} {mean : ExcName → Option Value} {mg mb : Str → Option Value} {dp un : Nat} {gd : Option (List Code)} {base : Heap} {env env' : Env} {L L' : Addr} {hb : Heap} {m : Str → Option Value} {s : Shared} {oL : Obj} {Q : Value → Shared → Prop}
    {l1 l2 l3 : Addr} {v1 v2 v3 : List Value} {x1 x2 x3 : List Str} {n1 n2 n3 T : Nat} {z : Str} {e1 e2 : Expr} {p1 p2 p3 p4 p5 p6 p7 : Pos}
    (S : Sub w mean mg mb dp un gd base env L hb L') (hf' : env'.frame = some L') (hk' : env'.scope.kind = .function) (hgl : env'.globals = mainGlobals) (hlo : env'.locals = L') (F : Fr hb L' s.heap m) (N : News hb L' s.heap [(L, oL)]) (hd : ∃ es ep, oL.data = .dict es ep)
    (h1 : ∀ Q', Q' (.ref l1) s → wpAny (model prog0 w) ((mkA dp un gd env []).deeper env') (eval e1 env') Q' Never s) (h2 : ∀ Q', Q' (.ref l2) s → wpAny (model prog0 w) ((mkA dp un gd env []).deeper env') (eval e2 env') Q' Never s)
    (g1 : s.heap.get? l1 = some (lst v1 n1)) (g2 : s.heap.get? l2 = some (lst v2 n2)) (g3 : s.heap.get? l3 = some (lst v3 n3)) (hz : m z = some (.ref l3)) (s1 : StrsT T v1 x1) (s2 : StrsT T v2 x2) (s3 : StrsT T v3 x3)
    (z1 : v1.length ≤ 100) (z2 : v2.length ≤ 100) (z3 : v3.length ≤ 100) (hku : env'.kindOf "unorderable_list_difference" = some .globalImplicit) (hkc : env'.kindOf "concat" = some .globalImplicit) (hkz : env'.kindOf z = some .local) (hzd : (z == ("__debug__" : Str)) = false)
    (hs1 : starEach [e1, e2] env' = [(false, eval e1 env'), (false, eval e2 env')])
    (hs2 : starEach [.Call (.Name "concat" p3) [e1, e2] [] p4, .Subscript (.Name z p5) (.Slice none none none p6) p7] env' = [(false, eval (.Call (.Name "concat" p3) [e1, e2] [] p4) env'), (false, eval (.Subscript (.Name z p5) (.Slice none none none p6) p7) env')])
    (ho : nsIn (Mine.hd.heap_39 w.params) mainGlobals "concat" = some (some (.ref 28))) {oc : Value} {od : Option Addr} {fd : FuncData} {osl : Array (Option Value)} (hfo : (Mine.hd.heap_39 w.params).lookup 28 = some ⟨oc, od, .func fd, osl⟩)
    (ho2 : nsIn (Mine.hd.heap_39 w.params) mainGlobals "unorderable_list_difference" = some (some (.ref 136))) {oc2 : Value} {od2 : Option Addr} {fd2 : FuncData} {osl2 : Array (Option Value)} (hfo2 : (Mine.hd.heap_39 w.params).lookup 136 = some ⟨oc2, od2, .func fd2, osl2⟩)
    (ret : ∀ h' tk' D sl, Fr hb L' h' m → News hb L' h' [(L, { oL with slots := sl })] → (∀ b o, b ≠ L' → b ≠ L → s.heap.get? b = some o → h'.get? b = some o) → PairAt T s.heap h' D (uld (x1 ++ x2).reverse x3 []).1 (uld (x1 ++ x2).reverse x3 []).2 → Q (.ref D) { s with heap := h', toks := tk' }) :
    wpAny (model prog0 w) ((mkA dp un gd env []).deeper env') (eval (.Call (.Name "unorderable_list_difference" p1) [.Call (.Name "concat" p3) [e1, e2] [] p4, .Subscript (.Name z p5) (.Slice none none none p6) p7] [] p2) env') Q Never s := by
  have hb0 : Grow base s.heap := fun b o e => F.keep b o (S.st b o e)
  have sl0 := sizeLine_eq
  have At := S.at hf' hk' F N (.head _) hd
  refine call_G2 S.X S.T hb0 ho2 hfo2 hgl hk' hku (by decide) hs2 ?_
  refine call_G2 S.X S.T hb0 ho hfo hgl hk' hkc (by decide) hs1 (h1 _ (h2 _ ⟨hb0, ?_⟩))
  refine concat_c At.at g1 g2 (by omega) ?_
  intro hC tkC C gC nC hCC
  refine wpAny_Subscript_list_slice (name_L (m := m) (by rw [hlo]; exact F.ns.keeps gC) hk' hkz hzd hz ?_)
  rw [evalPart_none]
  refine wpAny_pure ?_
  refine wpAny_pure ?_
  refine ⟨l3, v3.toArray, none, none, rfl, ⟨_, gC _ _ g3, rfl, _, rfl⟩, by simp; omega, .none, .none, ?_⟩
  rw [slicePick_all]
  generalize hH : (hC.push { cls := .type "slice", data := .fields #[.none, .none, .none] }).push { cls := .type "list", data := .seq v3.toArray } = H
  have gH : Grow hC H := fun b o e => by rw [← hH]; exact Heap.get?_push_of_some _ (Heap.get?_push_of_some _ e)
  have hWW : H.get? (hC.objs.size + 1) = some (lst v3 0) := by
    have q := Heap.get?_push_size (h := hC.push { cls := .type "slice", data := .fields #[.none, .none, .none] }) (o := { cls := .type "list", data := .seq v3.toArray }) (by rfl)
    rw [Heap.size_push, hH] at q
    exact q
  have nW : hC.get? (hC.objs.size + 1) = none := Heap.get?_none_of_le (Nat.le_succ _)
  have gS : Grow s.heap H := gC.trans gH
  have nWs : s.heap.get? (hC.objs.size + 1) = none := Grow.none gC nW
  have neCW : C ≠ hC.objs.size + 1 := fun q => by rw [← q, hCC] at nW; cases nW
  have F2 := F.keeps gS
  have N2 := newsUp N fun p hp e => gS _ _ e
  have nh : ∀ {b : Addr}, s.heap.get? b = none → base.get? b = none := fun q => Grow.none hb0 q
  have hH2 := gH _ _ hCC
  show Grow base H ∧ wpAny _ _ _ _ _ ({ s with heap := H, toks := tkC } : Shared)
  refine ⟨hb0.trans gS, uld_c (s := { s with heap := H, toks := tkC }) (S.at hf' hk' F2 N2 (.head _) hd) hH2 hWW neCW (nh nC) (nh nWs) (s1.append s2) s3 (by rw [List.length_append]; omega) (by omega) ?_⟩
  intro h' tk' M D ms ws' j1 j2 j3 oT oT' frs' hk hT SU hT' hfr hM hD hMD gM ga ge gD sM sW
  have hLn : hb.get? L = none := (N _ (.head _)).2.2
  obtain ⟨_, ⟨sl1, e1⟩, SU2⟩ := SU
  have e1' : oT' = { oT with slots := sl1 } := e1
  have key : ∃ sl, frs' = [(L, { oL with slots := sl })] := by
    cases frs' with
    | nil => exact False.elim SU2
    | cons q r =>
      obtain ⟨q1, ⟨sl, q2⟩, q3⟩ := SU2
      cases r with
      | cons _ _ => exact False.elim q3
      | nil =>
        obtain ⟨qa, qo⟩ := q
        exact ⟨sl, by rw [show qa = L from q1, show qo = { oL with slots := sl } from q2]⟩
  obtain ⟨sl, rfl⟩ := key
  have hL' := hfr _ (.head _)
  have kept : ∀ b o, b ≠ L' → b ≠ L → s.heap.get? b = some o → h'.get? b = some o := by
    intro b o q1 q2 e
    refine hk b o (fun r => ?_) (fun r => ?_) q1 (fun p hp r => ?_) (gS b o e)
    · rw [r, nC] at e; cases e
    · rw [r, nWs] at e; cases e
    · rw [List.mem_singleton.mp hp] at r; exact q2 r.symm
  have F' : Fr hb L' h' m := by
    obtain ⟨o, es, ep, h1, h2, h3, h4⟩ := F2.ns
    have h1' : some o = some oT := h1.symm.trans hT
    cases h1'
    refine ⟨⟨_, es, ep, hT', by rw [e1']; exact h2, h3, h4⟩, fun b o' q => kept b o' (Nat.ne_of_lt (Nat.lt_of_lt_of_le (Heap.lt_size q) F.above)) (fun r => ?_) (F.keep b o' q), F.above⟩
    rw [r, hLn] at q; cases q
  refine ret h' tk' D sl F' (fun p hp => ?_) kept ⟨M, hC.objs.size + 1, ms, ws', j3, j2, Grow.none gS hD, Grow.none gS hM, nWs, gD, gM, ga, sM, sW⟩
  rw [List.mem_singleton.mp hp]
  exact ⟨hL', (N _ (.head _)).2⟩
end Mine
end
section
open PySem PySem.W PyProof.Rows PySem.Calls PySem.Spec
set_option maxRecDepth 100000
namespace Mine
theorem ne_dict {h : Heap} {a b : Addr} {vs : List Value} {n : Nat} {o : Obj} (ha : h.get? a = some (lst vs n)) (hb : h.get? b = some o) (hd : ∃ es ep, o.data = .dict es ep) : a ≠ b := by
  intro q
  rw [q, hb] at ha
  cases ha
  obtain ⟨es, ep, e⟩ := hd
  cases e
theorem readsAll_app {h : Heap} : ∀ {vs ws : List Value} {ds es : List PyData}, (∃ as, ReadsAll h vs ds as) → (∃ as, ReadsAll h ws es as) → ∃ as, ReadsAll h (vs ++ ws) (ds ++ es) as
  | [], ws, ds, es, ⟨_, x⟩, y => by cases x; exact y
  | v :: vs, ws, ds, es, ⟨_, x⟩, y => by
    cases x with
    | cons a b =>
      obtain ⟨as, r⟩ := readsAll_app ⟨_, b⟩ y
      exact ⟨_, .cons a r⟩
theorem readsAll_one {h : Heap} {v : Value} {d : PyData} (x : ∃ as, Reads h v d as) {vs : List Value} {ds : List PyData} (y : ∃ as, ReadsAll h vs ds as) : ∃ as, ReadsAll h (v :: vs) (d :: ds) as := by
  obtain ⟨_, x⟩ := x
  obtain ⟨_, y⟩ := y
  exact ⟨_, .cons x y⟩
theorem StrsT.reads {T : Nat} {h : Heap} {vs : List Value} {xs : List Str} (x : StrsT T vs xs) : ∃ as, ReadsAll h vs (xs.map .str) as := by
  induction x with
  | nil => exact ⟨_, .nil⟩
  | cons _ _ ih => exact readsAll_one ⟨_, .str _ _⟩ ih
theorem lst_reads {h : Heap} {a : Addr} {vs : List Value} {n : Nat} {ds : List PyData} (e : h.get? a = some (lst vs n)) (x : ∃ as, ReadsAll h vs ds as) : ∃ as, Reads h (.ref a) (.list ds) as := by
  obtain ⟨as, x⟩ := x
  exact ⟨_, .list e rfl rfl x⟩
def pairD (p : List Str × List Str) : PyData := .tuple [.list (p.1.map .str), .list (p.2.map .str)]
theorem PairAt.up {T : Nat} {h₀ h h' : Heap} {D : Addr} {xs ys : List Str} (x : PairAt T h₀ h D xs ys) (k : ∀ b o, h₀.get? b = none → h.get? b = some o → h'.get? b = some o) : PairAt T h₀ h' D xs ys := by
  obtain ⟨M, W, ms, ws, i, j, h1, h2, h3, h4, h5, h6, h7, h8⟩ := x
  exact ⟨M, W, ms, ws, i, j, h1, h2, h3, k _ _ h1 h4, k _ _ h2 h5, k _ _ h3 h6, h7, h8⟩
theorem PairAt.reads {T : Nat} {h₀ h : Heap} {D : Addr} {p : List Str × List Str} (x : PairAt T h₀ h D p.1 p.2) : ∃ as, Reads h (.ref D) (pairD p) as := by
  obtain ⟨M, W, ms, ws, i, j, h1, h2, h3, h4, h5, h6, h7, h8⟩ := x
  obtain ⟨as, r⟩ := readsAll_one (lst_reads h5 h7.reads) (readsAll_one (lst_reads h6 h8.reads) ⟨_, .nil⟩)
  exact ⟨as, .tuple h4 rfl rfl r⟩
def rowD (ms ls : List Str) (x : Str) : PyData := .list [.int (ms.count x), .int (ls.count x), .bool (ms.any fun y => y == x), .bool (ls.any fun y => y == x)]
theorem rows_read {h : Heap} {ms ls : List Str} : ∀ {as : List (Addr × Nat × Nat)} {xs : List Str}, as.length = xs.length → (∀ (j : Nat) a x, as[j]? = some a → xs[j]? = some x → h.get? a.1 = some (lst (rowV ms ls x a.2.1 a.2.2) 0)) →
    ∃ bs, ReadsAll h (as.map fun a => .ref a.1) (xs.map (rowD ms ls)) bs
  | [], [], _, _ => ⟨_, .nil⟩
  | [], _ :: _, e, _ => by simp at e
  | _ :: _, [], e, _ => by simp at e
  | a :: as, x :: xs, e, k => by
    have h0 := k 0 a x rfl rfl
    exact readsAll_one (lst_reads h0 ⟨_, .cons (.int _ _) (.cons (.int _ _) (.cons (.bool _) (.cons (.bool _) .nil)))⟩) (rows_read (by simpa using e) fun j a x p q => k (j + 1) a x (by simpa using p) (by simpa using q))
def toldD (H T xs : List Str) : PyData :=
  let u := uld H.reverse T []
  let bs := (uld H.reverse u.1 []).1
  .list (xs.map (rowD u.1 u.2) ++ [pairD (uld (bs ++ u.1).reverse H []), pairD (uld (u.2 ++ bs).reverse T [])])
set_option maxHeartbeats 1000000 in
theorem told_ret {w : World} {mean : ExcName → Option Value} {mg mb : Str → Option Value} {dp un : Nat} {gd : Option (List Code)} {base : Heap} {env env' : Env} {L L' : Addr} {hb : Heap} {m : Str → Option Value} {s : Shared} {oL : Obj} {Q : Flow → Shared → Prop}
    {D B M1 a1 D1 D2 cM cW : Addr} {as : List (Addr × Nat × Nat)} {bs ms1 ws1 y1 y2 : List Value} {xs H T : List Str} {n0 n1 n2 n3 n4 n5 tk : Nat} {pt p1 p2 p3 p4 p5 p6 p7 q1 q2 q3 q4 q5 q6 q7 b1 b2 b3 b4 lp bp rp : Pos}
    (S : Sub w mean mg mb dp un gd base env L hb L') (hf' : env'.frame = some L') (hk' : env'.scope.kind = .function) (hgl : env'.globals = mainGlobals) (hlo : env'.locals = L') (F : Fr hb L' s.heap m) (N : News hb L' s.heap [(L, oL)]) (hd : ∃ es ep, oL.data = .dict es ep)
    (gD : s.heap.get? D = some (lst (as.map fun a => .ref a.1) n0)) (gB : s.heap.get? B = some (lst bs n1)) (gM : s.heap.get? M1 = some (lst ms1 n2)) (gW : s.heap.get? a1 = some (lst ws1 n3)) (g1 : s.heap.get? D1 = some (lst y1 n4)) (g2 : s.heap.get? D2 = some (lst y2 n5))
    (hal : as.length = xs.length) (hrow : ∀ (j : Nat) a x, as[j]? = some a → xs[j]? = some x → s.heap.get? a.1 = some (lst (rowV (uld H.reverse T []).1 (uld H.reverse T []).2 x a.2.1 a.2.2) 0))
    (hcM : s.heap.IsCell cM (some (.ref M1))) (hcW : s.heap.IsCell cW (some (.ref a1))) (nc1 : cM ≠ L) (nc2 : cM ≠ L') (nc3 : cW ≠ L) (nc4 : cW ≠ L')
    (sB : StrsT tk bs (uld H.reverse (uld H.reverse T []).1 []).1) (sM : StrsT tk ms1 (uld H.reverse T []).1) (sW : StrsT tk ws1 (uld H.reverse T []).2) (s1 : StrsT tk y1 H) (s2 : StrsT tk y2 T)
    (zx : xs.length ≤ 100) (zB : bs.length ≤ 100) (zM : ms1.length ≤ 100) (zW : ws1.length ≤ 100) (z1 : y1.length ≤ 100) (z2 : y2.length ≤ 100)
    (m0 : m "told" = some (.ref D)) (m1 : m "both" = some (.ref B)) (m2 : m "here" = some (.ref D1)) (m3 : m "there" = some (.ref D2))
    (k0 : env'.kindOf "told" = some .local) (k1 : env'.kindOf "both" = some .local) (k2 : env'.kindOf "here" = some .local) (k3 : env'.kindOf "there" = some .local) (kM : env'.kindOf "more" = some .cell) (kW : env'.kindOf "less" = some .cell)
    (cM' : env'.cells.lookup ("more" : Str) = some cM) (cW' : env'.cells.lookup ("less" : Str) = some cW) (hku : env'.kindOf "unorderable_list_difference" = some .globalImplicit) (hkc : env'.kindOf "concat" = some .globalImplicit)
    (ho : nsIn (Mine.hd.heap_39 w.params) mainGlobals "concat" = some (some (.ref 28))) {oc : Value} {od : Option Addr} {fd : FuncData} {osl : Array (Option Value)} (hfo : (Mine.hd.heap_39 w.params).lookup 28 = some ⟨oc, od, .func fd, osl⟩)
    (ho2 : nsIn (Mine.hd.heap_39 w.params) mainGlobals "unorderable_list_difference" = some (some (.ref 136))) {oc2 : Value} {od2 : Option Addr} {fd2 : FuncData} {osl2 : Array (Option Value)} (hfo2 : (Mine.hd.heap_39 w.params).lookup 136 = some ⟨oc2, od2, .func fd2, osl2⟩)
    (ret : ∀ h' tk' v sl, Fr hb L' h' m → News hb L' h' [(L, { oL with slots := sl })] → (∃ as, Reads h' v (toldD H T xs) as) → Q (.ret v) { s with heap := h', toks := tk' }) :
    wpAny (model prog0 w) ((mkA dp un gd env []).deeper env') (exec (.Return (some (.BinOp (.Name "told" pt) .Add (.List [.Call (.Name "unorderable_list_difference" p1) [.Call (.Name "concat" p3) [.Name "both" b1, .Name "more" b2] [] p4, .Subscript (.Name "here" p5) (.Slice none none none p6) p7] [] p2,
      .Call (.Name "unorderable_list_difference" q1) [.Call (.Name "concat" q3) [.Name "less" b3, .Name "both" b4] [] q4, .Subscript (.Name "there" q5) (.Slice none none none q6) q7] [] q2] lp) bp)) rp) env') Q Never s := by
  have sl0 := sizeLine_eq
  refine wpAny_Return_some (wpAny_BinOp (name_L (m := m) (by rw [hlo]; exact F.ns) hk' k0 (by decide) m0 (wpAny_List (spliced_cons ?_))))
  refine chk_elt S hf' hk' hgl hlo F N hd (fun Q' q => name_L (m := m) (by rw [hlo]; exact F.ns) hk' k1 (by decide) m1 q) (fun Q' q => name_C hk' kM (by decide) cM' hcM q) gB gM g1 m2 sB sM s1 zB zM z1 hku hkc k2 (by decide) rfl rfl ho hfo ho2 hfo2 ?_
  intro h1 tk1 A1 sl1 F1 N1 kept1 P1
  have hd1 : ∃ es ep, ({ oL with slots := sl1 } : Obj).data = .dict es ep := hd
  obtain ⟨oT, esT, epT, hT, hTd, _⟩ := F.ns
  have nL' : ∀ {a : Addr} {vs : List Value} {n : Nat}, s.heap.get? a = some (lst vs n) → a ≠ L' ∧ a ≠ L := fun e => ⟨ne_dict e hT ⟨esT, epT, hTd⟩, ne_dict e (N _ (.head _)).1 hd⟩
  have up1 : ∀ {a : Addr} {vs : List Value} {n : Nat}, s.heap.get? a = some (lst vs n) → h1.get? a = some (lst vs n) := fun e => kept1 _ _ (nL' e).1 (nL' e).2 e
  have cell1 : ∀ {c v}, c ≠ L' → c ≠ L → s.heap.IsCell c v → h1.IsCell c v := fun q1 q2 x => let ⟨o, ho, r⟩ := x; ⟨o, kept1 _ _ q1 q2 ho, r⟩
  have new1 : ∀ b o, s.heap.get? b = none → h1.get? b = some o → b ≠ L' ∧ b ≠ L := fun b o q _ => ⟨fun e => (by rw [e, hT] at q; cases q), fun e => (by rw [e, (N _ (.head _)).1] at q; cases q)⟩
  refine spliced_cons ?_
  refine chk_elt (s := { s with heap := h1, toks := tk1 }) S hf' hk' hgl hlo F1 N1 hd1 (fun Q' q => name_C hk' kW (by decide) cW' (cell1 nc4 nc3 hcW) q) (fun Q' q => name_L (m := m) (by rw [hlo]; exact F1.ns) hk' k1 (by decide) m1 q) (up1 gW) (up1 gB) (up1 g2) m3 sW sB s2 zW zB z2 hku hkc k3 (by decide) rfl rfl ho hfo ho2 hfo2 ?_
  intro h2 tk2 A2 sl2 F2 N2 kept2 P2
  obtain ⟨oT1, esT1, epT1, hT1, hTd1, _⟩ := F1.ns
  have up2 : ∀ {a : Addr} {vs : List Value} {n : Nat}, s.heap.get? a = some (lst vs n) → h2.get? a = some (lst vs n) := fun e => kept2 _ _ (nL' e).1 (nL' e).2 (up1 e)
  refine spliced_nil ⟨by simp; omega, ?_⟩
  generalize hH : h2.push { cls := .type "list", data := .seq [Value.ref A1, Value.ref A2].toArray } = H2
  have gH : Grow h2 H2 := fun b o e => by rw [← hH]; exact Heap.get?_push_of_some _ e
  have hE : H2.get? h2.objs.size = some (lst [.ref A1, .ref A2] 0) := by rw [← hH]; exact Heap.get?_push_size _ rfl
  have gD2 : H2.get? D = some (lst (as.map fun a => .ref a.1) n0) := gH _ _ (up2 gD)
  refine P.add_list (s := { s with heap := H2, toks := tk2 }) gD2 hE ?_ (by simp; omega)
  generalize hH3 : H2.push { cls := .type "list", data := .seq ((as.map fun a => Value.ref a.1).toArray ++ [Value.ref A1, Value.ref A2].toArray) } = H3
  have gH3 : Grow h2 H3 := fun b o e => by rw [← hH3]; exact Heap.get?_push_of_some _ (gH b o e)
  have hE3 : H3.get? H2.objs.size = some (lst ((as.map fun a => .ref a.1) ++ [.ref A1, .ref A2]) 0) := by rw [← hH3]; exact (Heap.get?_push_size _ rfl).trans (by simp [lst])
  refine ret H3 tk2 _ sl2 (F2.keeps gH3) (newsUp N2 fun p hp e => gH3 _ _ e) ?_
  refine lst_reads hE3 (readsAll_app (rows_read hal fun j a x p q => gH3 _ _ (up2 (hrow j a x p q))) (readsAll_one ?_ (readsAll_one ?_ ⟨_, .nil⟩)))
  · exact ((P1.up fun b o q e => gH3 _ _ (kept2 b o (new1 b o q e).1 (new1 b o q e).2 e))).reads
  · exact (P2.up fun b o q e => gH3 _ _ e).reads
end Mine
end
section
open PySem PySem.W PyProof.Rows PySem.Calls PySem.Spec
set_option maxRecDepth 100000
namespace Mine
theorem neAddr {a b : Nat} (h : a ≠ b) : a ≠ b := h
/-- a new object is none of the ledger's -/
theorem ne_new {h₀ h : Heap} {L D : Addr} {news : List (Addr × Obj)} (N : News h₀ L h news) (hD : h.get? D = none) : TLg.AllNe D news := by
  induction news with
  | nil => trivial
  | cons p r ih =>
    refine ⟨fun q => ?_, ih fun x hx => N x (.tail _ hx)⟩
    have h1 := (N p (.head _)).1
    rw [q, hD] at h1; cases h1
theorem news2of3 {h₀ h : Heap} {L : Addr} {a b c : Addr × Obj} {r : List (Addr × Obj)} (N : News h₀ L h (a :: b :: c :: r)) : News h₀ L h (b :: r) := fun p hp => N p ((List.mem_cons.mp hp).elim (fun e => e ▸ .tail _ (.head _)) (fun hp => .tail _ (.tail _ (.tail _ hp))))
structure TokLow (T : Nat) : Prop where
  self : T = T
theorem TokLow.all {T : Nat} (_ : TokLow T) : T ≤ T ∧ T ≤ T + 1 ∧ T ≤ T + 1 + 1 ∧ T ≤ T + 1 + 1 + 1 ∧ T ≤ T + 1 + 1 + 1 + 1 ∧ T ≤ T + 1 + 1 + 1 + 1 + 1 ∧ T ≤ T + 1 + 1 + 1 + 1 + 1 + 1 ∧ T ≤ T + 1 + 1 + 1 + 1 + 1 + 1 + 1 := by omega
set_option maxHeartbeats 16000000 in
theorem told_c {w : World} {mean : ExcName → Option Value} {mg mb : Str → Option Value} {A : Around} {dp un : Nat} {gd : Option (List Code)} {base : Heap} {env : Env} {L : Addr} {m : Str → Option Value} {s : Shared}
    {Q E : Value → Shared → Prop} {la ra : Addr} {ls rs : List Value} {ps qs : List Str}
    (C : AtF w mean mg mb A dp un gd base [] env L m [] s.heap) (hl : s.heap.IsList la ls.toArray) (hr : s.heap.IsList ra rs.toArray) (hls : StrsT s.toks ls ps) (hrs : StrsT s.toks rs qs) (hpl : ∀ p ∈ ps, p.length ≤ 20) (hql : ∀ p ∈ qs, p.length ≤ 20)
    (hz : ls.length ≤ 100) (hz2 : rs.length ≤ 100) (hdd : dp + 21 < recursionLimit) (huu : un + 1003 < cLine) (h0 : 0 < s.toks)
    (ret : ∀ h' tk' v, h'.Ns L m → (∀ b o, b ≠ L → s.heap.get? b = some o → h'.get? b = some o) → (∃ as, Reads h' v (toldD (ps.map dn) (qs.map dn) S8) as) → Q v { s with heap := h', toks := tk' }) :
    wpAny (model prog0 w) A (call (.ref 146) [.ref la, .ref ra]) Q E s := by
  w_top off
  k_with_none
  k_with "ne" => (refine neN ?_; (try dsimp only); first | assumption | exact Ne.symm (by assumption) | exact Nat.ne_of_lt (by assumption) | exact Nat.ne_of_gt (by assumption))
  k_with "room" => ((try simp only [depth_under_make, depth_under_kw, depth_in1, depth_deeper, depth_caller, mkA_depth]); omega)
  k_with "call builtin:sorted" => (k_here; (with_reducible rename Fr _ _ _ _ => kF); (with_reducible rename News _ _ _ _ => kN); (with_reducible rename TokLow _ => kT); (refine sorted8_N kF kN (TokLow.all kT) ?_); intro h' D' vs' e' F' N' hS' hT' hA')
  k_with "subscriptTail Name Slice ref ref" => (k_here; (with_reducible show wpAny _ _ (subscriptTail _ (Expr.Slice none none none _) (Value.ref _) (Value.ref _)) _ _ _); (with_reducible rename Fr _ _ _ _ => kF); (with_reducible rename News _ _ _ _ => kN); (with_unfolding_all refine copy_N (s := ⟨_, _, _, _, _⟩) kF kN (by k_mem) (by omega) ?_); (intro D' h' F' N' l1'); (simp only [AllLt, and_true] at l1'); (repeat (have := And.left l1'; replace l1' := And.right l1')))
  k_with "call ref" => (k_here; (with_reducible show wpAny _ _ (call (Value.ref 136) [Value.ref _, Value.ref _]) _ _ _); (with_reducible rename Fr _ _ _ _ => kF); (with_reducible rename News _ _ _ _ => kN); (with_reducible rename Sub _ _ _ _ _ _ _ _ _ _ _ _ => kS); (refine uld_K kS rfl rfl kF kN (by (refine neN ?_; omega)) (by tlg_ne) (by tlg_ne) (by k_updF) (by assumption) (by assumption) (by assumption) (by omega) (by omega) ?_); (intro h' tk' M' D' ms' ws' i2 i3 sl' F' N' hMD' hD' hM' sM' sW' hl1' hl2' ht'); (simp only [TLg.AllNe, and_true] at hD' hM'); (repeat (have := And.left hD'; replace hD' := And.right hD')); (repeat (have := And.left hM'; replace hM' := And.right hM')))
  have kf0 : PySem.Challenge.rw_nq0007_01 = PySem.Challenge.rw_nq0007_01 → Mine.hd.heap_39 w.params = Mine.hd.heap_39 w.params := by (k_fill; exact fun _ => rfl)
  clear kf0
  refine enterUC [("left", .ref la), ("right", .ref ra)] C (by k_is) (by k_is) (BindsTo.of_eq rfl) rfl (by decide +kernel) rfl rfl rfl ?_
  intro hb L' h₁ tk cells oL htk hL hLd Fs hlt F' N' Y' X' T' G1 G2 G3
  have hll : @LT.lt Nat _ L L' := hlt _ (.head _)
  have nodict : ∀ {a : Addr} {vs : Array Value}, s.heap.IsList a vs → ∀ p ∈ [(L, oL)], p.1 ≠ a := fun {a vs} hx p hp e => by
    rw [List.mem_singleton.mp hp] at e
    have e' : L = a := e
    obtain ⟨o, ho, _, n, hd⟩ := hx
    obtain ⟨es, ep, hd2⟩ := hLd
    rw [← e', hL] at ho
    cases ho
    rw [hd2] at hd; cases hd
  have hl' : hb.IsList la ls.toArray := let ⟨o, ho, r⟩ := hl; ⟨o, G1 _ _ ho (nodict hl), r⟩
  have hr' : hb.IsList ra rs.toArray := let ⟨o, ho, r⟩ := hr; ⟨o, G1 _ _ ho (nodict hr), r⟩
  have S : Sub w mean mg mb dp un gd base env L hb L' := ⟨C.X, C.T, fun b o e => G1 b o (C.stays b o e) (fun p hp q => by rw [List.mem_singleton.mp hp] at q; have q' : L = b := q; rw [← q', Heap.get?_none_of_le C.lo] at e; cases e), Nat.le_trans C.lo (Nat.le_of_lt hll), C.lo, hll, C.hf, C.hk, hdd, huu⟩
  have nsL := C.ns
  clear C nodict
  k_cells Y'
  simp only [List.cons_append, List.nil_append] at N'
  rename_i d1 d2 _ _
  -- here
  refine execs_step _ (dirs_step (s := { s with heap := h₁, toks := tk }) S rfl rfl rfl rfl F' N' (.tail _ (.tail _ (.head _))) hLd hl' (hls.up htk) hpl hz rfl (Nat.lt_of_lt_of_le h0 htk) (by with_unfolding_all rfl) (by with_unfolding_all rfl) (by decide) rfl (by decide) rfl rfl rfl (by decide) (fun _ => rfl) (fun _ => rfl) (fun _ => rfl) (fun _ => rfl) (by k_is) (by k_is)) ?_
  rintro s1 ⟨D1, y1, j1, ⟨⟨h1, tk1, rfl⟩, F1, N1⟩, hy1, hD1, ht1⟩
  have n1 := ne_new N' hD1
  have hL1 : y1.length ≤ 100 := by rw [hy1.length, List.length_map, ← hls.length]; exact hz
  simp only [TLg.AllNe, and_true] at n1
  (repeat (have := And.left n1; replace n1 := And.right n1))
  dsimp only at F1 N1 hy1 ht1 hD1
  clear F' N'
  -- there
  refine execs_step _ (dirs_step (s := { s with heap := h1, toks := tk1 }) S rfl rfl rfl rfl F1 N1 (.tail _ (.tail _ (.tail _ (.head _)))) hLd hr' (hrs.up (Nat.le_trans htk ht1)) hql hz2 rfl (Nat.lt_of_lt_of_le h0 (Nat.le_trans htk ht1)) (by with_unfolding_all rfl) (by with_unfolding_all rfl) (by decide) rfl (by decide) rfl rfl rfl (by decide) (fun _ => rfl) (fun _ => rfl) (fun _ => rfl) (fun _ => rfl) (by k_is) (by k_is)) ?_
  rintro s2 ⟨D2, y2, j2, ⟨⟨h2, tk2, rfl⟩, F2, N2⟩, hy2, hD2, ht2⟩
  have n2 := ne_new N1 hD2
  have hL2 : y2.length ≤ 100 := by rw [hy2.length, List.length_map, ← hrs.length]; exact hz2
  simp only [TLg.AllNe, and_true] at n2
  (repeat (have := And.left n2; replace n2 := And.right n2))
  dsimp only at F2 N2 hy2 ht2 hD2
  clear F1 N1 hD1 hD2
  replace hy1 := hy1.up ht2
  generalize (bindL _ _ _) = m0 at F2
  have kT : TokLow tk2 := ⟨rfl⟩
  -- folders
  refine execs_step (fun s' => ∃ (D3 : Addr) (vs3 : List Value) (j3 : Nat), TS s hb L' (fun z => if z = Str.ofString "folders" then some (.ref D3) else if z = Str.ofString "there" then some (.ref D2) else if z = Str.ofString "here" then some (.ref D1) else m0 z) ((D3, lst vs3 j3) :: [(D2, lst y2 j2), (D1, lst y1 j1), (L' + 1 + 1, d1), (L' + 1, d2), (L, oL)]) s' ∧ StrsAre vs3 S8 ∧ (∀ x t, Value.str x t ∈ vs3 → tk2 ≤ t) ∧ TLg.AllNe D3 [(D2, lst y2 j2), (D1, lst y1 j1), (L' + 1 + 1, d1), (L' + 1, d2), (L, oL)] ∧ tk2 ≤ s'.toks) ?_ ?_
  · k_steps
    exact ⟨rfl, _, _, _, ⟨⟨_, _, rfl⟩, by assumption, by assumption⟩, by assumption, by assumption, by assumption, by (dsimp only; omega)⟩
  rintro s3 ⟨D3, vs3, j3, ⟨⟨h3, tk3, rfl⟩, F3, N3⟩, hS3, hT3, n3, ht3⟩
  simp only [TLg.AllNe, and_true] at n3
  (repeat (have := And.left n3; replace n3 := And.right n3))
  dsimp only at F3 N3 ht3
  clear kT
  -- more, less
  refine execs_step (fun s' => ∃ (M1 a1 : Addr) (ms1 ws1 : List Value) (i1 i2 : Nat) (c1 c2 : Obj) (sl : Array (Option Value)), TS s hb L' (fun z => if z = Str.ofString "folders" then some (.ref D3) else if z = Str.ofString "there" then some (.ref D2) else if z = Str.ofString "here" then some (.ref D1) else m0 z) [(M1, lst ms1 i1), (a1, lst ws1 i2), (D3, lst vs3 j3), (D2, lst y2 j2), (D1, lst y1 j1), (L' + 1 + 1, c1), (L' + 1, c2), (L, { oL with slots := sl })] s' ∧ c1.data = .cell (some (.ref a1)) ∧ c2.data = .cell (some (.ref M1)) ∧
      StrsT tk2 ms1 (uld (ps.map dn).reverse (qs.map dn) []).1 ∧ StrsT tk2 ws1 (uld (ps.map dn).reverse (qs.map dn) []).2 ∧ ms1.length ≤ 100 ∧ ws1.length ≤ 100 ∧ @Ne Nat L M1 ∧ @Ne Nat L a1 ∧ tk3 ≤ s'.toks) ?_ ?_
  · clear hl hr hls hrs hpl hql hz hz2 hdd huu ret G1 G2 G3 hl' hr' hS3 hT3 Fs hlt htk hL h0 ht1 ht2 F2 nsL
    k_steps
    refine ⟨rfl, _, _, _, _, _, _, _, _, _, ⟨⟨_, _, rfl⟩, by assumption, fun p hp => (by assumption : News _ _ _ _) p (.tail _ hp)⟩, by assumption, by assumption, by assumption, by assumption, Nat.le_trans hl1' hL1, Nat.le_trans hl2' hL2, hM', (Nat.ne_of_lt l1'), ht'⟩
  rintro s4 ⟨M1, a1, ms1, ws1, i1, i2, c1, c2, sl4, ⟨⟨h4, tk4, rfl⟩, F4, N4⟩, hc1, hc2, hM1, hW1, hLm, hLw, nM1, na1, ht4⟩
  dsimp only at F4 N4 ht4
  have hLd4 : ∃ es ep, ({ oL with slots := sl4 } : Obj).data = .dict es ep := hLd
  -- both
  refine execs_step (fun s' => ∃ (B : Addr) (bs : List Value) (i3 : Nat) (sl : Array (Option Value)), TS s hb L' (fun z => if z = Str.ofString "both" then some (.ref B) else if z = Str.ofString "folders" then some (.ref D3) else if z = Str.ofString "there" then some (.ref D2) else if z = Str.ofString "here" then some (.ref D1) else m0 z) [(B, lst bs i3), (M1, lst ms1 i1), (a1, lst ws1 i2), (D3, lst vs3 j3), (D2, lst y2 j2), (D1, lst y1 j1), (L' + 1 + 1, c1), (L' + 1, c2), (L, { oL with slots := sl })] s' ∧
      StrsT tk2 bs (uld (ps.map dn).reverse (uld (ps.map dn).reverse (qs.map dn) []).1 []).1 ∧ bs.length ≤ 100 ∧ @Ne Nat L B ∧ tk4 ≤ s'.toks) ?_ ?_
  · clear hl hr hls hrs hpl hql hz hz2 hdd huu ret G1 G2 G3 hl' hr' hS3 hT3 Fs hlt htk hL h0 ht1 ht2 F2 F3 N3
    k_steps
    refine ⟨rfl, _, _, _, _, ⟨⟨_, _, rfl⟩, by assumption, news2of3 (by assumption)⟩, by assumption, Nat.le_trans hl1' hL1, hM', (by dsimp only at ht' ⊢; omega)⟩
  rintro s5 ⟨B, bs, i3, sl5, ⟨⟨h5, tk5, rfl⟩, F5, N5⟩, hB, hLb, nB, ht5⟩
  dsimp only at F5 N5 ht5
  clear F4 N4 F3 N3
  have tp : 0 < tk2 := by omega
  have hL5 : ∃ es ep, ({ oL with slots := sl5 } : Obj).data = .dict es ep := hLd
  have mem : ∀ p ∈ [(B, lst bs i3), (M1, lst ms1 i1), (a1, lst ws1 i2), (D3, lst vs3 j3), (D2, lst y2 j2), (D1, lst y1 j1), (L' + 1 + 1, c1), (L' + 1, c2), (L, { oL with slots := sl5 })], h5.get? p.1 = some p.2 := fun p hp => (N5 p hp).1
  have e3 : vs3.length = S8.length := hS3.length
  refine execs_step _ (told_step (s := { s with heap := h5, toks := tk5 }) (cM := L' + 1) (cW := L' + 1 + 1) S rfl rfl rfl rfl F5 N5 (by k_mem) hL5 ⟨c2, mem (L' + 1, c2) (.tail _ (.tail _ (.tail _ (.tail _ (.tail _ (.tail _ (.tail _ (.head _)))))))), hc2⟩ ⟨c1, mem (L' + 1 + 1, c1) (.tail _ (.tail _ (.tail _ (.tail _ (.tail _ (.tail _ (.head _))))))), hc1⟩ (mem _ (.tail _ (.head _))) (mem _ (.tail _ (.tail _ (.head _)))) hM1 hW1 ⟨_, mem _ (.tail _ (.tail _ (.tail _ (.head _)))), rfl, _, rfl⟩ hS3 hT3 tp (by rw [e3]; decide) rfl (by with_unfolding_all rfl) (by with_unfolding_all rfl) (by decide) rfl (by decide) rfl rfl rfl (by decide) (fun _ => rfl) (fun _ => rfl) (fun _ => rfl) (fun _ => rfl) (fun _ => rfl) rfl rfl (fun _ => rfl) (by k_is) (by k_is) (by k_is) (by k_is)) ?_
  rintro s6 ⟨D6, as, j6, ⟨⟨h6, tk6, rfl⟩, F6, N6⟩, hal, hrow, hD6, ht6⟩
  dsimp only at F6 N6 hrow ht6 hD6
  have mem6 : ∀ p ∈ [(D6, lst (as.map fun a => Value.ref a.1) j6), (B, lst bs i3), (M1, lst ms1 i1), (a1, lst ws1 i2), (D3, lst vs3 j3), (D2, lst y2 j2), (D1, lst y1 j1), (L' + 1 + 1, c1), (L' + 1, c2), (L, { oL with slots := sl5 })], h6.get? p.1 = some p.2 := fun p hp => (N6 p hp).1
  have nL6 : News hb L' h6 [(L, { oL with slots := sl5 })] := fun p hp => N6 p (by rw [List.mem_singleton.mp hp]; k_mem)
  refine wpAny_execs_cons ?_
  refine told_ret (s := { s with heap := h6, toks := tk6 }) (cM := L' + 1) (cW := L' + 1 + 1) (xs := S8) (H := ps.map dn) (T := qs.map dn) S rfl rfl rfl rfl F6 nL6 hL5 (mem6 _ (.head _)) (mem6 _ (.tail _ (.head _))) (mem6 _ (.tail _ (.tail _ (.head _)))) (mem6 _ (.tail _ (.tail _ (.tail _ (.head _))))) (mem6 _ (.tail _ (.tail _ (.tail _ (.tail _ (.tail _ (.tail _ (.head _)))))))) (mem6 _ (.tail _ (.tail _ (.tail _ (.tail _ (.tail _ (.head _))))))) (hal.trans e3) (fun j a x p q => (hrow j a x p q).2.2) ⟨c2, mem6 (L' + 1, c2) (.tail _ (.tail _ (.tail _ (.tail _ (.tail _ (.tail _ (.tail _ (.tail _ (.head _))))))))), hc2⟩ ⟨c1, mem6 (L' + 1 + 1, c1) (.tail _ (.tail _ (.tail _ (.tail _ (.tail _ (.tail _ (.tail _ (.head _)))))))), hc1⟩ (neN' (by omega)) (neN' (by omega)) (neN' (by omega)) (neN' (by omega)) hB hM1 hW1 hy1 hy2 (by decide) hLb hLm hLw hL1 hL2 rfl rfl rfl rfl rfl rfl rfl rfl rfl rfl rfl rfl rfl rfl (by k_is) (by k_is) (by k_is) (by k_is) ?_
  intro h' tk' v sl F' N' R'
  refine ret h' tk' v ?_ (fun b o q e => F'.keep b o (G1 b o e fun p hp r => by rw [List.mem_singleton.mp hp] at r; exact q r.symm)) R'
  obtain ⟨o, es, ep, n1, n2, n3, n4⟩ := nsL
  rw [hL] at n1
  cases n1
  exact ⟨_, es, ep, (N' _ (.head _)).1, n2, n3, n4⟩
end Mine
end
section
open PySem PySem.W PyProof.Rows PySem.Calls PySem.Spec
set_option maxRecDepth 100000
namespace Mine
section
variable {prog : Program} {w : World} {A : Around} {s : Shared} {env : Env}
theorem for_walk {R : Result → Shared → Prop} {target : Expr} {body : List Stmt} {I : Addr} {fp wr : List Addr} {n : Nat} {P : Nat → Value → Prop} {St : Nat → Heap → Prop} (W : Walks prog w A I fp wr n P St) (Z : Nat → Shared → Prop)
    (hst : St 0 s.heap) (h0 : Z 0 s) (stab : ∀ i s₁ h' tk', Z i s₁ → (∀ b o, b ∉ wr → s₁.heap.get? b = some o → h'.get? b = some o) → s₁.toks ≤ tk' → Z i { s₁ with heap := h', toks := tk' })
    (turn : ∀ i v s₂, i < n → P i v → Z i s₂ → St (i + 1) s₂.heap → wpAny (model prog w) A (assign target env v) (fun _ s₃ => wpAny (model prog w) A (execs body env) (fun f s₄ => f = .next ∧ Z (i + 1) s₄ ∧ ∀ b ∈ fp, ∀ o, s₂.heap.get? b = some o → s₄.heap.get? b = some o) Never s₃) Never s₂)
    (done : ∀ s', Z n s' → R (.ok .next) s') (ht : ∀ v, letOwnedTupleGo target (.ref I) v = pure ()) :
    codeAny (model prog w) A (.forLoop target (.ref I) body [] env) R s := by
  refine codeAny_forLoop (fun k s' => ∃ i, St i s'.heap ∧ Z i s' ∧ i ≤ n ∧ k = n + 1 - i) ?_ (n + 1) ⟨0, hst, h0, Nat.zero_le _, rfl⟩ ht
  rintro k s' ⟨i, st, z, hi, rfl⟩
  by_cases hlt : i < n
  · refine wpAny_with_toks (n := s'.toks) (Nat.le_refl _) (W.item i s' _ _ hlt st fun v h₁ tk₁ hP st₁ hk htk => ?_)
    have z₁ := stab i s' h₁ tk₁ z (fun b o hb e => hk b o hb e) htk
    refine wpAny_noRaise (wpAny_mono (turn i v { s' with heap := h₁, toks := tk₁ } hlt hP z₁ st₁) (fun _ s₃ h₃ => wpAny_noRaise (wpAny_mono h₃ (fun f s₄ h₄ => ?_) fun _ _ q => q)) fun _ _ q => q)
    obtain ⟨rfl, z₄, k₄⟩ := h₄
    exact ⟨n + 1 - (i + 1), by omega, i + 1, W.frame _ _ _ st₁ k₄, z₄, hlt, rfl⟩
  · have hin : i = n := by omega
    subst hin
    refine wpAny_with_toks (n := s'.toks) (Nat.le_refl _) (W.done s' _ _ st fun h₁ tk₁ hk htk => ?_)
    exact wpAny_execs_nil (done _ (stab i s' h₁ tk₁ z (fun b o hb e => hk b o hb e) htk))
/-- a for over a list -/
theorem For_list {Q : Flow → Shared → Prop} {target iter : Expr} {body : List Stmt} {pos : Pos} (hh : A.handled = none)
    (h : wpAny (model prog w) A (eval iter env) (fun xv s₁ => ∃ (l : Addr) (vs : List Value), xv = .ref l ∧ s₁.heap.IsList l vs.toArray ∧ ∀ I, I = s₁.heap.objs.size → ∃ Z : Nat → Shared → Prop,
      (∀ h, Grow s₁.heap h → Z 0 { s₁ with heap := h }) ∧
      (∀ i s₂ h' tk', Z i s₂ → (∀ b o, b ≠ I → s₂.heap.get? b = some o → h'.get? b = some o) → s₂.toks ≤ tk' → Z i { s₂ with heap := h', toks := tk' }) ∧
      (∀ i v s₂, vs[i]? = some v → Z i s₂ → (∃ o, s₂.heap.get? I = some o ∧ o.cls = .type "list_iterator") → s₂.heap.IsList l vs.toArray → wpAny (model prog w) A (assign target env v) (fun _ s₃ => wpAny (model prog w) A (execs body env) (fun f s₄ => f = .next ∧ Z (i + 1) s₄ ∧ ∀ b ∈ [I, l], ∀ o, s₂.heap.get? b = some o → s₄.heap.get? b = some o) Never s₃) Never s₂) ∧
      (∀ s', Z vs.length s' → Q .next s')) Never s)
    (hs : ∀ x, foldedSetIterable iter env x = pure x) (ht : ∀ I v, letOwnedTupleGo target (.ref I) v = pure ()) :
    wpAny (model prog w) A (exec (.For target iter body [] pos) env) Q Never s := by
  refine wpAny_For (wpAny_mono h (fun xv s₁ h₁ => ?_) fun _ _ q => q) hs
  obtain ⟨l, vs, rfl, hl, hz⟩ := h₁
  obtain ⟨Z, z0, stab, turn, done⟩ := hz _ rfl
  obtain ⟨ol, hol, _⟩ := id hl
  have hne : l ≠ s₁.heap.objs.size := Nat.ne_of_lt (Heap.lt_size hol)
  refine wpAny_pyIter_list hl ?_
  have W : Walks prog w A s₁.heap.objs.size [s₁.heap.objs.size, l] [s₁.heap.objs.size] vs.length (fun i v => vs[i]? = some v) (fun i h => h.IsListIter s₁.heap.objs.size l i ∧ h.IsList l vs.toArray) := by
    have W := Walks.list (prog := prog) (w := w) hh s₁.heap.objs.size l hne vs.toArray
    simpa using W
  refine for_walk W Z ⟨⟨_, Heap.get?_push_size _ rfl, rfl, rfl⟩, hl.at fun o e => Heap.get?_push_of_some _ e⟩ (z0 _ fun b o e => Heap.get?_push_of_some _ e) (fun i s₂ h' tk' z k t => stab i s₂ h' tk' z (fun b o q e => k b o (fun r => q (List.mem_singleton.mp r)) e) t)
    (fun i v s₂ _ hv z st => turn i v s₂ hv z ?_ st.2) (fun s' z => done s' z) (ht _)
  obtain ⟨⟨o, ho, hc, _⟩, _⟩ := st
  exact ⟨o, ho, hc⟩
end
end Mine
end
section
open PySem PySem.W PyProof.Rows PySem.Calls PySem.Spec
set_option maxRecDepth 100000
namespace Mine
section
variable {w : World} {A : Around} {s : Shared} {E : Value → Shared → Prop} {env : Env} {base : Heap} {mean : ExcName → Option Value} {mg mb : Str → Option Value} {Q : Value → Shared → Prop}
theorem name_B {M : Model} {x : Str} {pos : Pos} {v : Value} (X : (Mine.hd.heap_39 w.params).In base) (T : Top0 mean mg mb base) (k : Grow base s.heap) (e : nsIn (Mine.hd.heap_39 w.params) mainGlobals x = some none) (hv : bootBuiltins x = some v) (hn : x ≠ "__name__")
    (hg : env.globals = mainGlobals) (hb : env.builtins = builtinsNs) (hk : env.scope.kind = .function) (hx : env.kindOf x = some .globalImplicit) (hd : (x == ("__debug__" : Str)) = false) (h : Q v s) : wpAny M A (eval (.Name x pos) env) Q E s :=
  Name_function_global hk hx (loadGlobal_builtin (env := env) (by rw [hg]; exact T.g.keeps k) (mg_none_of X T.g e) (by rw [hb]; exact T.b.keeps k) ((T.builtins x hn).trans hv) h) hd
theorem call_B1 {x : Str} {p pos : Pos} {id : String} {e1 : Expr} (X : (Mine.hd.heap_39 w.params).In base) (T : Top0 mean mg mb base) (k : Grow base s.heap) (e : nsIn (Mine.hd.heap_39 w.params) mainGlobals x = some none) (hv : bootBuiltins x = some (.builtin id)) (hn : x ≠ "__name__")
    (hg : env.globals = mainGlobals) (hb : env.builtins = builtinsNs) (hk : env.scope.kind = .function) (hx : env.kindOf x = some .globalImplicit) (hd : (x == ("__debug__" : Str)) = false) (hs : starEach [e1] env = [(false, eval e1 env)])
    (h : wpAny (model prog0 w) A (eval e1 env) (fun v s₁ => wpAny (model prog0 w) A (call (.builtin id) [v]) Q E s₁) E s) : wpAny (model prog0 w) A (eval (.Call (.Name x p) [e1] [] pos) env) Q E s :=
  Call_Name1 (name_B X T k e hv hn hg hb hk hx hd (callWith_builtin (first := []) rfl (evalArgs_plain (spliced_cons (wpAny_mono h (fun v s₁ h₁ => spliced_nil h₁) fun _ _ q => q))))) hs
theorem call_B2 {x : Str} {p pos : Pos} {id : String} {e1 e2 : Expr} (X : (Mine.hd.heap_39 w.params).In base) (T : Top0 mean mg mb base) (k : Grow base s.heap) (e : nsIn (Mine.hd.heap_39 w.params) mainGlobals x = some none) (hv : bootBuiltins x = some (.builtin id)) (hn : x ≠ "__name__")
    (hg : env.globals = mainGlobals) (hb : env.builtins = builtinsNs) (hk : env.scope.kind = .function) (hx : env.kindOf x = some .globalImplicit) (hd : (x == ("__debug__" : Str)) = false) (hs : starEach [e1, e2] env = [(false, eval e1 env), (false, eval e2 env)])
    (h : wpAny (model prog0 w) A (eval e1 env) (fun v s₁ => wpAny (model prog0 w) A (eval e2 env) (fun v2 s₂ => wpAny (model prog0 w) A (call (.builtin id) [v, v2]) Q E s₂) E s₁) E s) : wpAny (model prog0 w) A (eval (.Call (.Name x p) [e1, e2] [] pos) env) Q E s :=
  Call_Name2 (name_B X T k e hv hn hg hb hk hx hd (callWith_builtin (first := []) rfl (evalArgs_plain (spliced_cons (wpAny_mono h (fun v s₁ h₁ => spliced_cons (wpAny_mono h₁ (fun v2 s₂ h₂ => spliced_nil h₂) fun _ _ q => q)) fun _ _ q => q))))) hs
end
/-- a row of strs in the heap -/
def RowAt (h : Heap) (v : Value) (r : List Str) : Prop := ∃ a vs, v = .ref a ∧ h.IsList a (List.toArray vs) ∧ StrsAre vs r
inductive RowsAt (h : Heap) : List Value → List (List Str) → Prop
  | nil : RowsAt h [] []
  | cons {v : Value} {r : List Str} {vs : List Value} {rs : List (List Str)} : RowAt h v r → RowsAt h vs rs → RowsAt h (v :: vs) (r :: rs)
theorem RowAt.up {h h' : Heap} {v : Value} {r : List Str} (g : Grow h h') (x : RowAt h v r) : RowAt h' v r := by
  obtain ⟨a, vs, e, l, q⟩ := x
  exact ⟨a, vs, e, g.isList l, q⟩
theorem RowsAt.length {h : Heap} {vs : List Value} {rs : List (List Str)} (x : RowsAt h vs rs) : vs.length = rs.length := by
  induction x with
  | nil => rfl
  | cons _ _ ih => simp [ih]
theorem RowsAt.get {h : Heap} {vs : List Value} {rs : List (List Str)} (x : RowsAt h vs rs) {i : Nat} {v : Value} (e : vs[i]? = some v) : ∃ r, rs[i]? = some r ∧ RowAt h v r := by
  induction x generalizing i with
  | nil => simp at e
  | cons a _ ih =>
    cases i with
    | zero => simp at e; subst e; exact ⟨_, rfl, a⟩
    | succ i => simpa using ih (by simpa using e)
theorem strsReads {h : Heap} : ∀ {vs : List Value} {xs : List Str}, StrsAre vs xs → ∃ as, ReadsAll h vs (xs.map .str) as
  | _, _, .nil => ⟨_, .nil⟩
  | _, _, .cons _ _ r => readsAll_one ⟨_, .str _ _⟩ (strsReads r)
theorem isList_reads {h : Heap} {a : Addr} {vs : List Value} {ds : List PyData} (e : h.IsList a vs.toArray) (x : ∃ as, ReadsAll h vs ds as) : ∃ as, Reads h (.ref a) (.list ds) as := by
  obtain ⟨o, ho, hc, n, hd⟩ := e
  obtain ⟨as, x⟩ := x
  exact ⟨_, .list ho hc hd (by simpa using x)⟩
def strsD (xs : List Str) : PyData := .list (xs.map .str)
theorem shaped_strs {xs : List Str} (h : ∀ x ∈ xs, PyData.strOk x = true) : SeqAt.shaped (strsD xs) = true := by
  have h1 : ∀ ys : List Str, (∀ x ∈ ys, PyData.strOk x = true) → PyData.canLayAll0 (ys.map .str) = true ∧ PyData.depthAll (ys.map .str) = 0 := by
    intro ys
    induction ys with
    | nil => intro _; exact ⟨rfl, rfl⟩
    | cons y r ih =>
      intro hh
      obtain ⟨a, b⟩ := ih fun x hx => hh x (.tail _ hx)
      refine ⟨?_, ?_⟩
      · simp only [List.map_cons, PyData.canLayAll0, PyData.canLay0, a, hh y (.head _), Bool.and_self]
      · simp only [List.map_cons, PyData.depthAll, PyData.depth, b, Nat.max_self]
  obtain ⟨a, b⟩ := h1 xs h
  simp [SeqAt.shaped, strsD, PyData.canLay0, PyData.depth, a, b]
def eqS (a b : List Str) : Bool := PyData.eqv (strsD a) (strsD b)
theorem StrsAre.take : ∀ {vs : List Value} {xs : List Str} (_ : StrsAre vs xs) (n : Nat), StrsAre (vs.take n) (xs.take n)
  | _, _, .nil, _ => by simpa using StrsAre.nil
  | _, _, .cons a t h, 0 => .nil
  | _, _, .cons a t h, n + 1 => .cons a t (StrsAre.take h n)
theorem pick_last {vs : List Value} : slicePick vs.toArray none (some (-1)) none = (vs.take (vs.length - 1)).toArray := by
  rw [slicePick_plain]
  have := clipAt_neg vs.length 1 (Nat.le_refl _)
  simp only [Option.elim, List.size_toArray, List.toList_toArray, List.drop_zero, Nat.sub_zero]
  rw [show (-1 : Int) = -((1 : Nat) : Int) from rfl, this]
set_option maxHeartbeats 1000000 in
theorem cnt_comp {w : World} {mean : ExcName → Option Value} {mg mb : Str → Option Value} {dp un : Nat} {gd : Option (List Code)} {base : Heap} {env env' : Env} {L L' : Addr} {hb : Heap} {m : Str → Option Value} {s : Shared} {Q : Value → Shared → Prop}
    {la cr rc : Addr} {vs rvs : List Value} {rows : List (List Str)} {row : List Str} {src : Str} {p1 p2 p3 p4 p5 p6 p7 p8 p9 p10 pos : Pos} {sc : Scope} {cl : List (Str × Addr)}
    (S : Sub w mean mg mb dp un gd base env L hb L') (hk' : env'.scope.kind = .function) (hn : s.heap.Ns env'.locals m) (hl : s.heap.IsList la vs.toArray) (hr : RowsAt s.heap vs rows) (hok : ∀ r ∈ rows, ∀ x ∈ r, PyData.strOk x = true) (hz : vs.length ≤ 1000) (hz2 : ∀ r ∈ rows, r.length ≤ 1000)
    (hc : s.heap.IsCell cr (some (.ref rc))) (hrc : s.heap.IsList rc rvs.toArray) (hrs : StrsAre rvs row) (hok2 : ∀ x ∈ row, PyData.strOk x = true) (hsrc : m src = some (.ref la))
    (hclos : closureFor sc env' = pure cl) (hcell : ∀ y ∈ sc.names, y.2 ≠ .cell) (hkind : sc.kind = .function) (hnames : ∀ y ∈ sc.names, y.2 = .local → sc.names.lookup y.1 = some .local) (hx : sc.names.lookup ("x" : Str) = some .local)
    (hsk : env'.kindOf src = some .local) (hsd : (src == ("__debug__" : Str)) = false) (hcx : ∀ C, (compEnvC sc cl C env').kindOf "x" = some .local) (hcr : ∀ C, (compEnvC sc cl C env').kindOf "row" = some .cell) (hlr : cl.lookup ("row" : Str) = some cr)
    (hs : ∀ x, foldedSetIterable (.Name src p3) env' x = pure x)
    (ret : ∀ D h' tk ys, h'.IsList D (List.toArray ys) → ys.length = rows.countP (fun r => eqS r.dropLast row) → Grow s.heap h' → s.toks ≤ tk → Q (.ref D) { s with heap := h', toks := tk }) :
    wpAny (model prog0 w) ((mkA dp un gd env []).deeper env') (eval (.ListComp (.Name "x" p1) [⟨.Name "x" p2, .Name src p3, [.Compare (.Subscript (.Name "x" p4) (.Slice none (some (.UnaryOp .USub (.Constant (.int 1) 0 p5) p6)) none p7) p8) [.Eq] [.Name "row" p9] p10], 0⟩] sc pos) env') Q Never s := by
  have hlen := hr.length
  have sl0 := sizeLine_eq
  refine ListComp_list (Z := fun _ us ys _ => ys.length = (rows.take us.length).countP (fun r => eqS r.dropLast row)) hclos hcell hkind hnames hx rfl hs ?_
  refine name_L (m := m) hn hk' hsk hsd hsrc ?_
  refine ⟨la, vs, rfl, hl, by omega, (let ⟨o, _, _, ho, _⟩ := hn; ⟨o, ho⟩), ⟨fun N h tk hg ht => rfl, fun N us ys s₂ h' tk' hz hk ht => hz, ?_⟩, ?_⟩
  · intro N' C us v ys s₂ m₂ hv hZ hs₂ hn₂ hm₂ hg hN hN' htk hC
    obtain ⟨r, hri, a, its, rfl, hia, hir⟩ := hr.get hv
    have hrm := List.mem_of_getElem? hri
    have hil : its.length = r.length := hir.length
    refine wpAny_tests_one (wpAny_isTrue_Compare1 ?_)
    refine wpAny_Subscript_list_slice (name_L (m := m₂) hn₂ hkind (hcx C) (by decide) hm₂ ?_)
    rw [evalPart_none]
    refine wpAny_pure ?_
    rw [evalPart_some]
    refine wpAny_UnaryOp (wpAny_Constant_int (P.neg_int ?_))
    refine ⟨a, its.toArray, none, some (-1), rfl, hg.isList hia, (by rw [List.size_toArray, hil]; have := hz2 r hrm; omega), .none, .int _ _, ?_⟩
    rw [pick_last]
    generalize hH : (s₂.heap.push { cls := .type "slice", data := .fields #[.none, .int (-1) (s₂.toks + 1), .none] }).push { cls := .type "list", data := .seq (its.take (its.length - 1)).toArray } = H
    have gH : Grow s₂.heap H := fun b o e => by rw [← hH]; exact Heap.get?_push_of_some _ (Heap.get?_push_of_some _ e)
    have hD : H.IsList (s₂.heap.objs.size + 1) (its.take (its.length - 1)).toArray := by
      have q := Heap.get?_push_size (h := s₂.heap.push { cls := .type "slice", data := .fields #[.none, .int (-1) (s₂.toks + 1), .none] }) (o := { cls := .type "list", data := .seq (its.take (its.length - 1)).toArray }) (by rfl)
      rw [Heap.size_push, hH] at q
      exact ⟨_, q, rfl, _, rfl⟩
    have gg := hg.trans gH
    refine name_C hkind (hcr C) (by decide) hlr (IsCell.up gg hc) ?_
    have e1 : (r.take (its.length - 1)) = r.dropLast := by rw [hil]; exact (List.dropLast_eq_take).symm
    have R1 := isList_reads hD (strsReads (StrsAre.take hir (its.length - 1)))
    have R2 := isList_reads (gg.isList hrc) (strsReads hrs)
    rw [e1] at R1
    obtain ⟨as1, R1⟩ := R1
    obtain ⟨as2, R2⟩ := R2
    refine eq_dataH (s := { s₂ with heap := H, toks := s₂.toks + 1 + 1 }) (da := strsD r.dropLast) (db := strsD row) R1 R2 (shaped_strs fun x hx => hok r hrm x (List.dropLast_subset r hx)) (shaped_strs hok2) (by have := S.hu; show un + 3 + 64 < cLine; omega) ?_
    refine wpAny_truthy_bool ?_
    refine ⟨⟨H, _, rfl, gH⟩, ?_⟩
    have et : (rows.take (us ++ [Value.ref a]).length) = rows.take us.length ++ [r] := by rw [List.length_append, List.length_singleton, List.take_add_one, hri, Option.toList_some]
    show if eqS r.dropLast row = true then _ else _
    cases hb : eqS r.dropLast row with
    | false =>
      rw [if_neg (by decide)]
      show ys.length = _
      rw [et, List.countP_append, hZ]
      simp [hb]
    | true =>
      rw [if_pos rfl]
      refine name_L (m := m₂) (hn₂.keeps gH) hkind (hcx C) (by decide) hm₂ ⟨keeps_refl _, ?_⟩
      show (ys ++ [_]).length = _
      rw [et, List.countP_append, List.length_append, hZ]
      simp [hb]
  · intro D h' tk' ys N' j hD hpl' hyl hZ hN hND hg htk
    refine ret D h' tk' ys ⟨_, hpl', rfl, _, rfl⟩ ?_ hg htk
    rw [hZ, hlen, List.take_length]
end Mine
end
section
open PySem PySem.W PyProof.Rows PySem.Calls PySem.Spec
set_option maxRecDepth 100000
namespace Mine
theorem strsValues : ∀ l : List (Str × Tok), StrsAre (strValues l) (l.map (·.1))
  | [] => .nil
  | p :: r => .cons p.1 p.2 (strsValues r)
theorem StrsAre.snoc : ∀ {vs : List Value} {xs : List Str} (_ : StrsAre vs xs) (x : Str) (t : Tok), StrsAre (vs ++ [.str x t]) (xs ++ [x])
  | _, _, .nil, x, t => .cons x t .nil
  | _, _, .cons a u h, x, t => .cons a u (StrsAre.snoc h x t)
def isName (n : Str) : Bool := n.cps.toList != (Str.ofString "").cps.toList
def rowOf (x : Str) : List Str := (Txt.split x (Str.ofString "/")).filter isName
theorem Grow.push {h : Heap} {o : Obj} : Grow h (h.push o) := fun _ _ e => Heap.get?_push_of_some _ e
set_option maxHeartbeats 1000000 in
theorem row_comp {w : World} {mean : ExcName → Option Value} {mg mb : Str → Option Value} {dp un : Nat} {gd : Option (List Code)} {base : Heap} {env env' : Env} {L L' : Addr} {hb : Heap} {m : Str → Option Value} {s : Shared} {Q : Value → Shared → Prop}
    {x : Str} {t : Tok} {p1 p2 p3 p4 p5 q1 q2 q3 q4 pos : Pos} {sc : Scope}
    (S : Sub w mean mg mb dp un gd base env L hb L') (hk' : env'.scope.kind = .function) (hn : s.heap.Ns env'.locals m) (hx1 : m "one" = some (.str x t)) (hz : x.length ≤ 100) (hz2 : (Builtin.Str.partsBetween x (Builtin.Str.occurrences x (Str.ofString "/") 0 x.length (x.length + 1)) (Str.ofString "/").length).length ≤ 100) (hz3 : (Txt.split x (Str.ofString "/")).length ≤ 100)
    (hclos : closureFor sc env' = pure []) (hcell : ∀ y ∈ sc.names, y.2 ≠ .cell) (hkind : sc.kind = .function) (hnames : ∀ y ∈ sc.names, y.2 = .local → sc.names.lookup y.1 = some .local) (hx : sc.names.lookup ("name" : Str) = some .local)
    (hok : env'.kindOf "one" = some .local) (hcx : ∀ C, (compEnvC sc [] C env').kindOf "name" = some .local) (hbase : attributeBase (.Name "one" q1) "split" env' (eval (.Name "one" q1) env') = eval (.Name "one" q1) env') (hline : (q2.endLine == q4.line) = true)
    (hs : ∀ x, foldedSetIterable (.Call (.Attribute (.Name "one" q1) "split" q2) [.Constant (.str "/") 0 q3] [] q4) env' x = pure x)
    (ret : ∀ D h' tk ys, h'.IsList D (List.toArray ys) → StrsAre ys (rowOf x) → Grow s.heap h' → s.toks ≤ tk → Q (.ref D) { s with heap := h', toks := tk }) :
    wpAny (model prog0 w) ((mkA dp un gd env []).deeper env') (eval (.ListComp (.Name "name" p1) [⟨.Name "name" p2, .Call (.Attribute (.Name "one" q1) "split" q2) [.Constant (.str "/") 0 q3] [] q4, [.Compare (.Name "name" p3) [.NotEq] [.Constant (.str "") 0 p4] p5], 0⟩] sc pos) env') Q Never s := by
  have sl0 := sizeLine_eq
  refine ListComp_list (Z := fun _ us ys _ => StrsAre ys (((Txt.split x (Str.ofString "/")).take us.length).filter isName)) hclos hcell hkind hnames hx rfl hs ?_
  refine Call_method1 hbase rfl hline (name_L (m := m) hn hk' hok (by decide) hx1 ?_)
  refine ⟨"str", _, F.plainAttrs_str, F.slot_str_split, F.type_str_split, typeIs_str _ _ _, (fun _ e => nomatch e), ?_⟩
  refine callWith_builtin rfl (evalArgs_plain (spliced_cons (Constant_str (spliced_nil ?_))))
  refine wpAny_with_toks (n := s.toks + 1) (Nat.le_refl _) ?_
  refine wpAny_noRaise ?_
  refine SCH.split1 (P := Grow s.heap) (fun h ob g => g.trans Grow.push) (Grow.refl _) (by decide) ?_ (by omega) (by omega)
  intro D0 l h0 k0 hl0 g0 hD0 hk0
  have hvs := strsValues l
  rw [hl0] at hvs
  have hln : (strValues l).length = (Txt.split x (Str.ofString "/")).length := hvs.length
  have ns0 := hn.keeps g0
  refine ⟨D0, strValues l, rfl, hD0, by omega, (let ⟨o, _, _, ho, _⟩ := ns0; ⟨o, ho⟩), ⟨fun N h tk hg ht => .nil, fun N us ys s₂ h' tk' hz hk ht => hz, ?_⟩, ?_⟩
  · intro N' C us v ys s₂ m₂ hv hZ hs₂ hn₂ hm₂ hg hN hN' htk hC
    obtain ⟨y, ty, hy, rfl⟩ := strsGet hvs hv
    refine wpAny_tests_one (wpAny_isTrue_Compare1 ?_)
    refine name_L (m := m₂) hn₂ hkind (hcx C) (by decide) hm₂ ?_
    refine Constant_str (P.ne_str ?_)
    refine wpAny_truthy_bool ⟨⟨s₂.heap, _, rfl, Grow.refl _⟩, ?_⟩
    have et : ∀ w : Value, ((Txt.split x (Str.ofString "/")).take (us ++ [w]).length).filter isName = ((Txt.split x (Str.ofString "/")).take us.length).filter isName ++ [y].filter isName := fun w => by
      rw [List.length_append, List.length_singleton, List.take_add_one, hy, Option.toList_some, List.filter_append]
    show if isName y = true then _ else _
    cases hb : isName y with
    | false =>
      rw [if_neg (by decide)]
      show StrsAre _ _
      rw [et]
      simpa [hb] using hZ
    | true =>
      rw [if_pos rfl]
      refine name_L (m := m₂) hn₂ hkind (hcx C) (by decide) hm₂ ⟨keeps_refl _, ?_⟩
      show StrsAre _ _
      rw [et]
      simpa [hb] using Mine.StrsAre.snoc hZ y ty
  · intro D h' tk' ys N' j hD hpl' hyl hZ hN hND hg htk
    have hk0' : s.toks + 1 ≤ k0 := hk0
    refine ret D h' tk' ys ⟨_, hpl', rfl, _, rfl⟩ ?_ (g0.trans hg) (Nat.le_trans (Nat.le_succ _) (Nat.le_trans hk0' htk))
    have := hZ
    rw [hln, List.take_length] at this
    exact this
def cnt (rows : List (List Str)) (row : List Str) : Nat := rows.countP fun r => eqS r.dropLast row
def restOf (left right : List (List Str)) (x : Str) : Int := (cnt left (rowOf x) : Int) - cnt right (rowOf x)
def dueV (left right : List (List Str)) (x : Str) (t1 t2 : Nat) : List Value :=
  [.int (if restOf left right x > 0 then restOf left right x else 0) t1, .int (if -restOf left right x > 0 then -restOf left right x else 0) t2, .bool (decide (restOf left right x > 0)), .bool (decide (restOf left right x < 0))]
theorem Ns.upd {h h' : Heap} {L c : Addr} {m : Str → Option Value} (n : h.Ns L m) (hne : L ≠ c) (k : ∀ b o, b ≠ c → h.get? b = some o → h'.get? b = some o) : h'.Ns L m := n.at' fun o e => k _ o hne e
theorem max_of (a b : Int) (t u : Tok) : (if b > a then Value.int b u else .int a t) = .int (if b > a then b else a) (if b > a then u else t) := by split <;> rfl
structure DueEnd (s : Shared) (L' cr D : Addr) (m : Str → Option Value) (items row : Nat → Nat → List Value) (old : List Value) (s' : Shared) : Prop where
  at_ : ∃ h' tk' m' A t1 t2 n', s' = { s with heap := h', toks := tk' } ∧ h'.Ns L' m' ∧ (∀ y, y ≠ Str.ofString "rest" → m' y = m y) ∧ (∃ v, h'.IsCell cr v) ∧ h'.get? D = some (lst (old ++ [.ref A]) n') ∧ s.heap.get? A = none ∧ h'.get? A = some (lst (row t1 t2) 0) ∧
    (∀ b o, b ≠ L' → b ≠ D → b ≠ cr → s.heap.get? b = some o → h'.get? b = some o)
set_option maxHeartbeats 2000000 in
theorem due_body {w : World} {mean : ExcName → Option Value} {mg mb : Str → Option Value} {dp un : Nat} {gd : Option (List Code)} {base : Heap} {env env' : Env} {L L' : Addr} {hb : Heap} {m : Str → Option Value} {s : Shared} {v₀ : Option Value}
    {x : Str} {t : Tok} {D cr la ra : Addr} {ls rs old : List Value} {left right : List (List Str)} {n : Nat} {p1 p2 p3 p4 p5 q1 q2 q3 q4 pos1 py spos : Pos} {sc1 sc2 sc3 : Scope} {cl2 cl3 : List (Str × Addr)}
    {a1 a2 a3 a4 a5 a6 a7 a8 a9 a10 a11 a12 a13 b1 b2 b3 b4 b5 b6 b7 b8 b9 b10 b11 b12 b13 c1 c2 c3 d1 d2 d3 d4 d5 d6 d7 d8 d9 d10 d11 d12 d13 d14 d15 d16 d17 d18 d19 d20 : Pos}
    (S : Sub w mean mg mb dp un gd base env L hb L') (hk' : env'.scope.kind = .function) (hgl : env'.globals = mainGlobals) (hbl : env'.builtins = builtinsNs) (hlo : env'.locals = L') (hn : s.heap.Ns L' m) (hg : Grow base s.heap)
    (hx1 : m "one" = some (.str x t)) (hm1 : m "due" = some (.ref D)) (hm2 : m "left" = some (.ref la)) (hm3 : m "right" = some (.ref ra)) (hc0 : s.heap.IsCell cr v₀) (hD : s.heap.get? D = some (lst old n)) (hbD : base.get? D = none) (hbc : base.get? cr = none) (hbL : base.get? L' = none)
    (hl : s.heap.IsList la ls.toArray) (hr : s.heap.IsList ra rs.toArray) (hlr : RowsAt s.heap ls left) (hrr : RowsAt s.heap rs right) (hok : ∀ r ∈ left, ∀ x ∈ r, PyData.strOk x = true) (hok' : ∀ r ∈ right, ∀ x ∈ r, PyData.strOk x = true) (hzl : ls.length ≤ 100) (hzr : rs.length ≤ 100)
    (hzl2 : ∀ r ∈ left, r.length ≤ 100) (hzr2 : ∀ r ∈ right, r.length ≤ 100) (hzo : old.length ≤ 100)
    (hz : x.length ≤ 100) (hz2 : (Builtin.Str.partsBetween x (Builtin.Str.occurrences x (Str.ofString "/") 0 x.length (x.length + 1)) (Str.ofString "/").length).length ≤ 100) (hz3 : (Txt.split x (Str.ofString "/")).length ≤ 100) (hokx : ∀ y ∈ rowOf x, PyData.strOk y = true)
    (ncl : cr ≠ L') (ncd : cr ≠ D) (ndl : D ≠ L') (keepRows : ∀ a vs, s.heap.IsList a vs → a ≠ L' ∧ a ≠ cr)
    (k1 : env'.kindOf "one" = some .local) (k2 : env'.kindOf "due" = some .local) (k3 : env'.kindOf "left" = some .local) (k4 : env'.kindOf "right" = some .local) (k5 : env'.kindOf "rest" = some .local) (k6 : env'.kindOf "row" = some .cell) (k7 : env'.kindOf "len" = some .globalImplicit) (k8 : env'.kindOf "max" = some .globalImplicit) (hcr : env'.cells.lookup ("row" : Str) = some cr)
    (hbase : attributeBase (.Name "one" q1) "split" env' (eval (.Name "one" q1) env') = eval (.Name "one" q1) env') (hline : (q2.endLine == q4.line) = true)
    (hbase2 : attributeBase (.Name "due" d1) "append" env' (eval (.Name "due" d1) env') = eval (.Name "due" d1) env') (hline2 : (d2.endLine == d20.line) = true)
    (hs1 : ∀ x, foldedSetIterable (.Call (.Attribute (.Name "one" q1) "split" q2) [.Constant (.str "/") 0 q3] [] q4) env' x = pure x) (hs2 : ∀ x, foldedSetIterable (.Name "left" a3) env' x = pure x) (hs3 : ∀ x, foldedSetIterable (.Name "right" b3) env' x = pure x)
    (hclos : closureFor sc1 env' = pure []) (hcell : ∀ y ∈ sc1.names, y.2 ≠ .cell) (hkind : sc1.kind = .function) (hnames : ∀ y ∈ sc1.names, y.2 = .local → sc1.names.lookup y.1 = some .local) (hx : sc1.names.lookup ("name" : Str) = some .local) (hcx : ∀ C, (compEnvC sc1 [] C env').kindOf "name" = some .local)
    (hclos2 : closureFor sc2 env' = pure cl2) (hcell2 : ∀ y ∈ sc2.names, y.2 ≠ .cell) (hkind2 : sc2.kind = .function) (hnames2 : ∀ y ∈ sc2.names, y.2 = .local → sc2.names.lookup y.1 = some .local) (hx2 : sc2.names.lookup ("x" : Str) = some .local) (hcx2 : ∀ C, (compEnvC sc2 cl2 C env').kindOf "x" = some .local) (hcr2 : ∀ C, (compEnvC sc2 cl2 C env').kindOf "row" = some .cell) (hlr2 : cl2.lookup ("row" : Str) = some cr)
    (hclos3 : closureFor sc3 env' = pure cl3) (hcell3 : ∀ y ∈ sc3.names, y.2 ≠ .cell) (hkind3 : sc3.kind = .function) (hnames3 : ∀ y ∈ sc3.names, y.2 = .local → sc3.names.lookup y.1 = some .local) (hx3 : sc3.names.lookup ("x" : Str) = some .local) (hcx3 : ∀ C, (compEnvC sc3 cl3 C env').kindOf "x" = some .local) (hcr3 : ∀ C, (compEnvC sc3 cl3 C env').kindOf "row" = some .cell) (hlr3 : cl3.lookup ("row" : Str) = some cr)
    (hsw1 : swapsWith (.ListComp (.Name "name" p1) [⟨.Name "name" p2, .Call (.Attribute (.Name "one" q1) "split" q2) [.Constant (.str "/") 0 q3] [] q4, [.Compare (.Name "name" p3) [.NotEq] [.Constant (.str "") 0 p4] p5], 0⟩] sc1 pos1) (some (.Name "row" py)) spos.line env' = pure false)
    (hint : interactive env' = false) (nlen : nsIn (Mine.hd.heap_39 w.params) mainGlobals "len" = some none) (nmax : nsIn (Mine.hd.heap_39 w.params) mainGlobals "max" = some none) (blen : bootBuiltins "len" = some (.builtin "len")) (bmax : bootBuiltins "max" = some (.builtin "max")) :
    wpAny (model prog0 w) ((mkA dp un gd env []).deeper env') (execs [
      .Assign [.Name "row" py] (.ListComp (.Name "name" p1) [⟨.Name "name" p2, .Call (.Attribute (.Name "one" q1) "split" q2) [.Constant (.str "/") 0 q3] [] q4, [.Compare (.Name "name" p3) [.NotEq] [.Constant (.str "") 0 p4] p5], 0⟩] sc1 pos1) spos,
      .Assign [.Name "rest" c1] (.BinOp
        (.Call (.Name "len" a12) [.ListComp (.Name "x" a1) [⟨.Name "x" a2, .Name "left" a3, [.Compare (.Subscript (.Name "x" a4) (.Slice none (some (.UnaryOp .USub (.Constant (.int 1) 0 a5) a6)) none a7) a8) [.Eq] [.Name "row" a9] a10], 0⟩] sc2 a11] [] a13) .Sub
        (.Call (.Name "len" b12) [.ListComp (.Name "x" b1) [⟨.Name "x" b2, .Name "right" b3, [.Compare (.Subscript (.Name "x" b4) (.Slice none (some (.UnaryOp .USub (.Constant (.int 1) 0 b5) b6)) none b7) b8) [.Eq] [.Name "row" b9] b10], 0⟩] sc3 b11] [] b13) c2) c3,
      .Expr (.Call (.Attribute (.Name "due" d1) "append" d2) [.List [.Call (.Name "max" d3) [.Constant (.int 0) 0 d4, .Name "rest" d5] [] d6, .Call (.Name "max" d7) [.Constant (.int 0) 0 d8, .UnaryOp .USub (.Name "rest" d9) d10] [] d11,
        .Compare (.Name "rest" d12) [.Gt] [.Constant (.int 0) 0 d13] d14, .Compare (.Name "rest" d15) [.Lt] [.Constant (.int 0) 0 d16] d17] d18] [] d20) d19] env')
      (fun f s' => f = .next ∧ DueEnd s L' cr D m (fun _ _ => []) (dueV left right x) old s') Never s := by
  have sl0 := sizeLine_eq
  have bk : ∀ {h h' : Heap}, Grow base h → (∀ b o, b ≠ cr → h.get? b = some o → h'.get? b = some o) → Grow base h' := fun g k b o e => k b o (fun q => by rw [q, hbc] at e; cases e) (g b o e)
  -- row
  refine wpAny_execs_cons (wpAny_Assign_Name ?_ hsw1)
  refine row_comp S hk' (by rw [hlo]; exact hn) hx1 hz hz2 hz3 hclos hcell hkind hnames hx k1 hcx hbase hline hs1 ?_
  intro R h1 tk1 rvs hR hRs g1 ht1
  refine wpAny_storeName_cell hk' k6 hcr (IsCell.up g1 hc0) ?_
  intro h2 hc2 sb2
  have kb2 : ∀ b o, b ≠ cr → h1.get? b = some o → h2.get? b = some o := fun b o q e => sb2.extBut b o q e
  have n2 : h2.Ns L' m := Ns.upd (hn.keeps g1) (Ne.symm ncl) kb2
  have isl2 : ∀ {a : Addr} {vs : Array Value}, a ≠ cr → h1.IsList a vs → h2.IsList a vs := fun q x => let ⟨o, ho, r⟩ := x; ⟨o, kb2 _ o q ho, r⟩
  have rows2 : ∀ {vs : List Value} {rr : List (List Str)}, RowsAt s.heap vs rr → RowsAt h2 vs rr := fun x => by
    induction x with
    | nil => exact .nil
    | cons a _ ih =>
      obtain ⟨a, vs, e, l, q⟩ := a
      exact .cons ⟨a, vs, e, isl2 (keepRows _ _ l).2 (g1.isList l), q⟩ ih
  have hRc : R ≠ cr := fun q => by
    obtain ⟨o, ho, hc, n, hd⟩ := hR
    obtain ⟨o', ho', hd'⟩ := IsCell.up g1 hc0
    rw [q, ho'] at ho
    cases ho
    rw [hd'] at hd; cases hd
  have g2 : Grow base h2 := bk (hg.trans g1) kb2
  -- rest
  refine wpAny_execs_cons (wpAny_Assign_Name ?_ rfl)
  refine wpAny_BinOp (call_B1 S.X S.T g2 nlen blen (by decide) hgl hbl hk' k7 (by decide) rfl ?_)
  refine cnt_comp (s := { s with heap := h2, toks := tk1 }) S hk' (by rw [hlo]; exact n2) (isl2 (keepRows _ _ hl).2 (g1.isList hl)) (rows2 hlr) hok (by omega) (fun r h => Nat.le_trans (hzl2 r h) (by decide)) hc2 (isl2 hRc hR) hRs hokx hm2 hclos2 hcell2 hkind2 hnames2 hx2 k3 (by decide) hcx2 hcr2 hlr2 hs2 ?_
  intro D1 h3 tk3 y1 hD1 hy1 g3 ht3
  have hy1l : y1.length ≤ 100 := by rw [hy1]; exact Nat.le_trans (List.countP_le_length) (by rw [← hlr.length]; exact hzl)
  refine call_len_list hD1 (by rw [List.size_toArray]; omega) ?_
  refine call_B1 (s := { s with heap := h3, toks := tk3 + 1 + 1 }) S.X S.T (g2.trans g3) nlen blen (by decide) hgl hbl hk' k7 (by decide) rfl ?_
  have up3 : ∀ {vs : List Value} {rr : List (List Str)}, RowsAt h2 vs rr → RowsAt h3 vs rr := fun x => by
    induction x with
    | nil => exact .nil
    | cons a _ ih => exact .cons (RowAt.up g3 a) ih
  refine cnt_comp (s := { s with heap := h3, toks := tk3 + 1 + 1 }) S hk' (by rw [hlo]; exact n2.keeps g3) (g3.isList (isl2 (keepRows _ _ hr).2 (g1.isList hr))) (up3 (rows2 hrr)) hok' (by omega) (fun r h => Nat.le_trans (hzr2 r h) (by decide)) (IsCell.up g3 hc2) (g3.isList (isl2 hRc hR)) hRs hokx hm3 hclos3 hcell3 hkind3 hnames3 hx3 k4 (by decide) hcx3 hcr3 hlr3 hs3 ?_
  intro D2 h4 tk4 y2 hD2 hy2 g4 ht4
  have hy2l : y2.length ≤ 100 := by rw [hy2]; exact Nat.le_trans (List.countP_le_length) (by rw [← hrr.length]; exact hzr)
  refine call_len_list hD2 (by rw [List.size_toArray]; omega) ?_
  refine P.sub_int ?_
  have n4 : h4.Ns L' m := (n2.keeps g3).keeps g4
  refine wpAny_storeName_local k5 (by rw [hlo]; exact n4) ?_ (by rw [hk']; rfl)
  intro h5 n5 sb5
  have er : ((y1.toArray.size : Nat) : Int) - ((y2.toArray.size : Nat) : Int) = restOf left right x := by rw [List.size_toArray, List.size_toArray, hy1, hy2]; rfl
  rw [er] at n5
  generalize htr : tk4 + 1 + 1 = tr at n5
  rw [hlo] at n5 sb5
  have kb5 : ∀ b o, b ≠ L' → h4.get? b = some o → h5.get? b = some o := fun b o q e => sb5.extBut b o q e
  have g5 : Grow base h5 := fun b o e => kb5 b o (fun q => by rw [q, hbL] at e; cases e) ((g2.trans g3).trans g4 b o e)
  -- append
  refine wpAny_execs_cons (wpAny_Expr ?_ hint rfl)
  refine Call_method1 hbase2 rfl hline2 (name_L (m := fun z => if z = Str.ofString "rest" then some (.int (restOf left right x) tr) else m z) (by rw [hlo]; exact n5) hk' k2 (by decide) ((if_neg (by decide)).trans hm1) ?_)
  have hD5 : h5.get? D = some (lst old n) := kb5 _ _ ndl (g4 _ _ (g3 _ _ (kb2 _ _ (Ne.symm ncd) (g1 _ _ hD))))
  refine ⟨"list", _, F.plainAttrs_list, F.slot_list_append, F.type_list_append, ⟨_, hD5, rfl⟩, (fun a e => by cases e; exact ⟨_, hD5, rfl⟩), P.append_list ?_⟩
  refine wpAny_List ?_
  have nm : ∀ {h : Heap}, Grow h5 h → h.Ns env'.locals (fun z => if z = Str.ofString "rest" then some (.int (restOf left right x) tr) else m z) := fun g => by rw [hlo]; exact n5.keeps g
  refine spliced_cons (call_B2 (s := { s with heap := h5, toks := _ }) S.X S.T g5 nmax bmax (by decide) hgl hbl hk' k8 (by decide) rfl (wpAny_Constant_int (name_L (m := fun z => if z = Str.ofString "rest" then some (.int (restOf left right x) tr) else m z) (nm (Grow.refl _)) hk' k5 (by decide) (if_pos rfl) ?_)))
  refine max_two_ints rfl fun h6 tk6 g6 => ?_
  rw [max_of]
  refine spliced_cons (call_B2 (s := { s with heap := h6, toks := tk6 }) S.X S.T (g5.trans g6) nmax bmax (by decide) hgl hbl hk' k8 (by decide) rfl (wpAny_Constant_int (wpAny_UnaryOp (name_L (m := fun z => if z = Str.ofString "rest" then some (.int (restOf left right x) tr) else m z) (nm g6) hk' k5 (by decide) (if_pos rfl) (P.neg_int ?_)))))
  refine max_two_ints rfl fun h7 tk7 g7 => ?_
  rw [max_of]
  have g67 : Grow h5 h7 := Grow.trans g6 g7
  refine spliced_cons (wpAny_Compare1 (name_L (m := fun z => if z = Str.ofString "rest" then some (.int (restOf left right x) tr) else m z) (nm g67) hk' k5 (by decide) (if_pos rfl) (wpAny_Constant_int (P.gt_int ?_))))
  refine spliced_cons (wpAny_Compare1 (name_L (m := fun z => if z = Str.ofString "rest" then some (.int (restOf left right x) tr) else m z) (nm g67) hk' k5 (by decide) (if_pos rfl) (wpAny_Constant_int (P.lt_int ?_))))
  refine spliced_nil ⟨by simp; omega, ?_⟩
  generalize hH : h7.push _ = H8
  have g8 : Grow h7 H8 := by rw [← hH]; exact Grow.push
  obtain ⟨t1, t2, hA⟩ : ∃ t1 t2, H8.get? h7.objs.size = some (lst (dueV left right x t1 t2) 0) := by
    rw [← hH]
    exact ⟨_, _, Heap.get?_push_size _ (by rfl)⟩
  have hD8 : H8.get? D = some (lst old n) := g8 _ _ (g67 _ _ hD5)
  refine ⟨old.toArray, n, by rw [List.size_toArray]; omega, hD8, ?_⟩
  have nA : h7.get? h7.objs.size = none := Heap.get?_none_of_le (Nat.le_refl _)
  have hADne : h7.objs.size ≠ D := fun q => by rw [q] at nA; exact nomatch ((g67 _ _ hD5).symm.trans nA)
  have upd : ∀ b o, b ≠ D → H8.get? b = some o → (H8.update D (Obj.mapSeq fun xs => xs.push (.ref h7.objs.size))).get? b = some o := fun b o q e => (Heap.get?_update_other H8 _ (Ne.symm q)).trans e
  have all : ∀ b o, b ≠ L' → b ≠ D → b ≠ cr → s.heap.get? b = some o → (H8.update D (Obj.mapSeq fun xs => xs.push (.ref h7.objs.size))).get? b = some o := fun b o q1 q2 q3 e => upd b o q2 (g8 _ _ (g67 _ _ (kb5 _ _ q1 (g4 _ _ (g3 _ _ (kb2 _ _ q3 (g1 _ _ e)))))))
  obtain ⟨n', hDn⟩ : ∃ n', (H8.update D (Obj.mapSeq fun xs => xs.push (.ref h7.objs.size))).get? D = some (lst (old ++ [.ref h7.objs.size]) n') := by
    have q := IsL.update (items := old.toArray) (n := n) hD8 (fun xs => xs.push (.ref h7.objs.size))
    have e : old.toArray.push (Value.ref h7.objs.size) = (old ++ [Value.ref h7.objs.size]).toArray := by simp
    dsimp only [IsL] at q
    rw [e] at q
    exact ⟨_, q⟩
  show wpAny _ _ (execs [] env') _ _ _
  refine wpAny_execs_nil ⟨rfl, ⟨_, _, _, h7.objs.size, _, _, _, rfl, Ns.upd (n5.keeps (g67.trans g8)) (Ne.symm ndl) upd, fun y q => if_neg q, ⟨some (.ref R), ?_⟩, hDn, ?_, upd _ _ hADne hA, all⟩⟩
  · obtain ⟨o, ho, hd⟩ := IsCell.up g4 (IsCell.up g3 hc2)
    exact ⟨o, upd _ _ ncd (g8 _ _ (g67 _ _ (kb5 _ _ ncl ho))), hd⟩
  · cases e : s.heap.get? h7.objs.size with
    | none => rfl
    | some o =>
      exfalso
      have : h7.objs.size < h7.objs.size := by
        by_cases q1 : h7.objs.size = L'
        · obtain ⟨o, _, _, ho, _⟩ := n5.keeps g67
          have h := Heap.lt_size ho
          rw [← q1] at h
          exact h
        by_cases q3 : h7.objs.size = cr
        · obtain ⟨o, ho, _⟩ := IsCell.up g4 (IsCell.up g3 hc2)
          have h := Heap.lt_size (g67 _ _ (kb5 _ _ ncl ho))
          rw [← q3] at h
          exact h
        exact Heap.lt_size (g67 _ _ (kb5 _ _ q1 (g4 _ _ (g3 _ _ (kb2 _ _ q3 (g1 _ _ e))))))
      exact Nat.lt_irrefl _ this
end Mine
end
section
open PySem PySem.W PyProof.Rows PySem.Calls PySem.Spec
set_option maxRecDepth 100000
namespace Mine
def dueRow (left right : List (List Str)) (x : Str) : PyData :=
  .list [.int (if restOf left right x > 0 then restOf left right x else 0), .int (if -restOf left right x > 0 then -restOf left right x else 0), .bool (decide (restOf left right x > 0)), .bool (decide (restOf left right x < 0))]
def dueD (left right : List (List Str)) (xs : List Str) : PyData := .list (xs.map (dueRow left right) ++ [pairD ([], []), pairD ([], [])])
theorem dueRows_read {h : Heap} {left right : List (List Str)} : ∀ {as : List (Addr × Nat × Nat)} {xs : List Str}, as.length = xs.length → (∀ (j : Nat) a x, as[j]? = some a → xs[j]? = some x → h.get? a.1 = some (lst (dueV left right x a.2.1 a.2.2) 0)) →
    ∃ bs, ReadsAll h (as.map fun a => .ref a.1) (xs.map (dueRow left right)) bs
  | [], [], _, _ => ⟨_, .nil⟩
  | [], _ :: _, e, _ => by simp at e
  | _ :: _, [], e, _ => by simp at e
  | a :: as, x :: xs, e, k => by
    have h0 := k 0 a x rfl rfl
    exact readsAll_one (lst_reads h0 ⟨_, .cons (.int _ _) (.cons (.int _ _) (.cons (.bool _) (.cons (.bool _) .nil)))⟩) (dueRows_read (by simpa using e) fun j a x p q => k (j + 1) a x (by simpa using p) (by simpa using q))
/-- the loop's word -/
structure DueZ (s₁ : Shared) (L' cr D la ra I : Addr) (left right : List (List Str)) (i : Nat) (s' : Shared) : Prop where
  at_ : ∃ h tk m' as n, s' = { s₁ with heap := h, toks := tk } ∧ h.Ns L' m' ∧ m' "due" = some (.ref D) ∧ m' "left" = some (.ref la) ∧ m' "right" = some (.ref ra) ∧ (∃ v, h.IsCell cr v) ∧ h.get? D = some (lst ((as : List (Addr × Nat × Nat)).map fun a => .ref a.1) n) ∧ as.length = i ∧
    (∀ (j : Nat) a x, as[j]? = some a → S8[j]? = some x → a.1 ≠ I ∧ s₁.heap.get? a.1 = none ∧ h.get? a.1 = some (lst (dueV left right x a.2.1 a.2.2) 0)) ∧ (∀ b o, b ≠ L' → b ≠ D → b ≠ cr → s₁.heap.get? b = some o → h.get? b = some o)
theorem rows_up {h h' : Heap} {vs : List Value} {rr : List (List Str)} (k : ∀ a x, h.IsList a x → h'.IsList a x) (x : RowsAt h vs rr) : RowsAt h' vs rr := by
  induction x with
  | nil => exact .nil
  | cons a _ ih =>
    obtain ⟨a, vs, e, l, q⟩ := a
    exact .cons ⟨a, vs, e, k _ _ l, q⟩ ih
def ok8 (x : Str) : Bool := decide (x.length ≤ 100) && decide ((Builtin.Str.partsBetween x (Builtin.Str.occurrences x (Str.ofString "/") 0 x.length (x.length + 1)) (Str.ofString "/").length).length ≤ 100) && decide ((Txt.split x (Str.ofString "/")).length ≤ 100) && (rowOf x).all PyData.strOk
theorem all8 : S8.all ok8 = true := by decide +kernel
/-- what the loop's body does, at any turn -/
def BodyOK (M : Model) (A : Around) (env' : Env) (body : List Stmt) (hb : Heap) (L' cr D la ra : Addr) (left right : List (List Str)) : Prop :=
  ∀ (s : Shared) (m : Str → Option Value) (x : Str) (t : Tok) (old : List Value) (n : Nat) (v₀ : Option Value), s.heap.Ns L' m → Grow hb s.heap → m "one" = some (.str x t) → m "due" = some (.ref D) → m "left" = some (.ref la) → m "right" = some (.ref ra) → s.heap.IsCell cr v₀ →
    s.heap.get? D = some (lst old n) → old.length ≤ 100 → x ∈ S8 → wpAny M A (execs body env') (fun f s' => f = .next ∧ DueEnd s L' cr D m (fun _ _ => []) (dueV left right x) old s') Never s
theorem due_loop {prog : Program} {w : World} {A : Around} {env' : Env} {L' cr D la ra l : Addr} {hb : Heap} {left right : List (List Str)} {body : List Stmt} {s₁ : Shared} {m : Str → Option Value} {vs : List Value} {e : Nat} {px : Pos} {Q : Shared → Prop}
    (hlo : env'.locals = L') (hk : env'.kindOf "one" = some .local) (hp : (env'.scope.kind == .class || (env'.scope.kind == .module && env'.locals != env'.globals)) = false) (hn : s₁.heap.Ns L' m) (hm1 : m "due" = some (.ref D)) (hm2 : m "left" = some (.ref la)) (hm3 : m "right" = some (.ref ra)) (hc : ∃ v, s₁.heap.IsCell cr v)
    (hD : s₁.heap.get? D = some (lst [] 0)) (hl4 : s₁.heap.get? l = some (lst vs e)) (hS : StrsAre vs S8) (nlD : l ≠ D) (hbk : Grow hb s₁.heap) (nD : hb.get? D = none) (nc : hb.get? cr = none) (nL : hb.get? L' = none)
    (ok : BodyOK (model prog w) A env' body hb L' cr D la ra left right)
    (fin : ∀ s', (∃ I, DueZ s₁ L' cr D la ra I left right 8 s') → Q s') :
    ∃ (l' : Addr) (vs' : List Value), Value.ref l = .ref l' ∧ s₁.heap.IsList l' vs'.toArray ∧ ∀ I, I = s₁.heap.objs.size → ∃ Z : Nat → Shared → Prop,
      (∀ h, Grow s₁.heap h → Z 0 { s₁ with heap := h }) ∧
      (∀ i s₂ h' tk', Z i s₂ → (∀ b o, b ≠ I → s₂.heap.get? b = some o → h'.get? b = some o) → s₂.toks ≤ tk' → Z i { s₂ with heap := h', toks := tk' }) ∧
      (∀ i v s₂, vs'[i]? = some v → Z i s₂ → (∃ o, s₂.heap.get? I = some o ∧ o.cls = .type "list_iterator") → s₂.heap.IsList l' vs'.toArray → wpAny (model prog w) A (assign (.Name "one" px) env' v) (fun _ s₃ => wpAny (model prog w) A (execs body env') (fun f s₄ => f = .next ∧ Z (i + 1) s₄ ∧ ∀ b ∈ [I, l'], ∀ o, s₂.heap.get? b = some o → s₄.heap.get? b = some o) Never s₃) Never s₂) ∧
      (∀ s', Z vs'.length s' → Q s') := by
  obtain ⟨oL, esL, epL, hoL, hdL, _⟩ := id hn
  obtain ⟨v0, oc, hoc, hdc⟩ := id hc
  have neL : ∀ {h : Heap} {a : Addr} {vs : List Value} {n : Nat} {m' : Str → Option Value}, h.get? a = some (lst vs n) → h.Ns L' m' → a ≠ L' := fun e x => let ⟨o, es, ep, ho, hd, _⟩ := x; ne_dict e ho ⟨es, ep, hd⟩
  have neC : ∀ {h : Heap} {a : Addr} {vs : List Value} {n : Nat} {v : Option Value}, h.get? a = some (lst vs n) → h.IsCell cr v → a ≠ cr := fun e x q => by
    obtain ⟨o, ho, hd⟩ := x
    rw [q, ho] at e
    cases e
    cases hd
  have cL : ∀ {h : Heap} {v : Option Value} {m' : Str → Option Value}, h.IsCell cr v → h.Ns L' m' → cr ≠ L' := fun x y q => by
    obtain ⟨o, ho, hd⟩ := x
    obtain ⟨o', es, ep, ho', hd', _⟩ := y
    rw [q, ho'] at ho
    cases ho
    rw [hd'] at hd; cases hd
  have hvl : vs.length = 8 := hS.length
  refine ⟨l, vs, rfl, ⟨_, hl4, rfl, _, rfl⟩, fun I hI => ⟨DueZ s₁ L' cr D la ra I left right, ?_, ?_, ?_, ?_⟩⟩
  · intro h g
    exact ⟨h, s₁.toks, m, [], 0, rfl, hn.keeps g, hm1, hm2, hm3, ⟨v0, IsCell.up g ⟨oc, hoc, hdc⟩⟩, g _ _ hD, rfl, fun j a x ha => by simp at ha, fun b o _ _ _ e => g b o e⟩
  · have nI : ∀ b o, s₁.heap.get? b = some o → b ≠ I := fun b o e q => by rw [q, hI] at e; exact absurd (Heap.lt_size e) (Nat.lt_irrefl _)
    rintro i s₂ h' tk' ⟨h, tk, m', as, n, rfl, h1, h2, h3, h4, ⟨v, o, ho, hd⟩, h6, h7, h8, h9⟩ k ht
    refine ⟨h', tk', m', as, n, rfl, h1.at' fun o e => k _ o (nI _ _ hoL) e, h2, h3, h4, ⟨v, o, k _ _ (nI _ _ hoc) ho, hd⟩, k _ _ (nI _ _ hD) h6, h7, fun j a x ha hx => ⟨(h8 j a x ha hx).1, (h8 j a x ha hx).2.1, k _ _ (h8 j a x ha hx).1 (h8 j a x ha hx).2.2⟩, fun b o q1 q2 q3 e => k b o (nI _ _ e) (h9 b o q1 q2 q3 e)⟩
  · rintro i v s₂ hv ⟨h, tk, m', as, n, rfl, h1, h2, h3, h4, ⟨vc, hcc⟩, h6, h7, h8, h9⟩ ⟨oI, hoI, hclI⟩ hl2
    obtain ⟨x, t, hx, rfl⟩ := strsGet hS hv
    refine wpAny_assign_Name (wpAny_storeName_local hk (by rw [hlo]; exact h1) ?_ hp)
    intro h' n' sb'
    rw [hlo] at n' sb'
    have k' : ∀ b o, b ≠ L' → h.get? b = some o → h'.get? b = some o := fun b o q e => sb'.extBut b o q e
    have cL' : cr ≠ L' := cL hcc h1
    have hbh : Grow hb h := fun b o e => h9 b o (fun q => by rw [q, nL] at e; cases e) (fun q => by rw [q, nD] at e; cases e) (fun q => by rw [q, nc] at e; cases e) (hbk b o e)
    have hbh' : Grow hb h' := fun b o e => k' b o (fun q => by rw [q, nL] at e; cases e) (hbh b o e)
    have hcc' : h'.IsCell cr vc := let ⟨o, ho, hd⟩ := hcc; ⟨o, k' _ _ cL' ho, hd⟩
    have hD' := k' _ _ (neL h6 h1) h6
    have i8 : i < 8 := by
      have := (List.getElem?_eq_some_iff.mp hv).1
      omega
    refine wpAny_mono (ok { s₁ with heap := h', toks := _ } _ x t _ n vc n' hbh' (if_pos rfl) ((if_neg (by decide)).trans h2) ((if_neg (by decide)).trans h3) ((if_neg (by decide)).trans h4) hcc' hD' (by rw [List.length_map, h7]; omega) (List.mem_of_getElem? hx)) (fun f s₄ hf => ?_) fun _ _ q => q
    obtain ⟨rfl, h5', tk5, m5, A5, t1, t2, n5, rfl, e1, e2, e3, e4, e5, e6, e7⟩ := hf
    dsimp only at e5 e7 hl2 hoI
    have hIL : I ≠ L' := fun q => by
      obtain ⟨o, es, ep, ho, hd, hcl, _⟩ := h1
      have : I < I := by
        have := Heap.lt_size hoL
        rw [← q] at this
        rw [← hI] at this
        exact this
      exact Nat.lt_irrefl _ this
    have hIn : s₁.heap.get? I = none := by rw [hI]; exact Heap.get?_none_of_le (Nat.le_refl _)
    have hID : I ≠ D := fun q => by rw [q, hD] at hIn; cases hIn
    have hIc : I ≠ cr := fun q => by rw [q, hoc] at hIn; cases hIn
    refine ⟨rfl, ⟨h5', tk5, m5, as ++ [(A5, t1, t2)], n5, rfl, e1, ?_, ?_, ?_, e3, by rw [e4]; simp, by simp [h7], ?_, ?_⟩, ?_⟩
    · rw [e2 _ (by decide)]; exact (if_neg (by decide)).trans h2
    · rw [e2 _ (by decide)]; exact (if_neg (by decide)).trans h3
    · rw [e2 _ (by decide)]; exact (if_neg (by decide)).trans h4
    · intro j a x' ha hx'
      rcases Nat.lt_trichotomy j as.length with q | q | q
      · obtain ⟨r1, r2, r3⟩ := h8 j a x' (by rwa [List.getElem?_append_left q] at ha) hx'
        exact ⟨r1, r2, e7 _ _ (neL r3 h1) (fun q => by rw [q, hD] at r2; cases r2) (neC r3 hcc) (k' _ _ (neL r3 h1) r3)⟩
      · subst q
        rw [h7, hx] at hx'; cases hx'
        simp at ha; subst ha
        refine ⟨fun q => ?_, ?_, e6⟩
        · have : A5 = I := q
          rw [this, k' _ _ hIL hoI] at e5; cases e5
        · cases ee : s₁.heap.get? A5 with
          | none => rfl
          | some o =>
            exfalso
            by_cases q1 : A5 = L'
            · obtain ⟨o, _, _, ho, _⟩ := n'
              rw [q1, ho] at e5; cases e5
            by_cases q2 : A5 = D
            · rw [q2, hD'] at e5; cases e5
            by_cases q3 : A5 = cr
            · obtain ⟨o, ho, _⟩ := hcc'
              rw [q3, ho] at e5; cases e5
            rw [k' _ _ q1 (h9 _ _ q1 q2 q3 ee)] at e5; cases e5
      · rw [List.getElem?_eq_none (by rw [List.length_append, List.length_singleton]; omega)] at ha; cases ha
    · intro b o q1 q2 q3 ee
      exact e7 b o q1 q2 q3 (k' b o q1 (h9 b o q1 q2 q3 ee))
    · intro b hb' o ee
      rcases List.mem_cons.mp hb' with rfl | hb'
      · exact e7 _ _ hIL hID hIc (k' _ _ hIL ee)
      · rw [List.mem_singleton.mp hb'] at ee ⊢
        have q1 := neL hl4 hn
        exact e7 _ _ q1 nlD (neC hl4 ⟨oc, hoc, hdc⟩) (k' _ _ q1 ee)
  · intro s' z
    rw [hvl] at z
    exact fin s' ⟨I, z⟩
theorem eval_list8 {M : Model} {A : Around} {E : Value → Shared → Prop} {s : Shared} {env : Env} {x0 x1 x2 x3 x4 x5 x6 x7 : Str} {k0 k1 k2 k3 k4 k5 k6 k7 : Nat} {p0 p1 p2 p3 p4 p5 p6 p7 lp : Pos} {Q : Value → Shared → Prop}
    (h : Q (.ref s.heap.objs.size) { s with heap := s.heap.push { cls := .type "list", data := .seq #[.str x0 s.toks, .str x1 (s.toks + 1), .str x2 (s.toks + 1 + 1), .str x3 (s.toks + 1 + 1 + 1), .str x4 (s.toks + 1 + 1 + 1 + 1), .str x5 (s.toks + 1 + 1 + 1 + 1 + 1), .str x6 (s.toks + 1 + 1 + 1 + 1 + 1 + 1), .str x7 (s.toks + 1 + 1 + 1 + 1 + 1 + 1 + 1)] }, toks := s.toks + 1 + 1 + 1 + 1 + 1 + 1 + 1 + 1 }) :
    wpAny M A (eval (.List [.Constant (.str x0) k0 p0, .Constant (.str x1) k1 p1, .Constant (.str x2) k2 p2, .Constant (.str x3) k3 p3, .Constant (.str x4) k4 p4, .Constant (.str x5) k5 p5, .Constant (.str x6) k6 p6, .Constant (.str x7) k7 p7] lp) env) Q E s := by
  refine wpAny_List ?_
  have e : backTo lp (starEach [.Constant (.str x0) k0 p0, .Constant (.str x1) k1 p1, .Constant (.str x2) k2 p2, .Constant (.str x3) k3 p3, .Constant (.str x4) k4 p4, .Constant (.str x5) k5 p5, .Constant (.str x6) k6 p6, .Constant (.str x7) k7 p7] env) = [(false, eval (.Constant (.str x0) k0 p0) env), (false, eval (.Constant (.str x1) k1 p1) env), (false, eval (.Constant (.str x2) k2 p2) env), (false, eval (.Constant (.str x3) k3 p3) env), (false, eval (.Constant (.str x4) k4 p4) env), (false, eval (.Constant (.str x5) k5 p5) env), (false, eval (.Constant (.str x6) k6 p6) env), (false, eval (.Constant (.str x7) k7 p7) env)] := rfl
  rw [e]
  refine spliced_cons (Constant_str (spliced_cons (Constant_str (spliced_cons (Constant_str (spliced_cons (Constant_str (spliced_cons (Constant_str (spliced_cons (Constant_str (spliced_cons (Constant_str (spliced_cons (Constant_str (spliced_nil ⟨?_, h⟩))))))))))))))))
  have := sizeLine_eq
  simp
  omega
theorem eval_nil {M : Model} {A : Around} {E : Value → Shared → Prop} {s : Shared} {env : Env} {p : Pos} {Q : Value → Shared → Prop} (q : Q (.ref s.heap.objs.size) { s with heap := s.heap.push { cls := .type "list", data := .seq ([] : List Value).toArray } }) : wpAny M A (eval (.List [] p) env) Q E s := wpAny_List (spliced_nil ⟨Nat.zero_le _, q⟩)
theorem eval_pair0 {M : Model} {A : Around} {E : Value → Shared → Prop} {s : Shared} {env : Env} {p1 p2 pt : Pos} {k : Nat} {Q : Value → Shared → Prop} (q : ∀ h' T, Grow s.heap h' → PairAt 0 s.heap h' T [] [] → Q (.ref T) { s with heap := h' }) :
    wpAny M A (eval (.Tuple [.List [] p1, .List [] p2] k pt) env) Q E s := by
  refine wpAny_Tuple ?_
  have e : backTo pt (starEach [.List [] p1, .List [] p2] env) = [(false, eval (.List [] p1) env), (false, eval (.List [] p2) env)] := rfl
  rw [e]
  have sl0 := sizeLine_eq
  refine spliced_cons (eval_nil (spliced_cons (eval_nil (spliced_nil ⟨by simp; omega, ?_⟩))))
  have g1 : Grow s.heap (s.heap.push { cls := .type "list", data := .seq ([] : List Value).toArray }) := Grow.push
  have g2 : Grow (s.heap.push { cls := .type "list", data := .seq ([] : List Value).toArray }) ((s.heap.push { cls := .type "list", data := .seq ([] : List Value).toArray }).push { cls := .type "list", data := .seq ([] : List Value).toArray }) := Grow.push
  have n : ∀ {h : Heap} , Grow s.heap h → s.heap.get? h.objs.size = none := fun g => Grow.none g (Heap.get?_none_of_le (Nat.le_refl _))
  refine q _ _ (g1.trans (g2.trans Grow.push)) ⟨_, _, [], [], 0, 0, n (g1.trans g2), n (Grow.refl _), n g1, Heap.get?_push_size _ (by rfl), Heap.get?_push_of_some _ (Heap.get?_push_of_some _ (Heap.get?_push_size _ (by rfl))), Heap.get?_push_of_some _ (Heap.get?_push_size _ (by rfl)), .nil, .nil⟩
theorem eval_ends {M : Model} {A : Around} {E : Value → Shared → Prop} {s : Shared} {env : Env} {p1 p2 pt p3 p4 pu lp : Pos} {k k2 : Nat} {Q : Value → Shared → Prop} (q : ∀ h' D T1 T2, Grow s.heap h' → h'.get? D = some (lst [.ref T1, .ref T2] 0) → (∃ as, Reads h' (.ref T1) (pairD ([], [])) as) → (∃ as, Reads h' (.ref T2) (pairD ([], [])) as) → Q (.ref D) { s with heap := h' }) :
    wpAny M A (eval (.List [.Tuple [.List [] p1, .List [] p2] k pt, .Tuple [.List [] p3, .List [] p4] k2 pu] lp) env) Q E s := by
  refine wpAny_List ?_
  have e : backTo lp (starEach [.Tuple [.List [] p1, .List [] p2] k pt, .Tuple [.List [] p3, .List [] p4] k2 pu] env) = [(false, eval (.Tuple [.List [] p1, .List [] p2] k pt) env), (false, eval (.Tuple [.List [] p3, .List [] p4] k2 pu) env)] := rfl
  rw [e]
  have sl0 := sizeLine_eq
  refine spliced_cons (eval_pair0 fun h1 T1 g1 P1 => spliced_cons (eval_pair0 fun h2 T2 g2 P2 => spliced_nil ⟨by simp; omega, ?_⟩))
  refine q _ _ T1 T2 (g1.trans (g2.trans Grow.push)) (Heap.get?_push_size _ (by rfl)) ?_ ?_
  · exact (P1.up fun b o _ e => Heap.get?_push_of_some _ (g2 _ _ e)).reads (p := ([], []))
  · exact (P2.up fun b o _ e => Heap.get?_push_of_some _ e).reads (p := ([], []))
set_option maxHeartbeats 2000000 in
theorem due_c {w : World} {mean : ExcName → Option Value} {mg mb : Str → Option Value} {A : Around} {dp un : Nat} {gd : Option (List Code)} {base : Heap} {env : Env} {L : Addr} {m : Str → Option Value} {s : Shared}
    {Q E : Value → Shared → Prop} {la ra : Addr} {ls rs : List Value} {left right : List (List Str)}
    (C : AtF w mean mg mb A dp un gd base [] env L m [] s.heap) (hl : s.heap.IsList la ls.toArray) (hr : s.heap.IsList ra rs.toArray) (hlr : RowsAt s.heap ls left) (hrr : RowsAt s.heap rs right) (hok : ∀ r ∈ left, ∀ x ∈ r, PyData.strOk x = true) (hok' : ∀ r ∈ right, ∀ x ∈ r, PyData.strOk x = true)
    (hzl : ls.length ≤ 100) (hzr : rs.length ≤ 100) (hzl2 : ∀ r ∈ left, r.length ≤ 100) (hzr2 : ∀ r ∈ right, r.length ≤ 100) (hdd : dp + 21 < recursionLimit) (huu : un + 1003 < cLine)
    (ret : ∀ h' tk' v, Grow s.heap h' → (∃ as, Reads h' v (dueD left right S8) as) → Q v { s with heap := h', toks := tk' }) :
    wpAny (model prog0 w) A (call (.ref 151) [.ref la, .ref ra]) Q E s := by
  w_top off
  have kf0 : PySem.Challenge.rw_nq0007_01 = PySem.Challenge.rw_nq0007_01 → Mine.hd.heap_39 w.params = Mine.hd.heap_39 w.params := by (k_fill; exact fun _ => rfl)
  clear kf0
  refine enterUC [("left", .ref la), ("right", .ref ra)] C (by k_is) (by k_is) (BindsTo.of_eq rfl) rfl (by decide +kernel) rfl rfl rfl ?_
  intro hb L' h₁ tk cells oL htk hL hLd Fs hlt F' N' Y' X' T' G1 G2 G3
  have hll : @LT.lt Nat _ L L' := hlt _ (.head _)
  have nodict : ∀ {a : Addr} {vs : Array Value}, s.heap.IsList a vs → ∀ p ∈ [(L, oL)], p.1 ≠ a := fun {a vs} hx p hp e => by
    rw [List.mem_singleton.mp hp] at e
    have e' : L = a := e
    obtain ⟨o, ho, _, n, hd⟩ := hx
    obtain ⟨es, ep, hd2⟩ := hLd
    rw [← e', hL] at ho
    cases ho
    rw [hd2] at hd; cases hd
  have toHb : ∀ a x, s.heap.IsList a x → hb.IsList a x := fun a x hx => let ⟨o, ho, r⟩ := hx; ⟨o, G1 _ _ ho (nodict hx), r⟩
  have S : Sub w mean mg mb dp un gd base env L hb L' := ⟨C.X, C.T, fun b o e => G1 b o (C.stays b o e) (fun p hp q => by rw [List.mem_singleton.mp hp] at q; have q' : L = b := q; rw [← q', Heap.get?_none_of_le C.lo] at e; cases e), Nat.le_trans C.lo (Nat.le_of_lt hll), C.lo, hll, C.hf, C.hk, hdd, huu⟩
  clear C nodict
  k_cells Y'
  simp only [List.cons_append, List.nil_append] at N'
  rename_i d1 _
  have nL : hb.get? L' = none := Heap.get?_none_of_le F'.above
  have nc : hb.get? (L' + 1) = none := Heap.get?_none_of_le (Nat.le_succ_of_le F'.above)
  have hcL : (L' + 1 : Nat) ≠ L' := Nat.succ_ne_self _
  have hc1 : h₁.get? (L' + 1) = some d1 := (N' _ (.head _)).1
  have hlL : h₁.get? L = some oL := (N' _ (.tail _ (.head _))).1
  -- due = []
  refine wpAny_execs_cons (wpAny_Assign_Name (wpAny_List (spliced_nil ⟨Nat.zero_le _, ?_⟩)) rfl)
  generalize hH : h₁.push { cls := .type "list", data := .seq ([] : List Value).toArray } = H
  have gH : Grow h₁ H := by rw [← hH]; exact Grow.push
  have nD0 : h₁.get? h₁.objs.size = none := Heap.get?_none_of_le (Nat.le_refl _)
  have hD : H.get? h₁.objs.size = some (lst [] 0) := by rw [← hH]; exact Heap.get?_push_size _ (by rfl)
  dsimp only at nD0 hD ⊢
  generalize h₁.objs.size = D at nD0 hD ⊢
  refine wpAny_storeName_local (env := envOfC _ _ L' 151 (.ref 150)) rfl (F'.ns.keeps gH) (fun h2 n2 sb2 => ?_) rfl
  have k2 : ∀ b o, b ≠ L' → H.get? b = some o → h2.get? b = some o := fun b o q e => sb2.extBut b o q e
  have nDL : D ≠ L' := fun q => by obtain ⟨o, _, _, ho, _⟩ := F'.ns; rw [q, ho] at nD0; cases nD0
  have hD2 := k2 _ _ nDL hD
  have hb2 : Grow hb h2 := fun b o e => k2 b o (fun q => by rw [q, nL] at e; cases e) (gH _ _ (F'.keep b o e))
  have nD : hb.get? D = none := Grow.none F'.keep nD0
  have hc2 : h2.get? (L' + 1) = some d1 := k2 _ _ hcL (gH _ _ hc1)
  have hL2 : h2.get? L = some oL := k2 _ _ (Nat.ne_of_lt hll) (gH _ _ hlL)
  have b2 : Grow base h2 := fun b o e => hb2 b o (S.st b o e)
  -- for
  refine wpAny_execs_cons (For_list rfl ?_ (fun _ => rfl) (fun _ _ => rfl))
  refine call_B1 S.X S.T b2 (by k_is) boot_sorted (by decide) rfl rfl rfl rfl (by decide) rfl ?_
  refine eval_list8 ?_
  refine sorted8_G ⟨_, Heap.get?_push_size _ (by rfl), rfl, _, rfl⟩ ?_
  intro h4 l vs e g4 nl hl4 hS
  have g24 : Grow h2 h4 := Grow.trans Grow.push g4
  dsimp only at g4 nl
  have nl2 : h2.get? l = none := Grow.none Grow.push nl
  refine due_loop (s₁ := { s with heap := h4, toks := _ }) (l := l) (L' := L') (cr := L' + 1) (D := D) (la := la) (ra := ra) (hb := hb) (left := left) (right := right) rfl rfl rfl (n2.keeps g24) (if_pos rfl) ((if_neg (by decide)).trans rfl) ((if_neg (by decide)).trans rfl) ⟨_, d1, g24 _ _ hc2, by assumption⟩ (g24 _ _ hD2) hl4 hS (fun q => by rw [q, hD2] at nl2; cases nl2) (hb2.trans g24) nD nc nL ?_ ?_
  · intro s5 m5 x t old n v₀ hn5 hg5 f1 f2 f3 f4 f5 f6 f7 f8
    have h8 := List.all_eq_true.mp all8 x f8
    simp only [ok8, Bool.and_eq_true, decide_eq_true_eq, List.all_eq_true] at h8
    refine due_body S rfl rfl rfl rfl hn5 (fun b o e => hg5 b o (S.st b o e)) f1 f2 f3 f4 f5 f6 (Grow.none S.st nD) (Grow.none S.st nc) (Grow.none S.st nL) (Grow.isList hg5 (toHb _ _ hl)) (Grow.isList hg5 (toHb _ _ hr)) (rows_up (fun a x q => Grow.isList hg5 (toHb _ _ q)) hlr) (rows_up (fun a x q => Grow.isList hg5 (toHb _ _ q)) hrr) hok hok' hzl hzr hzl2 hzr2 f7 h8.1.1.1 h8.1.1.2 h8.1.2 h8.2 hcL (fun q => ?_) nDL (fun a y q => ⟨fun r => ?_, fun r => ?_⟩) rfl rfl rfl rfl rfl rfl rfl rfl rfl (by with_unfolding_all rfl) rfl (by with_unfolding_all rfl) rfl (fun _ => rfl) (fun _ => rfl) (fun _ => rfl)
      (by with_unfolding_all rfl) (by decide) rfl (by decide) rfl (fun _ => rfl) (by with_unfolding_all rfl) (by decide) rfl (by decide) rfl (fun _ => rfl) (fun _ => rfl) rfl (by with_unfolding_all rfl) (by decide) rfl (by decide) rfl (fun _ => rfl) (fun _ => rfl) rfl (by with_unfolding_all rfl) rfl (by k_is) (by k_is) boot_len (by decide +kernel)
    · rw [← q, hc2] at hD2
      cases hD2
      simp at *
    · obtain ⟨o, es, ep, ho, hd, _⟩ := hn5
      obtain ⟨o', ho', _, _, hd'⟩ := q
      rw [r, ho] at ho'
      cases ho'
      rw [hd] at hd'; cases hd'
    · obtain ⟨o, ho, hd⟩ := f5
      obtain ⟨o', ho', _, _, hd'⟩ := q
      rw [r, ho] at ho'
      cases ho'
      rw [hd] at hd'; cases hd'
  rintro s' ⟨I, h, tk', m', as, n, rfl, z1, z2, z3, z4, z5, z6, z7, z8, z9⟩
  have kk : Grow s.heap h := fun b o ee => by
    have hbL' : b < L' := by rw [← G3]; exact Heap.lt_size ee
    have q1 : b ≠ L' := Nat.ne_of_lt hbL'
    have q3 : b ≠ L' + 1 := Nat.ne_of_lt (Nat.lt_succ_of_lt hbL')
    by_cases q : L = b
    · subst q
      rw [hL] at ee
      cases ee
      exact z9 _ _ q1 (fun q => by rw [← q, hlL] at nD0; cases nD0) q3 (g24 _ _ hL2)
    · have e1 := G1 b o ee fun p hp r => by rw [List.mem_singleton.mp hp] at r; exact q r
      exact z9 b o q1 (fun q => by rw [q, nD] at e1; cases e1) q3 (g24 _ _ (hb2 _ _ e1))
  show wpAny _ _ (execs [_] _) _ _ _
  refine wpAny_execs_cons (wpAny_Return_some (wpAny_BinOp (name_L (m := m') z1 rfl rfl (by decide) z2 ?_)))
  refine eval_ends ?_
  intro h9 DE T1 T2 g9 hDE R1 R2
  have sl0 := sizeLine_eq
  have hz8 : as.length = 8 := z7
  refine P.add_list (g9 _ _ z6) hDE ?_ (by simp; omega)
  generalize hH9 : h9.push _ = H9
  have g10 : Grow h9 H9 := by rw [← hH9]; exact Grow.push
  have hE : H9.get? h9.objs.size = some (lst ((as.map fun a => Value.ref a.1) ++ [.ref T1, .ref T2]) 0) := by rw [← hH9]; exact (Heap.get?_push_size _ (by rfl)).trans (by simp [lst])
  have up : ∀ {v : Value} {d : PyData}, (∃ as, Reads h9 v d as) → ∃ as, Reads H9 v d as := fun ⟨as, r⟩ => ⟨as, Reads.keeps g10 r⟩
  refine ret H9 _ _ (kk.trans (Grow.trans g9 g10)) (lst_reads hE (readsAll_app (dueRows_read (xs := S8) hz8 fun j a x p q => g10 _ _ (g9 _ _ (z8 j a x p q).2.2)) (readsAll_one (up R1) (readsAll_one (up R2) ⟨_, .nil⟩))))
end Mine
end
section
open PySem PySem.W PyProof.Rows PySem.Calls PySem.Spec
set_option maxRecDepth 100000
namespace Mine
section
variable {prog : Program} {w : World} {A : Around} {E : Value → Shared → Prop} {s : Shared} {env : Env}
theorem sub_binop {value l r : Expr} {op : Operator} {p pos : Pos} {Q : Value → Shared → Prop}
    (h : wpAny (model prog w) A (eval value env) (fun o s₁ => wpAny (model prog w) A (eval (.BinOp l op r p) env) (fun i s₂ => s₂.TypeIs o "list" ∧ wpAny (model prog w) A (getItem o i) Q E s₂) E s₁) E s) :
    wpAny (model prog w) A (eval (.Subscript value (.BinOp l op r p) pos) env) Q E s := by
  rw [eval_Subscript]
  refine wpAny_bind (wpAny_mono h (fun o s₁ h₁ => wpAny_bind (wpAny_holding (wpAny_mono h₁ (fun i s₂ h₂ => wpAny_bind (wpAny_standAt ?_)) fun _ _ x => x))) fun _ _ x => x)
  refine wpAny_bind ?_
  rw [getitemInPython_of_ne h₂.1.not_modules]
  refine wpAny_bind (wpAny_specialOf h₂.1 list_getitem_lookup ?_)
  have fin : wpAny (model prog w) A (operate [o, i] (getItem o i)) (fun r s₃ => wpAny (model prog w) A (letTemporaryGo value o r >>= fun _ => pure r) Q E s₃) E s₂ :=
    wpAny_operating (wpAny_mono h₂.2 (fun r s₃ h₃ => wpAny_bind (wpAny_letTemporaryGo (wpAny_pure h₃))) fun _ _ x => x)
  first
    | exact wpAny_pure (wpAny_bind fin)
    | exact wpAny_bind (wpAny_pure (wpAny_bind fin))
    | exact wpAny_bind fin
theorem sub_slice {value : Expr} {lower upper : Option Expr} {p pos : Pos} {Q : Value → Shared → Prop}
    (h : wpAny (model prog w) A (eval value env) (fun o s₁ => wpAny (model prog w) A (evalPart lower env) (fun vl s₂ => wpAny (model prog w) A (evalPart upper env) (fun vu s₃ =>
      ∃ l items lo hi, o = .ref l ∧ s₃.heap.IsList l items ∧ items.size ≤ sizeLine ∧ IsPart vl lo ∧ IsPart vu hi ∧
        ∀ h' D, Grow s₃.heap h' → s₃.heap.get? D = none → h'.get? D = some { cls := .type "list", data := .seq (slicePick items lo hi none) } → Q (.ref D) { s₃ with heap := h' }) E s₂) E s₁) E s) :
    wpAny (model prog w) A (eval (.Subscript value (.Slice lower upper none p) pos) env) Q E s := by
  rw [eval_Subscript]
  refine wpAny_bind (wpAny_mono h (fun o s₁ h₁ => wpAny_bind (wpAny_holding (wpAny_Slice (wpAny_mono h₁ (fun vl s₂ h₂ => wpAny_mono h₂ (fun vu s₃ h₃ => ?_) fun _ _ e => e) fun _ _ e => e)))) fun _ _ e => e)
  obtain ⟨l, items, lo, hi, rfl, hl, hsz, pl, pu, hQ⟩ := h₃
  rw [evalPart_none]
  refine wpAny_pure (wpAny_bind (wpAny_standAt ?_))
  have hT : ({ s₃ with heap := s₃.heap.push { cls := .type "slice", data := .fields #[vl, vu, .none] } } : Shared).TypeIs (.ref l) "list" := (hl.push _).typeIs
  refine wpAny_bind ?_
  rw [getitemInPython_of_ne hT.not_modules]
  refine wpAny_bind (wpAny_specialOf hT list_getitem_lookup ?_)
  have fin : wpAny (model prog w) A (operate [.ref s₃.heap.objs.size, .ref l] (getItem (.ref l) (.ref s₃.heap.objs.size))) (fun r s₃ => wpAny (model prog w) A (letTemporaryGo value (.ref l) r >>= fun _ => pure r) Q E s₃) E { s₃ with heap := s₃.heap.push { cls := .type "slice", data := .fields #[vl, vu, .none] } } := by
    refine wpAny_operating (wpAny_getItem_list_slice (hl.push _) (Heap.IsSliceOf.new ..) pl pu .none (by simp) ?_ hsz)
    refine wpAny_bind (wpAny_letTemporaryGo (wpAny_pure ?_))
    refine hQ _ _ (Grow.trans Grow.push Grow.push) ?_ (Heap.get?_push_size _ (by rfl))
    exact Heap.get?_none_of_le (by rw [Heap.size_push]; exact Nat.le_succ _)
  first
    | exact wpAny_pure (wpAny_bind fin)
    | exact wpAny_bind (wpAny_pure (wpAny_bind fin))
    | exact wpAny_bind fin
theorem fdiv_small {a b : Int} {t u : Tok} {Q : Value → Shared → Prop} (hb : b = 3 ∨ b = 9 ∨ b = 27 ∨ b = 81) (h : Q (.int (a / b) s.toks) { s with toks := s.toks + 1 }) : wpAny (model prog w) A (binaryOp .FloorDiv (.int a t) (.int b u)) Q E s := by
  have h0 : 0 ≤ b := by rcases hb with rfl | rfl | rfl | rfl <;> decide
  refine AutoIntOps.floordiv_1 ?_ ?_ ?_
  · rcases hb with rfl | rfl | rfl | rfl <;> decide
  · have d3 : (Nat.log2 3) / 30 + 1 = 1 ∧ (Nat.log2 9) / 30 + 1 = 1 ∧ (Nat.log2 27) / 30 + 1 = 1 ∧ (Nat.log2 81) / 30 + 1 = 1 := by decide +kernel
    rcases hb with rfl | rfl | rfl | rfl <;> simp [Builtin.divisionGoesByPylong, d3.1, d3.2.1, d3.2.2.1, d3.2.2.2]
  · rw [Int.fdiv_eq_ediv_of_nonneg _ h0]
    exact h
theorem fmod3 {a : Int} {t u : Tok} {Q : Value → Shared → Prop} (h : Q (.int (a % 3) s.toks) { s with toks := s.toks + 1 }) : wpAny (model prog w) A (binaryOp .Mod (.int a t) (.int 3 u)) Q E s := by
  refine AutoIntOps.mod_1 (by decide) ?_
  rw [Int.fmod_eq_emod_of_nonneg _ (by decide)]
  exact h
theorem for_walk2 {R : Result → Shared → Prop} {target : Expr} {body : List Stmt} {I : Addr} {fp wr : List Addr} {n : Nat} {P : Nat → Value → Prop} {St : Nat → Heap → Prop} (W : Walks prog w A I fp wr n P St) (Z : Nat → Shared → Prop)
    (hst : St 0 s.heap) (h0 : Z 0 s) (stab : ∀ i s₁ h' tk', Z i s₁ → St i s₁.heap → (∀ b o, b ∉ wr → s₁.heap.get? b = some o → h'.get? b = some o) → s₁.toks ≤ tk' → Z i { s₁ with heap := h', toks := tk' })
    (turn : ∀ i v s₂, i < n → P i v → Z i s₂ → St (i + 1) s₂.heap → wpAny (model prog w) A (letOwnedTupleGo target (.ref I) v) (fun _ s₂' => wpAny (model prog w) A (assign target env v) (fun _ s₃ => wpAny (model prog w) A (execs body env) (fun f s₄ => f = .next ∧ Z (i + 1) s₄ ∧ ∀ b ∈ fp, ∀ o, s₂.heap.get? b = some o → s₄.heap.get? b = some o) Never s₃) Never s₂') Never s₂)
    (done : ∀ s', Z n s' → R (.ok .next) s') :
    codeAny (model prog w) A (.forLoop target (.ref I) body [] env) R s := by
  refine codeAny_forLoop_any (fun k s' => ∃ i, St i s'.heap ∧ Z i s' ∧ i ≤ n ∧ k = n + 1 - i) ?_ (n + 1) ⟨0, hst, h0, Nat.zero_le _, rfl⟩
  rintro k s' ⟨i, st, z, hi, rfl⟩
  by_cases hlt : i < n
  · refine wpAny_with_toks (n := s'.toks) (Nat.le_refl _) (W.item i s' _ _ hlt st fun v h₁ tk₁ hP st₁ hk htk => ?_)
    have z₁ := stab i s' h₁ tk₁ z st (fun b o hb e => hk b o hb e) htk
    refine wpAny_noRaise (wpAny_mono (turn i v { s' with heap := h₁, toks := tk₁ } hlt hP z₁ st₁) (fun _ s₂' h₂' => wpAny_noRaise (wpAny_mono h₂' (fun _ s₃ h₃ => wpAny_noRaise (wpAny_mono h₃ (fun f s₄ h₄ => ?_) fun _ _ q => q)) fun _ _ q => q)) fun _ _ q => q)
    obtain ⟨rfl, z₄, k₄⟩ := h₄
    exact ⟨n + 1 - (i + 1), by omega, i + 1, W.frame _ _ _ st₁ k₄, z₄, hlt, rfl⟩
  · have hin : i = n := by omega
    subst hin
    refine wpAny_with_toks (n := s'.toks) (Nat.le_refl _) (W.done s' _ _ st fun h₁ tk₁ hk htk => ?_)
    exact wpAny_execs_nil (done _ (stab i s' h₁ tk₁ z st (fun b o hb e => hk b o hb e) htk))
/-- an iterator over a list stands at I -/
def ItAt (h : Heap) (I : Addr) : Prop := ∃ o, h.get? I = some o ∧ o.cls = .type "list_iterator"
theorem ItAt.ne {h : Heap} {I a : Addr} {o : Obj} (x : ItAt h I) (e : h.get? a = some o) (hc : o.cls ≠ .type "list_iterator") : a ≠ I := fun q => by
  obtain ⟨o', ho', hc'⟩ := x
  rw [q, ho'] at e
  cases e
  exact hc hc'
theorem owned_list {target : Expr} {I : Addr} {v : Value} {Q : Unit → Shared → Prop} (hI : ItAt s.heap I) (h : Q () s) : wpAny (model prog w) A (letOwnedTupleGo target (.ref I) v) Q Never s := by
  obtain ⟨o, ho, hc⟩ := hI
  unfold letOwnedTupleGo
  split
  all_goals (try exact wpAny_pure h)
  all_goals
    cases v <;> (try exact wpAny_pure h)
    refine wpAny_bind (wpAny_load ho ?_)
    rw [hc]
    cases o.data <;> exact wpAny_pure h
/-- a for over a list -/
theorem For_list2 {Q : Flow → Shared → Prop} {target iter : Expr} {body : List Stmt} {pos : Pos} (hh : A.handled = none)
    (h : wpAny (model prog w) A (eval iter env) (fun xv s₁ => ∃ (l : Addr) (vs : List Value), xv = .ref l ∧ s₁.heap.IsList l vs.toArray ∧ ∃ Z : Nat → Shared → Prop,
      (∀ h, Grow s₁.heap h → Z 0 { s₁ with heap := h }) ∧
      (∀ I i s₂ h' tk', Z i s₂ → ItAt s₂.heap I → s₁.heap.get? I = none → (∀ b o, b ≠ I → s₂.heap.get? b = some o → h'.get? b = some o) → s₂.toks ≤ tk' → Z i { s₂ with heap := h', toks := tk' }) ∧
      (∀ I i v s₂, vs[i]? = some v → Z i s₂ → ItAt s₂.heap I → s₁.heap.get? I = none → s₂.heap.IsList l vs.toArray → wpAny (model prog w) A (assign target env v) (fun _ s₃ => wpAny (model prog w) A (execs body env) (fun f s₄ => f = .next ∧ Z (i + 1) s₄ ∧ ∀ b ∈ [I, l], ∀ o, s₂.heap.get? b = some o → s₄.heap.get? b = some o) Never s₃) Never s₂) ∧
      (∀ s', Z vs.length s' → Q .next s')) Never s)
    (hs : ∀ x, foldedSetIterable iter env x = pure x) :
    wpAny (model prog w) A (exec (.For target iter body [] pos) env) Q Never s := by
  refine wpAny_For (wpAny_mono h (fun xv s₁ h₁ => ?_) fun _ _ q => q) hs
  obtain ⟨l, vs, rfl, hl, Z, z0, stab, turn, done⟩ := h₁
  obtain ⟨ol, hol, _⟩ := id hl
  have hne : l ≠ s₁.heap.objs.size := Nat.ne_of_lt (Heap.lt_size hol)
  have hI : s₁.heap.get? s₁.heap.objs.size = none := Heap.get?_none_of_le (Nat.le_refl _)
  refine wpAny_pyIter_list hl ?_
  have W : Walks prog w A s₁.heap.objs.size [s₁.heap.objs.size, l] [s₁.heap.objs.size] vs.length (fun i v => vs[i]? = some v) (fun i h => h.IsListIter s₁.heap.objs.size l i ∧ h.IsList l vs.toArray) := by
    have W := Walks.list (prog := prog) (w := w) hh s₁.heap.objs.size l hne vs.toArray
    simpa using W
  have it : ∀ {i h}, h.IsListIter s₁.heap.objs.size l i → ItAt h s₁.heap.objs.size := fun x => let ⟨o, ho, hc, _⟩ := x; ⟨o, ho, hc⟩
  refine for_walk2 W Z ⟨⟨_, Heap.get?_push_size _ rfl, rfl, rfl⟩, hl.at fun o e => Heap.get?_push_of_some _ e⟩ (z0 _ fun b o e => Heap.get?_push_of_some _ e) (fun i s₂ h' tk' z st k t => stab _ i s₂ h' tk' z (it st.1) hI (fun b o q e => k b o (fun r => q (List.mem_singleton.mp r)) e) t)
    (fun i v s₂ _ hv z st => owned_list (it st.1) (turn _ i v s₂ hv z (it st.1) hI st.2)) (fun s' z => done s' z)
end
end Mine
end
section
open PySem PySem.W PyProof.Rows PySem.Calls PySem.Spec
set_option maxRecDepth 100000
namespace Mine
def names3 : List Str := ["a", "ab", "b"].map Str.ofString
def nmI (k : Int) : Str := names3.getD (k % 3).toNat (Str.ofString "")
def rowN (v : Int) : List Str := [nmI (v / 9), nmI (v / 27), nmI (v / 81)].take (v / 3 % 3 + 1).toNat
/-- the pairs of a number and a row -/
inductive TupsAt (T : Nat) (h : Heap) : List Value → List (Int × List Str) → Prop
  | nil : TupsAt T h [] []
  | cons {a r : Addr} {k : Int} {t n : Nat} {rv : List Value} {row : List Str} {vs : List Value} {rs : List (Int × List Str)} : h.get? a = some { cls := .type "tuple", data := .seq #[.int k t, .ref r] } → h.get? r = some (lst rv n) → StrsT T rv row → TupsAt T h vs rs → TupsAt T h (.ref a :: vs) ((k, row) :: rs)
theorem TupsAt.up {T T' : Nat} {h h' : Heap} {vs : List Value} {rs : List (Int × List Str)} (x : TupsAt T h vs rs) (hT : T ≤ T') (k : ∀ b o, (o.cls = .type "tuple" ∨ o.cls = .type "list") → h.get? b = some o → h'.get? b = some o) : TupsAt T' h' vs rs := by
  induction x with
  | nil => exact .nil
  | cons a b c _ ih => exact .cons (k _ _ (.inl rfl) a) (k _ _ (.inr rfl) b) (c.up hT) ih
theorem TupsAt.upL {T T' : Nat} {h h' : Heap} {vs : List Value} {rs : List (Int × List Str)} (x : TupsAt T h vs rs) (hT : T ≤ T') (k : ∀ b o, (∃ xs n, o.data = .seq xs n) → h.get? b = some o → h'.get? b = some o) : TupsAt T' h' vs rs := by
  induction x with
  | nil => exact .nil
  | cons a b c _ ih => exact .cons (k _ _ ⟨_, _, rfl⟩ a) (k _ _ ⟨_, _, rfl⟩ b) (c.up hT) ih
theorem TupsAt.append {T : Nat} {h : Heap} {vs ws : List Value} {rs qs : List (Int × List Str)} (x : TupsAt T h vs rs) (y : TupsAt T h ws qs) : TupsAt T h (vs ++ ws) (rs ++ qs) := by
  induction x with
  | nil => exact y
  | cons a b c _ ih => exact .cons a b c ih
theorem TupsAt.length {T : Nat} {h : Heap} {vs : List Value} {rs : List (Int × List Str)} (x : TupsAt T h vs rs) : vs.length = rs.length := by
  induction x with
  | nil => rfl
  | cons _ _ _ _ ih => simp [ih]
theorem StrsT.take {T : Nat} : ∀ {vs : List Value} {xs : List Str} (_ : StrsT T vs xs) (n : Nat), StrsT T (vs.take n) (xs.take n)
  | _, _, .nil, n => by simpa using StrsT.nil
  | _, _, .cons a h, 0 => .nil
  | _, _, .cons a h, n + 1 => .cons a (StrsT.take h n)
section
variable {prog : Program} {w : World} {A : Around} {E : Value → Shared → Prop} {s : Shared} {env : Env} {m : Str → Option Value}
theorem name_at {NL : Addr} {nv : List Value} {v d : Int} {t T : Nat} {p1 p2 p3 p4 p5 p6 p7 : Pos} {Q : Value → Shared → Prop} (hn : s.heap.Ns env.locals m) (hk : env.scope.kind = .function) (k1 : env.kindOf "names" = some .local) (k2 : env.kindOf "n" = some .local)
    (h1 : m "names" = some (.ref NL)) (h2 : m "n" = some (.int v t)) (hl : s.heap.IsList NL nv.toArray) (hs : StrsT T nv names3) (hd : d = 3 ∨ d = 9 ∨ d = 27 ∨ d = 81)
    (h : ∀ t' tk, TB t' T → s.toks ≤ tk → Q (.str (nmI (v / d)) t') { s with toks := tk }) :
    wpAny (model prog w) A (eval (.Subscript (.Name "names" p1) (.BinOp (.BinOp (.Name "n" p2) .FloorDiv (.Constant (.int d) 0 p3) p4) .Mod (.Constant (.int 3) 0 p5) p6) p7) env) Q E s := by
  refine sub_binop (name_L hn hk k1 (by decide) h1 (wpAny_BinOp (wpAny_BinOp (name_L hn hk k2 (by decide) h2 (wpAny_Constant_int (fdiv_small hd (wpAny_Constant_int (fmod3 ?_))))))))
  have i0 : 0 ≤ v / d % 3 := Int.emod_nonneg _ (by decide)
  have i1 : v / d % 3 < 3 := Int.emod_lt_of_pos _ (by decide)
  have hlen : nv.length = 3 := hs.length
  have hi : (v / d % 3).toNat < nv.length := by omega
  obtain ⟨x, t', hx, hv, ht⟩ := hs.get (i := (v / d % 3).toNat) (v := nv[(v / d % 3).toNat]) (List.getElem?_eq_getElem hi)
  refine ⟨hl.typeIs, wpAny_getItem_list (x := .str x t') hl i0 (by omega) (by rw [← hv]; simp [hi]) ?_⟩
  have e : nmI (v / d) = x := by
    unfold nmI
    rw [List.getD_eq_getElem?_getD, hx]; rfl
  rw [← e]
  exact h t' _ ht (by show s.toks ≤ s.toks + 1 + 1 + 1 + 1; omega)
end
end Mine
end
section
open PySem PySem.W PyProof.Rows PySem.Calls PySem.Spec
set_option maxRecDepth 100000
namespace Mine
inductive IntsT : List Value → List Int → Prop
  | nil : IntsT [] []
  | cons {k : Int} {t : Nat} {vs : List Value} {ks : List Int} : IntsT vs ks → IntsT (.int k t :: vs) (k :: ks)
theorem IntsT.get {vs : List Value} {ks : List Int} (h : IntsT vs ks) {i : Nat} {v : Value} (e : vs[i]? = some v) : ∃ k t, ks[i]? = some k ∧ v = .int k t := by
  induction h generalizing i with
  | nil => simp at e
  | cons _ ih =>
    cases i with
    | zero => simp at e; subst e; exact ⟨_, _, rfl, rfl⟩
    | succ i => simpa using ih (by simpa using e)
theorem IntsT.length {vs : List Value} {ks : List Int} (h : IntsT vs ks) : vs.length = ks.length := by
  induction h with
  | nil => rfl
  | cons _ ih => simp [ih]
def rowsN (ks : List Int) : List (Int × List Str) := ks.map fun v => (v % 3, rowN v)
section
variable {w : World} {A : Around} {s : Shared} {env : Env} {m : Str → Option Value} {L' : Addr}
/-- behind one number -/
structure RowsEnd (s : Shared) (L' : Addr) (m : Str → Option Value) (rs : List (Int × List Str)) (s' : Shared) : Prop where
  at_ : ∃ h' tk' R' vs' n', s' = { s with heap := h', toks := tk' } ∧ h'.Ns L' (fun z => if z = Str.ofString "rows" then some (.ref R') else m z) ∧ h'.get? R' = some (lst vs' n') ∧ TupsAt tk' h' vs' rs ∧ (∀ b o, b ≠ L' → s.heap.get? b = some o → h'.get? b = some o) ∧ s.toks ≤ tk'
theorem rows_body {NL R : Addr} {nv vs : List Value} {v : Int} {t T n : Nat} {rs : List (Int × List Str)} {p0 p1 p2 p3 p4 a1 a2 a3 a4 a5 a6 a7 b1 b2 b3 b4 b5 b6 b7 c1 c2 c3 c4 c5 c6 c7 d1 d2 d3 d4 d5 d6 d7 lp sp sp2 tp lp2 bp ap : Pos}
    (hlo : env.locals = L') (hn : s.heap.Ns L' m) (hk : env.scope.kind = .function) (k1 : env.kindOf "names" = some .local) (k2 : env.kindOf "n" = some .local) (k3 : env.kindOf "rows" = some .local) (h1 : m "names" = some (.ref NL)) (h2 : m "n" = some (.int v t)) (h3 : m "rows" = some (.ref R))
    (hl : s.heap.IsList NL nv.toArray) (hs : StrsT T nv names3) (hT : T ≤ s.toks) (hR : s.heap.get? R = some (lst vs n)) (ht : TupsAt s.toks s.heap vs rs) (hz : vs.length ≤ 1000) :
    wpAny (model prog0 w) A (execs [.Assign [.Name "rows" p0] (.BinOp (.Name "rows" p1) .Add (.List [.Tuple [.BinOp (.Name "n" p2) .Mod (.Constant (.int 3) 0 p3) p4,
      .Subscript (.List [.Subscript (.Name "names" a1) (.BinOp (.BinOp (.Name "n" a2) .FloorDiv (.Constant (.int 9) 0 a3) a4) .Mod (.Constant (.int 3) 0 a5) a6) a7, .Subscript (.Name "names" b1) (.BinOp (.BinOp (.Name "n" b2) .FloorDiv (.Constant (.int 27) 0 b3) b4) .Mod (.Constant (.int 3) 0 b5) b6) b7, .Subscript (.Name "names" c1) (.BinOp (.BinOp (.Name "n" c2) .FloorDiv (.Constant (.int 81) 0 c3) c4) .Mod (.Constant (.int 3) 0 c5) c6) c7] lp)
        (.Slice none (some (.BinOp (.BinOp (.BinOp (.Name "n" d1) .FloorDiv (.Constant (.int 3) 0 d2) d3) .Mod (.Constant (.int 3) 0 d4) d5) .Add (.Constant (.int 1) 0 d6) d7)) none sp) sp2] 0 tp] lp2) bp) ap] env)
      (fun f s' => f = .next ∧ RowsEnd s L' m (rs ++ [(v % 3, rowN v)]) s') Never s := by
  have sl0 := sizeLine_eq
  have hn' : ∀ {h : Heap}, Grow s.heap h → h.Ns env.locals m := fun g => by rw [hlo]; exact hn.keeps g
  refine wpAny_execs_cons (wpAny_Assign_Name (wpAny_BinOp (name_L (hn' (Grow.refl _)) hk k3 (by decide) h3 ?_)) rfl)
  refine wpAny_List (spliced_cons (wpAny_Tuple (k := 0) (spliced_cons (wpAny_BinOp (name_L (hn' (Grow.refl _)) hk k2 (by decide) h2 (wpAny_Constant_int (fmod3 (spliced_cons ?_))))))))
  refine sub_slice (wpAny_List (spliced_cons (name_at (hn' (Grow.refl _)) hk k1 k2 h1 h2 hl hs (.inr (.inl rfl)) fun t1 tk1 ht1 hk1 => ?_)))
  refine spliced_cons (name_at (hn' (Grow.refl _)) hk k1 k2 h1 h2 hl hs (.inr (.inr (.inl rfl))) fun t2 tk2 ht2 hk2 => ?_)
  refine spliced_cons (name_at (hn' (Grow.refl _)) hk k1 k2 h1 h2 hl hs (.inr (.inr (.inr rfl))) fun t3 tk3 ht3 hk3 => ?_)
  refine spliced_nil ⟨by simp; omega, ?_⟩
  dsimp only at hk1 hk2 hk3 ⊢
  rw [evalPart_none]
  refine wpAny_pure ?_
  rw [evalPart_some]
  have gL : Grow s.heap (s.heap.push { cls := .type "list", data := .seq [Value.str (nmI (v / 9)) t1, .str (nmI (v / 27)) t2, .str (nmI (v / 81)) t3].toArray }) := Grow.push
  refine wpAny_BinOp (wpAny_BinOp (wpAny_BinOp (name_L (hn' gL) hk k2 (by decide) h2 (wpAny_Constant_int (fdiv_small (.inl rfl) (wpAny_Constant_int (fmod3 (wpAny_Constant_int (P.add_int ?_)))))))))
  have i0 : 0 ≤ v / 3 % 3 := Int.emod_nonneg _ (by decide)
  have i1 : v / 3 % 3 < 3 := Int.emod_lt_of_pos _ (by decide)
  have ek : v / 3 % 3 + 1 = (((v / 3 % 3 + 1).toNat : Nat) : Int) := by omega
  refine ⟨_, [Value.str (nmI (v / 9)) t1, .str (nmI (v / 27)) t2, .str (nmI (v / 81)) t3].toArray, none, some (v / 3 % 3 + 1), rfl, ⟨_, Heap.get?_push_size _ (by rfl), rfl, _, rfl⟩, by simp; omega, .none, .int _ _, ?_⟩
  intro h5 D5 g5 n5 hD5
  dsimp only at g5 n5
  rw [ek, slicePick_upto _ _ (by simp; omega)] at hD5
  have gs5 : Grow s.heap h5 := gL.trans g5
  refine spliced_nil ⟨by simp; omega, ?_⟩
  refine spliced_nil ⟨by simp; omega, ?_⟩
  dsimp only
  generalize hH6 : h5.push { cls := .type "tuple", data := .seq [Value.int (v % 3) (s.toks + 1), Value.ref D5].toArray } = h6
  have g6 : Grow h5 h6 := by rw [← hH6]; exact Grow.push
  have hT6 : h6.get? h5.objs.size = some { cls := .type "tuple", data := .seq [Value.int (v % 3) (s.toks + 1), Value.ref D5].toArray } := by rw [← hH6]; exact Heap.get?_push_size _ (by rfl)
  generalize hH7 : h6.push { cls := .type "list", data := .seq [Value.ref h5.objs.size].toArray } = h7
  have g7 : Grow h6 h7 := by rw [← hH7]; exact Grow.push
  have hL7 : h7.get? h6.objs.size = some (lst [Value.ref h5.objs.size] 0) := by rw [← hH7]; exact Heap.get?_push_size _ (by rfl)
  have g57 : Grow h5 h7 := g6.trans g7
  refine P.add_list ((gs5.trans g57) _ _ hR) hL7 ?_ (by simp; omega)
  dsimp only
  generalize hH8 : h7.push { cls := .type "list", data := .seq (vs.toArray ++ [Value.ref h5.objs.size].toArray) } = h8
  have g8 : Grow h7 h8 := by rw [← hH8]; exact Grow.push
  have hL8 : h8.get? h7.objs.size = some (lst (vs ++ [Value.ref h5.objs.size]) 0) := by rw [← hH8]; exact (Heap.get?_push_size _ (by rfl)).trans (by simp [lst])
  have gs8 : Grow s.heap h8 := (gs5.trans g57).trans g8
  refine wpAny_storeName_local k3 (hn' gs8) (fun h9 n9 sb9 => ?_) (by rw [hk]; rfl)
  rw [hlo] at n9 sb9
  have k9 : ∀ b o, b ≠ L' → h8.get? b = some o → h9.get? b = some o := fun b o q e => sb9.extBut b o q e
  obtain ⟨oL, es, ep, hoL, hdL, _⟩ := hn.keeps gs8
  have ne8 : ∀ {b : Addr} {o : Obj}, (∃ xs n, o.data = .seq xs n) → h8.get? b = some o → b ≠ L' := fun hd e q => by
    obtain ⟨xs, n, hd⟩ := hd
    rw [q, hoL] at e
    cases e
    rw [hdL] at hd; cases hd
  refine wpAny_execs_nil ⟨rfl, ⟨h9, _, h7.objs.size, vs ++ [Value.ref h5.objs.size], 0, rfl, n9, k9 _ _ (ne8 ⟨_, _, rfl⟩ hL8) hL8, ?_, fun b o q e => k9 b o q (gs8 b o e), ?_⟩⟩
  · refine TupsAt.append (TupsAt.upL ht ?_ fun b o hc e => k9 b o (ne8 hc (gs8 b o e)) (gs8 b o e)) (.cons (n := 0) (rv := [Value.str (nmI (v / 9)) t1, .str (nmI (v / 27)) t2, .str (nmI (v / 81)) t3].take (v / 3 % 3 + 1).toNat) (k9 _ _ (ne8 ⟨_, _, rfl⟩ (g8 _ _ (g7 _ _ hT6))) (g8 _ _ (g7 _ _ hT6))) ?_ ?_ .nil)
    · show s.toks ≤ tk3 + 1 + 1 + 1 + 1 + 1 + 1 + 1
      omega
    · have e := g8 _ _ (g57 _ _ hD5)
      exact k9 _ _ (ne8 ⟨_, _, rfl⟩ e) e
    · refine StrsT.take (.cons (ht1.up ?_) (.cons (ht2.up ?_) (.cons (ht3.up ?_) .nil))) _ <;> (show T ≤ tk3 + 1 + 1 + 1 + 1 + 1 + 1 + 1; omega)
  · show s.toks ≤ tk3 + 1 + 1 + 1 + 1 + 1 + 1 + 1
    omega
/-- behind i numbers -/
structure RowsZ (s₁ : Shared) (L' : Addr) (m : Str → Option Value) (rs : List (Int × List Str)) (s' : Shared) : Prop where
  at_ : ∃ h tk m' R vs n, s' = { s₁ with heap := h, toks := tk } ∧ h.Ns L' m' ∧ m' "rows" = some (.ref R) ∧ (∀ y, y ≠ Str.ofString "rows" → y ≠ Str.ofString "n" → m' y = m y) ∧ h.get? R = some (lst vs n) ∧ TupsAt tk h vs rs ∧ (∀ b o, b ≠ L' → s₁.heap.get? b = some o → h.get? b = some o) ∧ s₁.toks ≤ tk
theorem rows_loop {NL SC R : Addr} {nv sv vs : List Value} {ks : List Int} {T n : Nat} {rs : List (Int × List Str)} {px ps fp p0 p1 p2 p3 p4 a1 a2 a3 a4 a5 a6 a7 b1 b2 b3 b4 b5 b6 b7 c1 c2 c3 c4 c5 c6 c7 d1 d2 d3 d4 d5 d6 d7 lp sp sp2 tp lp2 bp ap : Pos}
    (hh : A.handled = none) (hlo : env.locals = L') (hn : s.heap.Ns L' m) (hk : env.scope.kind = .function) (k0 : env.kindOf "script" = some .local) (k1 : env.kindOf "names" = some .local) (k2 : env.kindOf "n" = some .local) (k3 : env.kindOf "rows" = some .local) (h0 : m "script" = some (.ref SC)) (h1 : m "names" = some (.ref NL)) (h3 : m "rows" = some (.ref R))
    (hsc : s.heap.IsList SC sv.toArray) (hks : IntsT sv ks) (hl : s.heap.IsList NL nv.toArray) (hs : StrsT T nv names3) (hT : T ≤ s.toks) (hR : s.heap.get? R = some (lst vs n)) (ht : TupsAt s.toks s.heap vs rs) (hz : vs.length + ks.length ≤ 100) (hfs : ∀ x, foldedSetIterable (.Name "script" ps) env x = pure x) :
    wpAny (model prog0 w) A (exec (.For (.Name "n" px) (.Name "script" ps) [.Assign [.Name "rows" p0] (.BinOp (.Name "rows" p1) .Add (.List [.Tuple [.BinOp (.Name "n" p2) .Mod (.Constant (.int 3) 0 p3) p4,
      .Subscript (.List [.Subscript (.Name "names" a1) (.BinOp (.BinOp (.Name "n" a2) .FloorDiv (.Constant (.int 9) 0 a3) a4) .Mod (.Constant (.int 3) 0 a5) a6) a7, .Subscript (.Name "names" b1) (.BinOp (.BinOp (.Name "n" b2) .FloorDiv (.Constant (.int 27) 0 b3) b4) .Mod (.Constant (.int 3) 0 b5) b6) b7, .Subscript (.Name "names" c1) (.BinOp (.BinOp (.Name "n" c2) .FloorDiv (.Constant (.int 81) 0 c3) c4) .Mod (.Constant (.int 3) 0 c5) c6) c7] lp)
        (.Slice none (some (.BinOp (.BinOp (.BinOp (.Name "n" d1) .FloorDiv (.Constant (.int 3) 0 d2) d3) .Mod (.Constant (.int 3) 0 d4) d5) .Add (.Constant (.int 1) 0 d6) d7)) none sp) sp2] 0 tp] lp2) bp) ap] [] fp) env)
      (Ends (RowsZ s L' m (rs ++ rowsN ks))) Never s := by
  obtain ⟨oL, es, ep, hoL, hdL, _⟩ := id hn
  have neL : ∀ {h : Heap} {b : Addr} {o : Obj} {m' : Str → Option Value}, h.Ns L' m' → (∃ xs n, o.data = .seq xs n) → h.get? b = some o → b ≠ L' := fun x hd e q => by
    obtain ⟨xs, n, hd⟩ := hd
    obtain ⟨o', es, ep, ho', hd', _⟩ := x
    rw [q, ho'] at e
    cases e
    rw [hd'] at hd; cases hd
  have lL : ∀ {b : Addr} {xs : Array Value} {h : Heap}, s.heap.IsList b xs → (∀ b o, b ≠ L' → s.heap.get? b = some o → h.get? b = some o) → h.IsList b xs := fun x k => let ⟨o, ho, hc, n, hd⟩ := x; ⟨o, k _ _ (neL hn ⟨_, _, hd⟩ ho) ho, hc, n, hd⟩
  refine For_list2 hh (name_L (m := m) (by rw [hlo]; exact hn) hk k0 (by decide) h0 ⟨SC, sv, rfl, hsc, fun i s' => RowsZ s L' m (rs ++ rowsN (ks.take i)) s', ?_, ?_, ?_, ?_⟩) hfs
  · intro h g
    exact ⟨h, s.toks, m, R, vs, n, rfl, hn.keeps g, h3, fun _ _ _ => rfl, g _ _ hR, (by simpa [rowsN] using TupsAt.upL ht (Nat.le_refl _) fun b o _ e => g b o e), fun b o _ e => g b o e, Nat.le_refl _⟩
  · rintro I i s₂ h' tk' ⟨h, tk, m', R', vs', n', rfl, z1, z2, z3, z4, z5, z6, z7⟩ hI hnI k hk'
    have nI : ∀ {b : Addr} {o : Obj}, o.cls ≠ .type "list_iterator" → h.get? b = some o → b ≠ I := fun q e => ItAt.ne hI e q
    refine ⟨h', tk', m', R', vs', n', rfl, z1.at' fun o e => k _ o ?_ e, z2, z3, k _ _ (nI (by simp) z4) z4, TupsAt.up z5 hk' fun b o hc e => k b o (nI (by rcases hc with q | q <;> rw [q] <;> simp) e) e, fun b o q e => k b o (fun r => by rw [r, hnI] at e; cases e) (z6 b o q e), Nat.le_trans z7 hk'⟩
    intro r
    rw [r, hnI] at hoL; cases hoL
  · rintro I i v s₂ hv ⟨h, tk, m', R', vs', n', rfl, z1, z2, z3, z4, z5, z6, z7⟩ hI hnI hl2
    obtain ⟨kv, tv, hkv, rfl⟩ := hks.get hv
    refine wpAny_assign_Name (wpAny_storeName_local k2 (by rw [hlo]; exact z1) ?_ (by rw [hk]; rfl))
    intro h5 n5 sb5
    rw [hlo] at n5 sb5
    have kb5 : ∀ b o, b ≠ L' → h.get? b = some o → h5.get? b = some o := fun b o q e => sb5.extBut b o q e
    have hvl : vs'.length ≤ 1000 := by
      have h1 := z5.length
      have h2 := ht.length
      rw [h1, List.length_append, rowsN, List.length_map, List.length_take]
      omega
    have k05 : ∀ b o, b ≠ L' → s.heap.get? b = some o → h5.get? b = some o := fun b o q e => kb5 b o q (z6 b o q e)
    refine wpAny_mono (rows_body (s := { s with heap := h5, toks := _ }) (T := T) (n := n') (rs := rs ++ rowsN (ks.take i)) hlo n5 hk k1 k2 k3 ((if_neg (by decide)).trans ((z3 _ (by decide) (by decide)).trans h1)) (if_pos rfl) ((if_neg (by decide)).trans z2) (lL hl k05) hs ?_ (kb5 _ _ (neL z1 ⟨_, _, rfl⟩ z4) z4) (TupsAt.upL z5 ?_ fun b o hc e => kb5 b o (neL z1 hc e) e) hvl) (fun f s₄ hf => ?_) fun _ _ q => q
    · exact Nat.le_trans hT (Nat.le_trans z7 (Nat.le_succ _))
    · exact Nat.le_succ _
    · obtain ⟨rfl, h6, tk6, R6, vs6, n6, rfl, y1, y2, y3, y4, y5⟩ := hf
      have e : rs ++ rowsN (ks.take i) ++ [(kv % 3, rowN kv)] = rs ++ rowsN (ks.take (i + 1)) := by
        rw [List.take_add_one, hkv, List.append_assoc]; simp [rowsN]
      rw [e] at y3
      have nIL : I ≠ L' := fun r => by rw [r, hoL] at hnI; cases hnI
      refine ⟨rfl, ⟨h6, tk6, _, R6, vs6, n6, rfl, y1, if_pos rfl, fun y q1 q2 => (if_neg q1).trans ((if_neg q2).trans (z3 y q1 q2)), y2, y3, fun b o q e => y4 b o q (k05 b o q e), Nat.le_trans z7 (Nat.le_trans (Nat.le_succ _) y5)⟩, ?_⟩
      intro b hb o e
      rcases List.mem_cons.mp hb with rfl | hb
      · exact y4 _ _ nIL (kb5 _ _ nIL e)
      · rw [List.mem_singleton.mp hb] at e ⊢
        obtain ⟨o', ho', _, nn, hd'⟩ := hsc
        have q1 := neL hn ⟨_, _, hd'⟩ ho'
        exact y4 _ _ q1 (kb5 _ _ q1 e)
  · intro s' z
    rw [hks.length, List.take_length] at z
    exact ⟨rfl, z⟩
end
end Mine
end
section
open PySem PySem.W PyProof.Rows PySem.Calls PySem.Spec
set_option maxRecDepth 100000
namespace Mine
section
variable {prog : Program} {w : World} {A : Around} {s : Shared} {env : Env}
def RItAt (h : Heap) (I : Addr) : Prop := ∃ o, h.get? I = some o ∧ o.cls = .type "range_iterator"
theorem RItAt.ne {h : Heap} {I a : Addr} {o : Obj} (x : RItAt h I) (e : h.get? a = some o) (hc : o.cls ≠ .type "range_iterator") : a ≠ I := fun q => by
  obtain ⟨o', ho', hc'⟩ := x
  rw [q, ho'] at e
  cases e
  exact hc hc'
/-- a for over a range -/
theorem For_range2 {Q : Flow → Shared → Prop} {x : Str} {px : Pos} {iter : Expr} {body : List Stmt} {pos : Pos} (hh : A.handled = none)
    (h : wpAny (model prog w) A (eval iter env) (fun xv s₁ => ∃ (r : Addr) (b : Int) (n : Nat) (t u v : Tok), xv = .ref r ∧ IsRange s₁.heap r 0 b 1 t u v ∧ b = (n : Int) ∧ n ≤ 1000 ∧ ∃ Z : Nat → Shared → Prop,
      (∀ h, Grow s₁.heap h → Z 0 { s₁ with heap := h }) ∧
      (∀ I i s₂ h' tk', Z i s₂ → RItAt s₂.heap I → s₁.heap.get? I = none → (∀ b o, b ≠ I → s₂.heap.get? b = some o → h'.get? b = some o) → s₂.toks ≤ tk' → Z i { s₂ with heap := h', toks := tk' }) ∧
      (∀ I i t s₂, i < n → Z i s₂ → RItAt s₂.heap I → s₁.heap.get? I = none → wpAny (model prog w) A (assign (.Name x px) env (.int i t)) (fun _ s₃ => wpAny (model prog w) A (execs body env) (fun f s₄ => f = .next ∧ Z (i + 1) s₄ ∧ ∀ o, s₂.heap.get? I = some o → s₄.heap.get? I = some o) Never s₃) Never s₂) ∧
      (∀ s', Z n s' → Q .next s')) Never s)
    (hs : ∀ x, foldedSetIterable iter env x = pure x) :
    wpAny (model prog w) A (exec (.For (.Name x px) iter body [] pos) env) Q Never s := by
  refine wpAny_For (wpAny_mono h (fun xv s₁ h₁ => ?_) fun _ _ q => q) hs
  obtain ⟨r, b, n, t, u, v, rfl, hr, rfl, hn, Z, z0, stab, turn, done⟩ := h₁
  have hI : s₁.heap.get? s₁.heap.objs.size = none := Heap.get?_none_of_le (Nat.le_refl _)
  refine wpAny_pyIter_range hr (small_one (by decide) (by decide) (by omega) (by omega)) ?_
  have e : Builtin.Range.rangeSize 0 (n : Int) 1 = (n : Int) := by rw [rangeSize_one]; split <;> omega
  rw [e]
  have W := Walks.range (prog := prog) (w := w) hh s₁.heap.objs.size 0 1 n
  refine for_walk2 W Z ?_ (z0 _ Grow.push) (fun i s₂ h' tk' z st k t => stab _ i s₂ h' tk' z ⟨_, st, rfl⟩ hI (fun b o q e => k b o (fun r => q (List.mem_singleton.mp r)) e) t)
    (fun i v s₂ hi hv z st => ?_) (fun s' z => done s' z)
  · have q := Heap.get?_push_size (h := s₁.heap) (o := { cls := .type "range_iterator", data := .fields #[rawInt 0, rawInt n, rawInt 1] }) (by rfl)
    simpa [IsRangeIter] using q
  · obtain ⟨tv, rfl⟩ := hv
    have ei : (0 : Int) + (i : Int) * 1 = (i : Int) := by omega
    rw [ei]
    refine (show wpAny _ _ (pure ()) _ _ _ from wpAny_pure ?_)
    refine wpAny_mono (turn _ i tv s₂ hi z ⟨_, st, rfl⟩ hI) (fun _ s₃ h₃ => wpAny_mono h₃ (fun f s₄ h₄ => ⟨h₄.1, h₄.2.1, fun b hb o e => ?_⟩) fun _ _ q => q) fun _ _ q => q
    rw [List.mem_singleton.mp hb] at e ⊢
    exact h₄.2.2 o e
theorem ListComp_range {E : Value → Shared → Prop} {elt iter : Expr} {x : Str} {px : Pos} {ifs : List Expr} {scope : Scope} {cl : List (Str × Addr)} {pos : Pos} {Z : (Addr → Prop) → List Value → List Value → Shared → Prop} {Q : Value → Shared → Prop} (hclos : closureFor scope env = pure cl) (hcell : ∀ y ∈ scope.names, y.2 ≠ .cell) (hkind : scope.kind = .function)
    (hnames : ∀ y ∈ scope.names, y.2 = .local → scope.names.lookup y.1 = some .local) (hx : scope.names.lookup x = some .local) (hh : A.handled = none) (hs : ∀ x, foldedSetIterable iter env x = pure x)
    (h : wpAny (model prog w) A (eval iter env) (fun xv s₁ => ∃ (r : Addr) (b : Int) (n : Nat) (t u v : Tok), xv = .ref r ∧ IsRange s₁.heap r 1 b 1 t u v ∧ b = (n : Int) + 1 ∧ n ≤ 1000 ∧ (∃ o, s₁.heap.get? env.locals = some o) ∧ CompOK prog w A env scope cl x ifs elt (fun i v => ∃ t, v = .int ((i + 1 : Nat) : Int) t) Z s₁ ∧
      (∀ D h' tk ys us N j, s₁.heap.get? D = none → h'.get? D = some { cls := .type "list", data := .seq (List.toArray ys) j } → us.length = n → ys.length ≤ n → Z N us ys { s₁ with heap := h', toks := tk } → (∀ b o, s₁.heap.get? b = some o → b ≠ env.locals → N b) → ¬ N D → Grow s₁.heap h' → s₁.toks ≤ tk →
        Q (.ref D) { s₁ with heap := h', toks := tk })) E s) :
    wpAny (model prog w) A (eval (.ListComp elt [⟨.Name x px, iter, ifs, 0⟩] scope pos) env) Q E s := by
  rw [eval_ListComp]
  refine wpAny_comprehension_free (use := none) rfl hs hclos hkind hnames (wpAny_mono h (fun xv s₁ h₁ => ?_) fun _ _ e => e)
  obtain ⟨r, b, n, t, u, v, rfl, hr, rfl, hn, hL, ok, hQ⟩ := h₁
  refine wpAny_pyIter_range hr (small_one (by decide) (by decide) (by omega) (by omega)) ?_
  have e : Builtin.Range.rangeSize 1 ((n : Int) + 1) 1 = (n : Int) := by rw [rangeSize_one]; split <;> omega
  rw [e]
  have W0 := Walks.range (prog := prog) (w := w) hh s₁.heap.objs.size 1 1 n
  have W : Walks prog w A s₁.heap.objs.size [s₁.heap.objs.size] [s₁.heap.objs.size] n (fun i v => ∃ t, v = .int ((i + 1 : Nat) : Int) t) (fun i h => IsRangeIter h s₁.heap.objs.size (1 + (i : Nat) * 1) ((n : Int) - (i : Nat)) 1) := by
    have : (fun (i : Nat) (v : Value) => ∃ t, v = Value.int ((i + 1 : Nat) : Int) t) = fun i v => ∃ t, v = .int (1 + (i : Int) * 1) t := by
      funext i v
      have : ((i + 1 : Nat) : Int) = 1 + (i : Int) * 1 := by omega
      rw [this]
    rw [this]; exact W0
  have sl0 := sizeLine_eq
  refine comp_block (s₁ := s₁) (RR := fun acc C => compPost (model prog w) A E none Q acc C) W (by omega) (fun i h st b hb => ?_) hcell hkind hx ?_ (fun b hb => ?_) (fun b hb => ?_) ⟨_, _, rfl⟩ (fun b o e => Heap.get?_push_of_some _ e) (Nat.le_refl _) (by rw [Heap.size_push]; exact Nat.le_succ _) hL ok ?_
  · rw [List.mem_singleton.mp hb]; exact ⟨_, st⟩
  · have q := Heap.get?_push_size (h := s₁.heap) (o := { cls := .type "range_iterator", data := .fields #[rawInt 1, rawInt n, rawInt 1] }) (by rfl)
    simpa [IsRangeIter] using q
  · rw [List.mem_singleton.mp hb]
    show _ < _
    rw [Heap.size_push]; exact Nat.lt_succ_self _
  · rw [List.mem_singleton.mp hb]; exact Heap.get?_none_of_le (Nat.le_refl _)
  · intro D C h' tk m' ys us N j hD hC hDC hn hpl hlen hyl hP hz hN hNC hND hNL hg htk
    refine ⟨m', hn, fun h'' hs'' => hQ D h'' tk ys us N j hD (hs''.extBut _ _ hDC hpl) hlen hyl (ok.stab N us ys { s₁ with heap := h', toks := tk } h'' tk hz (fun b o hb e => hs''.extBut b o (fun q => hNC (q ▸ hb)) e) (Nat.le_refl _)) hN hND (fun b o e => hs''.extBut b o (fun q => by rw [q, hC] at e; cases e) (hg b o e)) htk⟩
end
end Mine
end
section
open PySem PySem.W PyProof.Rows PySem.Calls PySem.Spec
set_option maxRecDepth 100000
namespace Mine
inductive RowsT (T : Nat) (N : Addr → Prop) (h : Heap) : List Value → List (List Str) → Prop
  | nil : RowsT T N h [] []
  | cons {a : Addr} {n : Nat} {rv : List Value} {row : List Str} {vs : List Value} {rs : List (List Str)} : N a → h.get? a = some (lst rv n) → StrsT T rv row → RowsT T N h vs rs → RowsT T N h (.ref a :: vs) (row :: rs)
theorem RowsT.up {T T' : Nat} {N N' : Addr → Prop} {h h' : Heap} {vs : List Value} {rs : List (List Str)} (x : RowsT T N h vs rs) (hT : T ≤ T') (k : ∀ b vs n, N b → h.get? b = some (lst vs n) → N' b ∧ h'.get? b = some (lst vs n)) : RowsT T' N' h' vs rs := by
  induction x with
  | nil => exact .nil
  | cons a b c _ ih => exact .cons (k _ _ _ a b).1 (k _ _ _ a b).2 (c.up hT) ih
theorem RowsT.append {T : Nat} {N : Addr → Prop} {h : Heap} {vs ws : List Value} {rs qs : List (List Str)} (x : RowsT T N h vs rs) (y : RowsT T N h ws qs) : RowsT T N h (vs ++ ws) (rs ++ qs) := by
  induction x with
  | nil => exact y
  | cons a b c _ ih => exact .cons a b c ih
theorem RowsT.length {T : Nat} {N : Addr → Prop} {h : Heap} {vs : List Value} {rs : List (List Str)} (x : RowsT T N h vs rs) : vs.length = rs.length := by
  induction x with
  | nil => rfl
  | cons _ _ _ _ ih => simp [ih]
theorem RowsT.reads {T : Nat} {N : Addr → Prop} {h : Heap} {vs : List Value} {rs : List (List Str)} (x : RowsT T N h vs rs) : ∃ as, ReadsAll h vs (rs.map strsD) as := by
  induction x with
  | nil => exact ⟨_, .nil⟩
  | cons _ b c _ ih => exact readsAll_one (lst_reads b c.reads) ih
def prefs (row : List Str) (n : Nat) : List (List Str) := (List.range n).map fun i => row.take (i + 1)
def fresh (side : List (List Str)) (p : List Str) : Bool := !(side.map strsD).any fun y => PyData.eqv y (strsD p)
def addTo (side : List (List Str)) (row : List Str) : List (List Str) := side ++ (prefs row row.length).filter (fresh side)
theorem strs_lay {xs : List Str} (h : ∀ x ∈ xs, PyData.strOk x = true) : (strsD xs).canLay0 = true ∧ (strsD xs).depth ≤ 1 := by
  have h1 : ∀ ys : List Str, (∀ x ∈ ys, PyData.strOk x = true) → PyData.canLayAll0 (ys.map .str) = true ∧ PyData.depthAll (ys.map .str) = 0 := by
    intro ys
    induction ys with
    | nil => intro _; exact ⟨rfl, rfl⟩
    | cons y r ih =>
      intro hh
      obtain ⟨a, b⟩ := ih fun x hx => hh x (.tail _ hx)
      refine ⟨?_, ?_⟩
      · simp only [List.map_cons, PyData.canLayAll0, PyData.canLay0, a, hh y (.head _), Bool.and_self]
      · simp only [List.map_cons, PyData.depthAll, PyData.depth, b, Nat.max_self]
  obtain ⟨a, b⟩ := h1 xs h
  simp [strsD, PyData.canLay0, PyData.depth, a, b]
theorem rows_lay {rs : List (List Str)} (h : ∀ r ∈ rs, ∀ x ∈ r, PyData.strOk x = true) : PyData.canLayAll0 (rs.map strsD) = true ∧ PyData.depthAll (rs.map strsD) ≤ 1 := by
  induction rs with
  | nil => exact ⟨rfl, Nat.zero_le _⟩
  | cons r rs ih =>
    obtain ⟨a, b⟩ := ih fun q hq => h q (.tail _ hq)
    obtain ⟨c, d⟩ := strs_lay (h r (.head _))
    refine ⟨?_, ?_⟩
    · simp only [List.map_cons, PyData.canLayAll0, a, c, Bool.and_self]
    · simp only [List.map_cons, PyData.depthAll]
      omega
theorem pick_to {vs : List Value} (i : Nat) : slicePick vs.toArray none (some (i : Int)) none = (vs.take i).toArray := by
  rw [slicePick_plain]
  simp only [Option.elim, List.size_toArray, List.toList_toArray, List.drop_zero, Nat.sub_zero, clipAt_nat]
  rw [← List.take_eq_take_min]
section
variable {w : World} {A : Around} {s : Shared} {E : Value → Shared → Prop} {env : Env} {base : Heap} {mean : ExcName → Option Value} {mg mb : Str → Option Value} {Q : Value → Shared → Prop}
theorem call_T1 {x : Str} {p pos : Pos} {id : String} {e1 : Expr} (X : (Mine.hd.heap_39 w.params).In base) (T : Top0 mean mg mb base) (k : Grow base s.heap) (e : nsIn (Mine.hd.heap_39 w.params) mainGlobals x = some none) (hv : bootBuiltins x = some (.type id)) (hn : x ≠ "__name__")
    (hg : env.globals = mainGlobals) (hb : env.builtins = builtinsNs) (hk : env.scope.kind = .function) (hx : env.kindOf x = some .globalImplicit) (hd : (x == ("__debug__" : Str)) = false) (hs : starEach [e1] env = [(false, eval e1 env)])
    (h : wpAny (model prog0 w) A (eval e1 env) (fun v s₁ => wpAny (model prog0 w) A (call (.type id) [v]) Q E s₁) E s) : wpAny (model prog0 w) A (eval (.Call (.Name x p) [e1] [] pos) env) Q E s :=
  Call_Name1 (name_B X T k e hv hn hg hb hk hx hd (PySem.callWith_type rfl (evalArgs_plain (spliced_cons (wpAny_mono h (fun _ _ h₁ => spliced_nil h₁) fun _ _ q => q))))) hs
theorem call_T2 {x : Str} {p pos : Pos} {id : String} {e1 e2 : Expr} (X : (Mine.hd.heap_39 w.params).In base) (T : Top0 mean mg mb base) (k : Grow base s.heap) (e : nsIn (Mine.hd.heap_39 w.params) mainGlobals x = some none) (hv : bootBuiltins x = some (.type id)) (hn : x ≠ "__name__")
    (hg : env.globals = mainGlobals) (hb : env.builtins = builtinsNs) (hk : env.scope.kind = .function) (hx : env.kindOf x = some .globalImplicit) (hd : (x == ("__debug__" : Str)) = false) (hs : starEach [e1, e2] env = [(false, eval e1 env), (false, eval e2 env)])
    (h : wpAny (model prog0 w) A (eval e1 env) (fun v s₁ => wpAny (model prog0 w) A (eval e2 env) (fun v2 s₂ => wpAny (model prog0 w) A (call (.type id) [v, v2]) Q E s₂) E s₁) E s) : wpAny (model prog0 w) A (eval (.Call (.Name x p) [e1, e2] [] pos) env) Q E s :=
  Call_Name2 (name_B X T k e hv hn hg hb hk hx hd (PySem.callWith_type rfl (evalArgs_plain (spliced_cons (wpAny_mono h (fun _ _ h₁ => spliced_cons (wpAny_mono h₁ (fun _ _ h₂ => spliced_nil h₂) fun _ _ q => q)) fun _ _ q => q))))) hs
/-- sides[k] -/
theorem side_at {cs ck SD Sk : Addr} {k : Nat} {tk n : Nat} {sv : List Value} {p1 p2 p3 : Pos} (hk : env.scope.kind = .function) (k1 : env.kindOf "sides" = some .cell) (k2 : env.kindOf "k" = some .cell) (c1 : env.cells.lookup ("sides" : Str) = some cs) (c2 : env.cells.lookup ("k" : Str) = some ck)
    (h1 : s.heap.IsCell cs (some (.ref SD))) (h2 : s.heap.IsCell ck (some (.int (k : Int) tk))) (hS : s.heap.get? SD = some (lst sv n)) (hi : sv[k]? = some (.ref Sk)) (hz : sv.length ≤ 100) (h : Q (.ref Sk) s) :
    wpAny (model prog0 w) A (eval (.Subscript (.Name "sides" p1) (.Name "k" p2) p3) env) Q E s := by
  have hi' := (List.getElem?_eq_some_iff.mp hi).1
  refine wpAny_Subscript_Name (T := "list") list_getitem_lookup (name_C hk k1 (by decide) c1 h1 (name_C hk k2 (by decide) c2 h2 ⟨⟨_, hS, rfl⟩, ?_⟩))
  exact wpAny_getItem_list (items := sv.toArray) (x := .ref Sk) ⟨_, hS, rfl, _, rfl⟩ (by omega) (by omega) (by simpa using hi) h
/-- row[:i] -/
theorem pre_at {cr r : Addr} {rv : List Value} {i n ti : Nat} {m : Str → Option Value} {p1 p2 p3 p4 : Pos} (hk : env.scope.kind = .function) (k1 : env.kindOf "row" = some .cell) (k2 : env.kindOf "i" = some .local) (c1 : env.cells.lookup ("row" : Str) = some cr)
    (h1 : s.heap.IsCell cr (some (.ref r))) (hn : s.heap.Ns env.locals m) (hm : m "i" = some (.int (i : Int) ti)) (hr : s.heap.get? r = some (lst rv n)) (hz : rv.length ≤ 100)
    (h : ∀ h' D, Grow s.heap h' → s.heap.get? D = none → h'.get? D = some (lst (rv.take i) 0) → Q (.ref D) { s with heap := h' }) :
    wpAny (model prog0 w) A (eval (.Subscript (.Name "row" p1) (.Slice none (some (.Name "i" p2)) none p3) p4) env) Q E s := by
  refine sub_slice (name_C hk k1 (by decide) c1 h1 ?_)
  rw [evalPart_none]
  refine wpAny_pure ?_
  rw [evalPart_some]
  have sl0 := sizeLine_eq
  refine name_L (m := m) hn hk k2 (by decide) hm ⟨r, rv.toArray, none, some (i : Int), rfl, ⟨_, hr, rfl, _, rfl⟩, by simp; omega, .none, .int _ _, ?_⟩
  intro h' D g nD hD
  rw [pick_to] at hD
  exact h h' D g nD hD
end
end Mine
end
section
open PySem PySem.W PyProof.Rows PySem.Calls PySem.Spec
set_option maxRecDepth 100000
namespace Mine
theorem prefs_succ (row : List Str) (n : Nat) : prefs row (n + 1) = prefs row n ++ [row.take (n + 1)] := by
  simp [prefs, List.range_succ]
set_option maxHeartbeats 1000000 in
theorem ext_comp {w : World} {mean : ExcName → Option Value} {mg mb : Str → Option Value} {dp un : Nat} {gd : Option (List Code)} {base : Heap} {env env' : Env} {L L' : Addr} {hb : Heap} {m : Str → Option Value} {s : Shared} {Q : Value → Shared → Prop}
    {cs cr ck SD Sk r : Addr} {k tk n nk nr : Nat} {sv vk rv : List Value} {side : List (List Str)} {row : List Str} {sc : Scope} {cl : List (Str × Addr)} {a1 a2 a3 a4 b1 b2 b3 b4 c1 c2 c3 c4 c5 d1 d2 d3 d4 d5 d6 d7 d8 pos : Pos}
    (S : Sub w mean mg mb dp un gd base env L hb L') (hk' : env'.scope.kind = .function) (hgl : env'.globals = mainGlobals) (hbl : env'.builtins = builtinsNs) (hn : s.heap.Ns env'.locals m) (hb0 : Grow base s.heap)
    (h1 : s.heap.IsCell cs (some (.ref SD))) (h2 : s.heap.IsCell ck (some (.int (k : Int) tk))) (h3 : s.heap.IsCell cr (some (.ref r))) (hS : s.heap.get? SD = some (lst sv n)) (hi : sv[k]? = some (.ref Sk)) (hz : sv.length ≤ 100) (hSk : s.heap.get? Sk = some (lst vk nk)) (hvk : RowsT s.toks (fun _ => True) s.heap vk side)
    (hr : s.heap.get? r = some (lst rv nr)) (hrs : StrsT s.toks rv row) (hzr : rv.length ≤ 100) (hok : ∀ x ∈ row, PyData.strOk x = true) (hok' : ∀ q ∈ side, ∀ x ∈ q, PyData.strOk x = true)
    (k7 : env'.kindOf "len" = some .globalImplicit) (k8 : env'.kindOf "range" = some .globalImplicit) (k9 : env'.kindOf "row" = some .cell) (e3 : env'.cells.lookup ("row" : Str) = some cr)
    (hclos : closureFor sc env' = pure cl) (hcell : ∀ y ∈ sc.names, y.2 ≠ .cell) (hkind : sc.kind = .function) (hnames : ∀ y ∈ sc.names, y.2 = .local → sc.names.lookup y.1 = some .local) (hx : sc.names.lookup ("i" : Str) = some .local)
    (hci : ∀ C, (compEnvC sc cl C env').kindOf "i" = some .local) (hcr : ∀ C, (compEnvC sc cl C env').kindOf "row" = some .cell) (hcs : ∀ C, (compEnvC sc cl C env').kindOf "sides" = some .cell) (hck : ∀ C, (compEnvC sc cl C env').kindOf "k" = some .cell)
    (l1 : cl.lookup ("sides" : Str) = some cs) (l2 : cl.lookup ("k" : Str) = some ck) (l3 : cl.lookup ("row" : Str) = some cr)
    (hfs : ∀ x, foldedSetIterable (.Call (.Name "range" d1) [.Constant (.int 1) 0 d2, .BinOp (.Call (.Name "len" d3) [.Name "row" d4] [] d5) .Add (.Constant (.int 1) 0 d6) d7] [] d8) env' x = pure x)
    (nlen : nsIn (Mine.hd.heap_39 w.params) mainGlobals "len" = some none) (nrange : nsIn (Mine.hd.heap_39 w.params) mainGlobals "range" = some none) (blen : bootBuiltins "len" = some (.builtin "len")) (brange : bootBuiltins "range" = some (.type "range"))
    (ret : ∀ D h' tk' ys j, h'.get? D = some (lst ys j) → s.heap.get? D = none → RowsT tk' (fun b => b ≠ D ∧ s.heap.get? b = none) h' ys ((prefs row row.length).filter (fresh side)) → Grow s.heap h' → s.toks ≤ tk' → Q (.ref D) { s with heap := h', toks := tk' }) :
    wpAny (model prog0 w) ((mkA dp un gd env []).deeper env') (eval (.ListComp (.Subscript (.Name "row" a1) (.Slice none (some (.Name "i" a2)) none a3) a4) [⟨.Name "i" b1, .Call (.Name "range" d1) [.Constant (.int 1) 0 d2, .BinOp (.Call (.Name "len" d3) [.Name "row" d4] [] d5) .Add (.Constant (.int 1) 0 d6) d7] [] d8,
      [.Compare (.Subscript (.Name "row" b2) (.Slice none (some (.Name "i" b3)) none b4) c1) [.NotIn] [.Subscript (.Name "sides" c2) (.Name "k" c3) c4] c5], 0⟩] sc pos) env') Q Never s := by
  have hlen : rv.length = row.length := hrs.length
  have hside : vk.length = side.length := hvk.length
  refine ListComp_range (Z := fun N us ys s₂ => RowsT s₂.toks (fun b => N b ∧ s.heap.get? b = none) s₂.heap ys ((prefs row us.length).filter (fresh side))) hclos hcell hkind hnames hx rfl hfs ?_
  refine call_T2 S.X S.T hb0 nrange brange (by decide) hgl hbl hk' k8 (by decide) rfl (wpAny_Constant_int (wpAny_BinOp (call_B1 (s := { s with toks := s.toks + 1 }) S.X S.T hb0 nlen blen (by decide) hgl hbl hk' k7 (by decide) rfl (name_C hk' k9 (by decide) e3 h3 ?_))))
  refine call_len_list (items := rv.toArray) ⟨_, hr, rfl, _, rfl⟩ (by simp; omega) (wpAny_Constant_int (P.add_int (call_range_2 ?_)))
  dsimp only
  generalize hH : s.heap.push _ = H
  have gH : Grow s.heap H := by rw [← hH]; exact Grow.push
  have hRg : IsRange H s.heap.objs.size 1 ((rv.toArray.size : Int) + 1) 1 s.toks (s.toks + 1 + 1 + 1 + 1) (s.toks + 1 + 1 + 1 + 1 + 1) := by rw [← hH]; exact Heap.get?_push_size _ (by rfl)
  have nsH := hn.keeps gH
  refine ⟨_, _, rv.length, _, _, _, rfl, hRg, by simp, by omega, (let ⟨o, _, _, ho, _⟩ := nsH; ⟨o, ho⟩), ⟨fun N h tk hg ht => .nil, fun N us ys s₂ h' tk' hz hk ht => hz.up ht fun b vs n hb e => ⟨hb, hk _ _ hb.1 e⟩, ?_⟩, ?_⟩
  · intro N' C us v ys s₂ m₂ hv hZ hs₂ hn₂ hm₂ hg hN hN' htk hC
    obtain ⟨tv, rfl⟩ := hv
    have gg : Grow s.heap s₂.heap := gH.trans hg
    refine wpAny_tests_one (wpAny_isTrue_Compare1 ?_)
    refine pre_at (m := m₂) (i := us.length + 1) hkind (hcr C) (hci C) l3 (IsCell.up gg h3) hn₂ hm₂ (gg _ _ hr) hzr ?_
    intro h5 D5 g5 n5 hD5
    have gg5 := gg.trans g5
    refine side_at (s := { s₂ with heap := h5 }) hkind (hcs C) (hck C) l1 l2 (IsCell.up gg5 h1) (IsCell.up gg5 h2) (gg5 _ _ hS) hi hz ?_
    obtain ⟨as1, R1⟩ := lst_reads (gg5 _ _ hSk) (hvk.up (Nat.le_refl _) (N' := fun _ => True) (h' := h5) fun b vs n _ e => ⟨trivial, gg5 _ _ e⟩).reads
    obtain ⟨as2, R2⟩ := lst_reads hD5 (hrs.take (us.length + 1)).reads
    have okp : ∀ x ∈ row.take (us.length + 1), PyData.strOk x = true := fun x hx => hok x (List.mem_of_mem_take hx)
    obtain ⟨la, lb⟩ := rows_lay hok'
    obtain ⟨lc, ld⟩ := strs_lay okp
    refine SeqAt.notIn_list_reads (s := { s₂ with heap := h5 }) (xs := side.map strsD) (d := strsD (row.take (us.length + 1))) R1 R2 la lc ?_ ?_
    · have := S.hu
      have : min (PyData.depthAll (side.map strsD)) (strsD (row.take (us.length + 1))).depth ≤ 1 := by omega
      show un + 3 + 1 + min (PyData.depthAll (side.map strsD)) (strsD (row.take (us.length + 1))).depth < cLine
      omega
    refine wpAny_truthy_bool ⟨⟨h5, _, rfl, g5⟩, ?_⟩
    show if fresh side (row.take (us.length + 1)) = true then _ else _
    have et : ∀ v : Value, (prefs row (us ++ [v]).length).filter (fresh side) = (prefs row us.length).filter (fresh side) ++ [row.take (us.length + 1)].filter (fresh side) := fun v => by
      rw [List.length_append, List.length_singleton, prefs_succ, List.filter_append]
    have kept : ∀ {h' : Heap} {tk' : Nat}, Grow s₂.heap h' → s₂.toks ≤ tk' → RowsT tk' (fun b => N' b ∧ s.heap.get? b = none) h' ys ((prefs row us.length).filter (fresh side)) := fun g ht => hZ.up ht fun b vs n hb e => ⟨hb, g _ _ e⟩
    cases hb : fresh side (row.take (us.length + 1)) with
    | false =>
      rw [if_neg (by decide)]
      show RowsT _ _ _ _ _
      rw [et]
      simpa [hb] using kept g5 (Nat.le_refl _)
    | true =>
      rw [if_pos rfl]
      refine pre_at (s := { s₂ with heap := h5 }) (m := m₂) (i := us.length + 1) hkind (hcr C) (hci C) l3 (IsCell.up gg5 h3) (hn₂.keeps g5) hm₂ (gg5 _ _ hr) hzr ?_
      intro h6 D6 g6 n6 hD6
      refine ⟨⟨h6, _, rfl, g6⟩, ?_⟩
      show RowsT _ _ _ _ _
      rw [et]
      have g56 : Grow s₂.heap h6 := Grow.trans g5 g6
      have n6s : s₂.heap.get? D6 = none := Grow.none g5 n6
      have := RowsT.append (kept g56 (Nat.le_refl _)) (.cons (T := s₂.toks) (N := fun b => N' b ∧ s.heap.get? b = none) ⟨hN _ n6s, Grow.none gg n6s⟩ hD6 ((hrs.take (us.length + 1)).up ?_) .nil)
      · simpa [hb] using this
      · have : s.toks + 1 + 1 + 1 + 1 + 1 + 1 ≤ s₂.toks := htk
        omega
  · intro D h' tk' ys us N' j hD hpl' hul hyl hZ hN hND hg htk
    refine ret D h' tk' ys j hpl' (Grow.none gH hD) ?_ (gH.trans hg) (by have : s.toks + 1 + 1 + 1 + 1 + 1 + 1 ≤ tk' := htk; omega)
    have := hZ
    rw [hul, hlen] at this
    exact this.up (Nat.le_refl _) fun b vs n hb e => ⟨⟨fun q => hND (q ▸ hb.1), hb.2⟩, e⟩
/-- behind one side's turn -/
structure SideEnd (s : Shared) (Sk : Addr) (N : Addr → Prop) (side' : List (List Str)) (s' : Shared) : Prop where
  at_ : ∃ h' tk' vk' nk', s' = { s with heap := h', toks := tk' } ∧ h'.get? Sk = some (lst vk' nk') ∧ RowsT tk' N h' vk' side' ∧ (∀ b o, b ≠ Sk → s.heap.get? b = some o → h'.get? b = some o) ∧ s.toks ≤ tk'
set_option maxHeartbeats 1000000 in
theorem side_step {w : World} {mean : ExcName → Option Value} {mg mb : Str → Option Value} {dp un : Nat} {gd : Option (List Code)} {base : Heap} {env env' : Env} {L L' : Addr} {hb : Heap} {m : Str → Option Value} {s : Shared}
    {cs cr ck SD Sk r : Addr} {k tk tw n nk nr : Nat} {wh : Int} {sv vk rv : List Value} {side : List (List Str)} {row : List Str} {sc : Scope} {cl : List (Str × Addr)} {N : Addr → Prop} {a1 a2 a3 a4 b1 b2 b3 b4 c1 c2 c3 c4 c5 d1 d2 d3 d4 d5 d6 d7 d8 f1 f2 f3 f4 f5 g1 g2 g3 g4 g5 g6 ip pos : Pos}
    (S : Sub w mean mg mb dp un gd base env L hb L') (hk' : env'.scope.kind = .function) (hgl : env'.globals = mainGlobals) (hbl : env'.builtins = builtinsNs) (hlo : env'.locals = L') (hn : s.heap.Ns L' m) (hb0 : Grow base s.heap) (hw : m "which" = some (.int wh tw))
    (h1 : s.heap.IsCell cs (some (.ref SD))) (h2 : s.heap.IsCell ck (some (.int (k : Int) tk))) (h3 : s.heap.IsCell cr (some (.ref r))) (hS : s.heap.get? SD = some (lst sv n)) (hi : sv[k]? = some (.ref Sk)) (hz : sv.length ≤ 100) (hSk : s.heap.get? Sk = some (lst vk nk)) (hvk : RowsT s.toks N s.heap vk side)
    (hNS : ¬ N Sk) (hNn : ∀ b, s.heap.get? b = none → N b) (hzk : vk.length ≤ 100)
    (hr : s.heap.get? r = some (lst rv nr)) (hrs : StrsT s.toks rv row) (hzr : rv.length ≤ 100) (hok : ∀ x ∈ row, PyData.strOk x = true) (hok' : ∀ q ∈ side, ∀ x ∈ q, PyData.strOk x = true)
    (k0 : env'.kindOf "which" = some .local) (k1 : env'.kindOf "sides" = some .cell) (k2 : env'.kindOf "k" = some .cell) (k7 : env'.kindOf "len" = some .globalImplicit) (k8 : env'.kindOf "range" = some .globalImplicit) (k9 : env'.kindOf "row" = some .cell) (e1 : env'.cells.lookup ("sides" : Str) = some cs) (e2 : env'.cells.lookup ("k" : Str) = some ck) (e3 : env'.cells.lookup ("row" : Str) = some cr)
    (hclos : closureFor sc env' = pure cl) (hcell : ∀ y ∈ sc.names, y.2 ≠ .cell) (hkind : sc.kind = .function) (hnames : ∀ y ∈ sc.names, y.2 = .local → sc.names.lookup y.1 = some .local) (hx : sc.names.lookup ("i" : Str) = some .local)
    (hci : ∀ C, (compEnvC sc cl C env').kindOf "i" = some .local) (hcr : ∀ C, (compEnvC sc cl C env').kindOf "row" = some .cell) (hcs : ∀ C, (compEnvC sc cl C env').kindOf "sides" = some .cell) (hck : ∀ C, (compEnvC sc cl C env').kindOf "k" = some .cell)
    (l1 : cl.lookup ("sides" : Str) = some cs) (l2 : cl.lookup ("k" : Str) = some ck) (l3 : cl.lookup ("row" : Str) = some cr)
    (hfs : ∀ x, foldedSetIterable (.Call (.Name "range" d1) [.Constant (.int 1) 0 d2, .BinOp (.Call (.Name "len" d3) [.Name "row" d4] [] d5) .Add (.Constant (.int 1) 0 d6) d7] [] d8) env' x = pure x)
    (hbase : attributeBase (.Subscript (.Name "sides" g1) (.Name "k" g2) g3) "extend" env' (eval (.Subscript (.Name "sides" g1) (.Name "k" g2) g3) env') = eval (.Subscript (.Name "sides" g1) (.Name "k" g2) g3) env') (hline : (g4.endLine == g5.line) = true) (hint : interactive env' = false)
    (nlen : nsIn (Mine.hd.heap_39 w.params) mainGlobals "len" = some none) (nrange : nsIn (Mine.hd.heap_39 w.params) mainGlobals "range" = some none) (blen : bootBuiltins "len" = some (.builtin "len")) (brange : bootBuiltins "range" = some (.type "range")) :
    wpAny (model prog0 w) ((mkA dp un gd env []).deeper env') (execs [.If (.Compare (.Name "which" f1) [.NotEq] [.BinOp (.Constant (.int 1) 0 f2) .Sub (.Name "k" f3) f4] f5)
      [.Expr (.Call (.Attribute (.Subscript (.Name "sides" g1) (.Name "k" g2) g3) "extend" g4) [.ListComp (.Subscript (.Name "row" a1) (.Slice none (some (.Name "i" a2)) none a3) a4) [⟨.Name "i" b1, .Call (.Name "range" d1) [.Constant (.int 1) 0 d2, .BinOp (.Call (.Name "len" d3) [.Name "row" d4] [] d5) .Add (.Constant (.int 1) 0 d6) d7] [] d8,
      [.Compare (.Subscript (.Name "row" b2) (.Slice none (some (.Name "i" b3)) none b4) c1) [.NotIn] [.Subscript (.Name "sides" c2) (.Name "k" c3) c4] c5], 0⟩] sc pos] [] g5) g6] [] ip] env')
      (fun f s' => f = .next ∧ SideEnd s Sk N (if wh != 1 - (k : Int) then addTo side row else side) s') Never s := by
  have sl0 := sizeLine_eq
  have hlen : rv.length = row.length := hrs.length
  refine wpAny_execs_cons (wpAny_If (wpAny_isTrue_Compare1 (name_L (m := m) (by rw [hlo]; exact hn) hk' k0 (by decide) hw (wpAny_BinOp (wpAny_Constant_int (name_C (s := { s with toks := s.toks + 1 }) hk' k2 (by decide) e2 h2 (P.sub_int (P.ne_int (wpAny_truthy_bool ?_)))))))))
  cases hwk : (wh != 1 - (k : Int)) with
  | false =>
    simp only [Bool.false_eq_true, if_false]
    refine wpAny_execs_nil (wpAny_execs_nil ⟨rfl, ⟨s.heap, _, vk, nk, rfl, hSk, hvk.up ?_ fun b vs n hb e => ⟨hb, e⟩, fun b o _ e => e, ?_⟩⟩)
    · show s.toks ≤ s.toks + 1 + 1
      omega
    · show s.toks ≤ s.toks + 1 + 1
      omega
  | true =>
    simp only [if_true]
    have tt : s.toks ≤ s.toks + 1 + 1 := by omega
    refine wpAny_execs_cons (wpAny_Expr ?_ hint rfl)
    refine Call_method1 hbase rfl hline (side_at (s := { s with toks := s.toks + 1 + 1 }) hk' k1 k2 e1 e2 h1 h2 hS hi hz ?_)
    refine ⟨"list", _, F.plainAttrs_list, F.slot_list_extend, F.type_list_extend, ⟨_, hSk, rfl⟩, (fun a e => by cases e; exact ⟨_, hSk, rfl⟩), P.extend_list ?_⟩
    refine ext_comp (s := { s with toks := s.toks + 1 + 1 }) S hk' hgl hbl (by rw [hlo]; exact hn) hb0 h1 h2 h3 hS hi hz hSk (hvk.up tt fun b vs n _ e => ⟨trivial, e⟩) hr (hrs.up tt) hzr hok hok' k7 k8 k9 e3 hclos hcell hkind hnames hx hci hcr hcs hck l1 l2 l3 hfs nlen nrange blen brange ?_
    intro D h' tk' ys j hD nD hys g htk
    dsimp only at nD hys g htk
    have hyl : ys.length ≤ 100 := by
      rw [hys.length]
      refine Nat.le_trans (List.length_filter_le _ _) ?_
      simp [prefs]; omega
    have hSk' := g _ _ hSk
    refine ⟨D, vk.toArray, ys.toArray, nk, j, by simp; omega, by simp; omega, ?_, rfl, hSk', hD, ?_⟩
    · have : Builtin.List.listTooLong (vk.toArray.size + ys.toArray.size) = false := by
        unfold Builtin.List.listTooLong
        simp only [List.size_toArray, decide_eq_false_iff_not]
        omega
      rw [this]; simp
    have upd : ∀ b o, b ≠ Sk → h'.get? b = some o → (h'.update Sk (Obj.mapSeq fun xs => xs ++ ys.toArray)).get? b = some o := fun b o q e => (Heap.get?_update_other h' _ (Ne.symm q)).trans e
    obtain ⟨n', hDn⟩ : ∃ n', (h'.update Sk (Obj.mapSeq fun xs => xs ++ ys.toArray)).get? Sk = some (lst (vk ++ ys) n') := by
      have q := IsL.update (items := vk.toArray) (n := nk) hSk' (fun xs => xs ++ ys.toArray)
      have e : vk.toArray ++ ys.toArray = (vk ++ ys).toArray := by simp
      dsimp only [IsL] at q
      rw [e] at q
      exact ⟨_, q⟩
    show wpAny _ _ (execs [] env') _ _ _
    refine wpAny_execs_nil (wpAny_execs_nil ⟨rfl, ⟨_, tk', vk ++ ys, n', rfl, hDn, ?_, fun b o q e => upd b o q (g b o e), Nat.le_trans tt htk⟩⟩)
    refine RowsT.append (hvk.up (Nat.le_trans tt htk) fun b vs n hb e => ⟨hb, upd _ _ (fun q => hNS (q ▸ hb)) (g _ _ e)⟩) (hys.up (Nat.le_refl _) fun b vs n hb e => ⟨hNn b hb.2, upd _ _ (fun q => by rw [q] at hb; exact nomatch (hSk.symm.trans hb.2)) e⟩)
end Mine
end
section
open PySem PySem.W PyProof.Rows PySem.Calls PySem.Spec
set_option maxRecDepth 100000
namespace Mine
abbrev Two := List (List Str) × List (List Str)
def upd1 (wh : Int) (row : List Str) (k : Int) (side : List (List Str)) : List (List Str) := if wh != 1 - k then addTo side row else side
def updK (wh : Int) (row : List Str) (i : Nat) (sd : Two) : Two := (if i = 0 then sd.1 else upd1 wh row 0 sd.1, if i ≤ 1 then sd.2 else upd1 wh row 1 sd.2)
/-- the two sides -/
structure SidesAt (T : Nat) (S0 S1 : Addr) (h : Heap) (sd : Two) : Prop where
  ne : S0 ≠ S1
  left : ∃ v n, h.get? S0 = some (lst v n) ∧ RowsT T (fun b => b ≠ S0 ∧ b ≠ S1) h v sd.1
  right : ∃ v n, h.get? S1 = some (lst v n) ∧ RowsT T (fun b => b ≠ S0 ∧ b ≠ S1) h v sd.2
theorem SidesAt.up {T T' : Nat} {S0 S1 : Addr} {h h' : Heap} {sd : Two} (x : SidesAt T S0 S1 h sd) (hT : T ≤ T') (k : ∀ b vs n, h.get? b = some (lst vs n) → h'.get? b = some (lst vs n)) : SidesAt T' S0 S1 h' sd := by
  obtain ⟨ne, ⟨v, n, a, b⟩, ⟨v', n', c, d⟩⟩ := x
  exact ⟨ne, ⟨v, n, k _ _ _ a, b.up hT fun b vs n hb e => ⟨hb, k _ _ _ e⟩⟩, ⟨v', n', k _ _ _ c, d.up hT fun b vs n hb e => ⟨hb, k _ _ _ e⟩⟩⟩
/-- what one turn of the inner loop does -/
def StepOK (M : Model) (A : Around) (env' : Env) (body : List Stmt) (base : Heap) (L' cs ck cr SD S0 S1 r : Addr) (sv : List Value) (wh : Int) (row : List Str) (m : Str → Option Value) : Prop :=
  ∀ (s : Shared) (k Sk tk n nk nr : Nat) (vk rv : List Value) (side : List (List Str)), s.heap.Ns L' m → Grow base s.heap → s.heap.IsCell cs (some (.ref SD)) → s.heap.IsCell ck (some (.int (k : Int) tk)) → s.heap.IsCell cr (some (.ref r)) → s.heap.get? SD = some (lst sv n) → sv[k]? = some (.ref Sk) →
    s.heap.get? Sk = some (lst vk nk) → RowsT s.toks (fun b => b ≠ S0 ∧ b ≠ S1) s.heap vk side → (Sk = S0 ∨ Sk = S1) → (∃ o, s.heap.get? S0 = some o) → (∃ o, s.heap.get? S1 = some o) → vk.length ≤ 100 → s.heap.get? r = some (lst rv nr) → StrsT s.toks rv row → (∀ q ∈ side, ∀ x ∈ q, PyData.strOk x = true) →
    wpAny M A (execs body env') (fun f s' => f = .next ∧ SideEnd s Sk (fun b => b ≠ S0 ∧ b ≠ S1) (upd1 wh row k side) s') Never s
structure InnerZ (s₁ : Shared) (L' ck S0 S1 : Addr) (m : Str → Option Value) (sd : Two) (s' : Shared) : Prop where
  at_ : ∃ h tk, s' = { s₁ with heap := h, toks := tk } ∧ h.Ns L' m ∧ (∃ v, h.IsCell ck v) ∧ SidesAt tk S0 S1 h sd ∧ (∀ b o, b ≠ S0 → b ≠ S1 → b ≠ ck → s₁.heap.get? b = some o → h.get? b = some o) ∧ s₁.toks ≤ tk
set_option maxHeartbeats 1000000 in
theorem inner_loop {w : World} {mean : ExcName → Option Value} {mg mb : Str → Option Value} {dp un : Nat} {gd : Option (List Code)} {base : Heap} {env env' : Env} {L L' : Addr} {hb : Heap} {m : Str → Option Value} {s : Shared}
    {cs cr ck SD S0 S1 r : Addr} {n nr : Nat} {wh : Int} {rv : List Value} {sd : Two} {row : List Str} {v₀ : Option Value} {body : List Stmt} {p1 p2 p3 p4 p5 : Pos}
    (S : Sub w mean mg mb dp un gd base env L hb L') (hk' : env'.scope.kind = .function) (hgl : env'.globals = mainGlobals) (hbl : env'.builtins = builtinsNs) (hn : s.heap.Ns L' m) (hb0 : Grow base s.heap)
    (h1 : s.heap.IsCell cs (some (.ref SD))) (h2 : s.heap.IsCell ck v₀) (h3 : s.heap.IsCell cr (some (.ref r))) (hS : s.heap.get? SD = some (lst [.ref S0, .ref S1] n)) (hsd : SidesAt s.toks S0 S1 s.heap sd)
    (hbS : base.get? S0 = none) (hbS' : base.get? S1 = none) (hbc : base.get? ck = none) (nSD : SD ≠ S0 ∧ SD ≠ S1) (nr0 : r ≠ S0 ∧ r ≠ S1) (ncs : cs ≠ ck) (ncr : cr ≠ ck)
    (hr : s.heap.get? r = some (lst rv nr)) (hrs : StrsT s.toks rv row) (hz0 : sd.1.length ≤ 90) (hz1 : sd.2.length ≤ 90) (hok0 : ∀ q ∈ sd.1, ∀ x ∈ q, PyData.strOk x = true) (hok1 : ∀ q ∈ sd.2, ∀ x ∈ q, PyData.strOk x = true)
    (k2 : env'.kindOf "k" = some .cell) (k8 : env'.kindOf "range" = some .globalImplicit) (e2 : env'.cells.lookup ("k" : Str) = some ck)
    (hfs : ∀ x, foldedSetIterable (.Call (.Name "range" p1) [.Constant (.int 2) 0 p2] [] p3) env' x = pure x)
    (nrange : nsIn (Mine.hd.heap_39 w.params) mainGlobals "range" = some none) (brange : bootBuiltins "range" = some (.type "range"))
    (ok : StepOK (model prog0 w) ((mkA dp un gd env []).deeper env') env' body base L' cs ck cr SD S0 S1 r [.ref S0, .ref S1] wh row m) :
    wpAny (model prog0 w) ((mkA dp un gd env []).deeper env') (exec (.For (.Name "k" p4) (.Call (.Name "range" p1) [.Constant (.int 2) 0 p2] [] p3) body [] p5) env') (Ends (InnerZ s L' ck S0 S1 m (upd1 wh row 0 sd.1, upd1 wh row 1 sd.2))) Never s := by
  have cellNe : ∀ {h : Heap} {c a : Addr} {v : Option Value} {vs : List Value} {n : Nat}, h.IsCell c v → h.get? a = some (lst vs n) → c ≠ a := fun x e q => by
    obtain ⟨o, ho, hd⟩ := x
    rw [q, e] at ho
    cases ho
    cases hd
  refine For_range2 rfl ?_ hfs
  refine call_T1 S.X S.T hb0 nrange brange (by decide) hgl hbl hk' k8 (by decide) rfl (wpAny_Constant_int (call_range_1 ?_))
  obtain ⟨oc, hoc, hdc⟩ := id h2
  obtain ⟨neS, ⟨v0, n0, a0, b0⟩, ⟨v1, n1, a1, b1⟩⟩ := id hsd
  obtain ⟨oL, es, ep, hoL, hdL, _⟩ := id hn
  have nLS : ∀ {a : Addr} {vs : List Value} {n : Nat}, s.heap.get? a = some (lst vs n) → L' ≠ a := fun e q => ne_dict e hoL ⟨es, ep, hdL⟩ q.symm
  have nLc : L' ≠ ck := fun q => by
    rw [q, hoc] at hoL
    cases hoL
    rw [hdc] at hdL; cases hdL
  have ncL : ck ≠ L' := Ne.symm nLc
  refine ⟨_, 2, 2, _, _, _, rfl, Heap.get?_push_size _ (by rfl), rfl, by decide, fun i s' => InnerZ s L' ck S0 S1 m (updK wh row i sd) s', ?_, ?_, ?_, ?_⟩
  · intro h g
    have g' : Grow s.heap h := Grow.trans Grow.push g
    exact ⟨h, _, rfl, hn.keeps g', ⟨v₀, IsCell.up g' h2⟩, hsd.up (by show s.toks ≤ s.toks + 1 + 1 + 1; omega) fun b vs n e => g' _ _ e, fun b o _ _ _ e => g' _ _ e, by show s.toks ≤ s.toks + 1 + 1 + 1; omega⟩
  · rintro I i s₂ h' tk' ⟨h, tk, rfl, z1, ⟨v, z2⟩, z3, z4, z5⟩ hI hnI k ht
    dsimp only at hnI
    have hnI' : s.heap.get? I = none := Grow.none Grow.push hnI
    have nI : ∀ {b : Addr} {o : Obj}, s.heap.get? b = some o → b ≠ I := fun e q => by rw [q, hnI'] at e; cases e
    refine ⟨h', tk', rfl, z1.at' fun o e => k _ o (nI hoL) e, ⟨v, ?_⟩, z3.up ht fun b vs n e => k _ _ (RItAt.ne hI e (by simp)) e, fun b o q1 q2 q3 e => k b o (nI e) (z4 b o q1 q2 q3 e), Nat.le_trans z5 ht⟩
    obtain ⟨o, ho, hd⟩ := z2
    exact ⟨o, k _ _ (nI hoc) ho, hd⟩
  · rintro I i t s₂ hi ⟨h, tk, rfl, z1, ⟨v, z2⟩, z3, z4, z5⟩ hI hnI
    dsimp only at hI hnI
    have hnI' : s.heap.get? I = none := Grow.none Grow.push hnI
    have nI : ∀ {b : Addr} {o : Obj}, s.heap.get? b = some o → I ≠ b := fun e q => by rw [← q, hnI'] at e; cases e
    refine wpAny_assign_Name (wpAny_storeName_cell hk' k2 e2 z2 ?_)
    intro h5 c5 sb5
    dsimp only at sb5 c5
    have kb5 : ∀ b o, b ≠ ck → h.get? b = some o → h5.get? b = some o := fun b o q e => sb5.extBut b o q e
    have nl5 : ∀ {a : Addr} {vs : List Value} {n : Nat}, h.get? a = some (lst vs n) → h5.get? a = some (lst vs n) := fun e => kb5 _ _ (Ne.symm (cellNe z2 e)) e
    have sd5 := z3.up (T' := tk) (Nat.le_refl _) fun b vs n e => nl5 e
    have k05 : ∀ b o, b ≠ S0 → b ≠ S1 → b ≠ ck → s.heap.get? b = some o → h5.get? b = some o := fun b o q1 q2 q3 e => kb5 b o q3 (z4 b o q1 q2 q3 e)
    have cell5 : ∀ {c : Addr} {v : Option Value}, c ≠ ck → s.heap.IsCell c v → h5.IsCell c v := fun q x => let ⟨o, ho, hd⟩ := x; ⟨o, k05 _ _ (cellNe x a0) (cellNe x a1) q ho, hd⟩
    have n5 : h5.Ns L' m := Ns.upd z1 nLc kb5
    have g5 : Grow base h5 := fun b o e => k05 b o (fun q => by rw [q, hbS] at e; cases e) (fun q => by rw [q, hbS'] at e; cases e) (fun q => by rw [q, hbc] at e; cases e) (hb0 b o e)
    have hS5 := k05 _ _ nSD.1 nSD.2 (Ne.symm (cellNe h2 hS)) hS
    have hr5 := k05 _ _ nr0.1 nr0.2 (Ne.symm (cellNe h2 hr)) hr
    obtain ⟨_, ⟨w0, m0, f0, r0⟩, ⟨w1, m1, f1, r1⟩⟩ := id sd5
    have nIS0 := nI a0
    have nIS1 := nI a1
    have nIc := nI hoc
    obtain ⟨oI, hoI, hcI⟩ := id hI
    rcases (show i = 0 ∨ i = 1 by omega) with rfl | rfl
    · have hw0 : w0.length ≤ 100 := by rw [r0.length]; simp only [updK, if_true]; omega
      refine wpAny_mono (ok { s with heap := h5, toks := tk } 0 S0 t n m0 nr w0 rv _ n5 g5 (cell5 ncs h1) c5 (cell5 ncr h3) hS5 rfl f0 r0 (.inl rfl) ⟨_, f0⟩ ⟨_, f1⟩ hw0 hr5 (hrs.up z5) hok0) (fun f s₄ hf => ?_) fun _ _ q => q
      obtain ⟨rfl, h6, tk6, vk6, nk6, rfl, y1, y2, y3, y4⟩ := hf
      dsimp only at y3 y4
      refine ⟨rfl, ⟨h6, tk6, rfl, Ns.upd n5 (nLS a0) y3, ⟨some (.int ((0 : Nat) : Int) t), ?_⟩, ⟨neS, ⟨vk6, nk6, y1, y2⟩, ⟨w1, m1, y3 _ _ (Ne.symm neS) f1, r1.up y4 fun b vs n hb e => ⟨hb, y3 _ _ hb.1 e⟩⟩⟩, fun b o q1 q2 q3 e => y3 b o q1 (k05 b o q1 q2 q3 e), Nat.le_trans z5 y4⟩, fun o e => y3 _ _ nIS0 (kb5 _ _ nIc e)⟩
      obtain ⟨o, ho, hd⟩ := c5
      exact ⟨o, y3 _ _ (cellNe ⟨o, ho, hd⟩ f0) ho, hd⟩
    · have hw1 : w1.length ≤ 100 := by rw [r1.length]; simp only [updK, Nat.le_refl, if_true]; omega
      refine wpAny_mono (ok { s with heap := h5, toks := tk } 1 S1 t n m1 nr w1 rv _ n5 g5 (cell5 ncs h1) c5 (cell5 ncr h3) hS5 rfl f1 r1 (.inr rfl) ⟨_, f0⟩ ⟨_, f1⟩ hw1 hr5 (hrs.up z5) hok1) (fun f s₄ hf => ?_) fun _ _ q => q
      obtain ⟨rfl, h6, tk6, vk6, nk6, rfl, y1, y2, y3, y4⟩ := hf
      dsimp only at y3 y4
      refine ⟨rfl, ⟨h6, tk6, rfl, Ns.upd n5 (nLS a1) y3, ⟨some (.int ((1 : Nat) : Int) t), ?_⟩, ⟨neS, ⟨w0, m0, y3 _ _ neS f0, r0.up y4 fun b vs n hb e => ⟨hb, y3 _ _ hb.2 e⟩⟩, ⟨vk6, nk6, y1, y2⟩⟩, fun b o q1 q2 q3 e => y3 b o q2 (k05 b o q1 q2 q3 e), Nat.le_trans z5 y4⟩, fun o e => y3 _ _ nIS1 (kb5 _ _ nIc e)⟩
      obtain ⟨o, ho, hd⟩ := c5
      exact ⟨o, y3 _ _ (cellNe ⟨o, ho, hd⟩ f1) ho, hd⟩
  · intro s' z
    exact ⟨rfl, z⟩
end Mine
end
section
open PySem PySem.W PyProof.Rows PySem.Calls PySem.Spec
set_option maxRecDepth 100000
namespace Mine
def okRows (rs : List (List Str)) : Prop := ∀ q ∈ rs, ∀ x ∈ q, PyData.strOk x = true
def sidesF (rs : List (Int × List Str)) : Two := rs.foldl (fun sd p => (upd1 p.1 p.2 0 sd.1, upd1 p.1 p.2 1 sd.2)) ([], [])
theorem TupsAt.get {T : Nat} {h : Heap} {vs : List Value} {rs : List (Int × List Str)} (x : TupsAt T h vs rs) {i : Nat} {v : Value} (e : vs[i]? = some v) :
    ∃ a r k t n rv row, v = .ref a ∧ rs[i]? = some (k, row) ∧ h.get? a = some { cls := .type "tuple", data := .seq #[.int k t, .ref r] } ∧ h.get? r = some (lst rv n) ∧ StrsT T rv row := by
  induction x generalizing i with
  | nil => simp at e
  | cons a b c _ ih =>
    cases i with
    | zero => simp at e; subst e; exact ⟨_, _, _, _, _, _, _, rfl, rfl, a, b, c⟩
    | succ i => simpa using ih (by simpa using e)
/-- what one turn of the outer loop does -/
def RowOK (M : Model) (A : Around) (env' : Env) (body : List Stmt) (base : Heap) (L' cs ck cr SD S0 S1 : Addr) : Prop :=
  ∀ (s : Shared) (m : Str → Option Value) (wh : Int) (tw r n nr : Nat) (rv : List Value) (row : List Str) (sd : Two) (v₀ : Option Value), s.heap.Ns L' m → m "which" = some (.int wh tw) → Grow base s.heap → s.heap.IsCell cs (some (.ref SD)) → s.heap.IsCell ck v₀ → s.heap.IsCell cr (some (.ref r)) →
    s.heap.get? SD = some (lst [.ref S0, .ref S1] n) → SidesAt s.toks S0 S1 s.heap sd → r ≠ S0 ∧ r ≠ S1 → s.heap.get? r = some (lst rv nr) → StrsT s.toks rv row → rv.length ≤ 100 → (∀ x ∈ row, PyData.strOk x = true) → sd.1.length ≤ 90 → sd.2.length ≤ 90 → okRows sd.1 → okRows sd.2 →
    wpAny M A (execs body env') (fun f s' => f = .next ∧ InnerZ s L' ck S0 S1 m (upd1 wh row 0 sd.1, upd1 wh row 1 sd.2) s') Never s
structure OuterZ (s₁ : Shared) (L' ck cr S0 S1 : Addr) (m : Str → Option Value) (sd : Two) (s' : Shared) : Prop where
  at_ : ∃ h tk m', s' = { s₁ with heap := h, toks := tk } ∧ h.Ns L' m' ∧ (∀ y, y ≠ Str.ofString "which" → m' y = m y) ∧ (∃ v, h.IsCell cr v) ∧ (∃ v, h.IsCell ck v) ∧ SidesAt tk S0 S1 h sd ∧ (∀ b o, b ≠ L' → b ≠ S0 → b ≠ S1 → b ≠ cr → b ≠ ck → s₁.heap.get? b = some o → h.get? b = some o) ∧ s₁.toks ≤ tk
set_option maxHeartbeats 1000000 in
theorem outer_loop {w : World} {A : Around} {base : Heap} {env' : Env} {L' : Addr} {m : Str → Option Value} {s : Shared} {cs cr ck SD S0 S1 R : Addr} {n nR : Nat} {vs : List Value} {rs : List (Int × List Str)} {body : List Stmt} {pw pr pt ps pf : Pos} {kk : Nat}
    (hh : A.handled = none) (hlo : env'.locals = L') (hk' : env'.scope.kind = .function) (hn : s.heap.Ns L' m) (hm : m "rows" = some (.ref R)) (hb0 : Grow base s.heap)
    (h1 : s.heap.IsCell cs (some (.ref SD))) (h2 : ∃ v, s.heap.IsCell ck v) (h3 : ∃ v, s.heap.IsCell cr v) (hS : s.heap.get? SD = some (lst [.ref S0, .ref S1] n)) (hsd : SidesAt s.toks S0 S1 s.heap ([], []))
    (hR : s.heap.get? R = some (lst vs nR)) (hts : TupsAt s.toks s.heap vs rs) (hbL : base.get? L' = none) (hbS : base.get? S0 = none) (hbS' : base.get? S1 = none) (hbc : base.get? ck = none) (hbr : base.get? cr = none) (nSD : SD ≠ S0 ∧ SD ≠ S1) (ncs : cs ≠ ck) (ncr : cs ≠ cr) (nck : cr ≠ ck) (nR0 : R ≠ S0 ∧ R ≠ S1)
    (nrow : ∀ a r k t rv n, s.heap.get? a = some { cls := .type "tuple", data := .seq #[.int k t, .ref r] } → .ref a ∈ vs → s.heap.get? r = some (lst rv n) → r ≠ S0 ∧ r ≠ S1)
    (k0 : env'.kindOf "which" = some .local) (k1 : env'.kindOf "row" = some .cell) (k2 : env'.kindOf "rows" = some .local) (e1 : env'.cells.lookup ("row" : Str) = some cr)
    (hrl : ∀ p ∈ rs, p.2.length ≤ 3 ∧ ∀ x ∈ p.2, PyData.strOk x = true) (hP : ∀ i, (sidesF (rs.take i)).1.length ≤ 90 ∧ (sidesF (rs.take i)).2.length ≤ 90 ∧ okRows (sidesF (rs.take i)).1 ∧ okRows (sidesF (rs.take i)).2)
    (hfs : ∀ x, foldedSetIterable (.Name "rows" ps) env' x = pure x) (ok : RowOK (model prog0 w) A env' body base L' cs ck cr SD S0 S1) :
    wpAny (model prog0 w) A (exec (.For (.Tuple [.Name "which" pw, .Name "row" pr] kk pt) (.Name "rows" ps) body [] pf) env') (Ends (OuterZ s L' ck cr S0 S1 m (sidesF rs))) Never s := by
  have cellNe : ∀ {h : Heap} {c a : Addr} {v : Option Value} {o : Obj}, h.IsCell c v → h.get? a = some o → (∃ xs n, o.data = .seq xs n) → c ≠ a := fun x e hq q => by
    obtain ⟨o, ho, hd⟩ := x
    obtain ⟨xs, n, hq⟩ := hq
    rw [q, e] at ho
    cases ho
    rw [hd] at hq; cases hq
  have cellL : ∀ {h : Heap} {c : Addr} {v : Option Value} {m' : Str → Option Value}, h.IsCell c v → h.Ns L' m' → c ≠ L' := fun x y q => by
    obtain ⟨o, ho, hd⟩ := x
    obtain ⟨o', es, ep, ho', hd', _⟩ := y
    rw [q, ho'] at ho
    cases ho
    rw [hd'] at hd; cases hd
  have seqL : ∀ {h : Heap} {a : Addr} {o : Obj} {m' : Str → Option Value}, h.get? a = some o → (∃ xs n, o.data = .seq xs n) → h.Ns L' m' → a ≠ L' := fun e hq y q => by
    obtain ⟨o', es, ep, ho', hd', _⟩ := y
    obtain ⟨xs, n, hq⟩ := hq
    rw [q, ho'] at e
    cases e
    rw [hd'] at hq; cases hq
  obtain ⟨ock, c2⟩ := id h2
  obtain ⟨ocr, c3⟩ := id h3
  obtain ⟨neS, ⟨v0, n0, a0, b0⟩, ⟨v1, n1, a1, b1⟩⟩ := id hsd
  have nL0 := seqL a0 ⟨_, _, rfl⟩ hn
  have nL1 := seqL a1 ⟨_, _, rfl⟩ hn
  have seqS : ∀ {a : Addr} {xs : Array Value}, s.heap.get? a = some { cls := .type "tuple", data := .seq xs } → a ≠ S0 ∧ a ≠ S1 := fun e => ⟨fun q => (by rw [q, a0] at e; simp [lst] at e), fun q => (by rw [q, a1] at e; simp [lst] at e)⟩
  refine For_list2 hh (name_L (m := m) (by rw [hlo]; exact hn) hk' k2 (by decide) hm ⟨R, vs, rfl, ⟨_, hR, rfl, _, rfl⟩, fun i s' => OuterZ s L' ck cr S0 S1 m (sidesF (rs.take i)) s', ?_, ?_, ?_, ?_⟩) hfs
  · intro h g
    exact ⟨h, _, m, rfl, hn.keeps g, fun _ _ => rfl, ⟨_, IsCell.up g c3⟩, ⟨_, IsCell.up g c2⟩, (by simpa [sidesF] using hsd.up (Nat.le_refl _) fun b vs n e => g _ _ e), fun b o _ _ _ _ _ e => g _ _ e, Nat.le_refl _⟩
  · rintro I i s₂ h' tk' ⟨h, tk, m', rfl, z1, z2, ⟨vr, o1, p1, q1⟩, ⟨vk, o2, p2, q2⟩, z5, z6, z7⟩ hI hnI k ht
    have nI : ∀ {b : Addr} {o : Obj}, s.heap.get? b = some o → b ≠ I := fun e q => by rw [q, hnI] at e; cases e
    obtain ⟨oL, _, _, hoL, _⟩ := id hn
    obtain ⟨o1', p1', _⟩ := id c3
    obtain ⟨o2', p2', _⟩ := id c2
    exact ⟨h', tk', m', rfl, z1.at' fun o e => k _ o (nI hoL) e, z2, ⟨vr, o1, k _ _ (nI p1') p1, q1⟩, ⟨vk, o2, k _ _ (nI p2') p2, q2⟩, z5.up ht fun b vs n e => k _ _ (ItAt.ne hI e (by simp)) e, fun b o r1 r2 r3 r4 r5 e => k b o (nI e) (z6 b o r1 r2 r3 r4 r5 e), Nat.le_trans z7 ht⟩
  · rintro I i v s₂ hv ⟨h, tk, m', rfl, z1, z2, ⟨vr, cr2⟩, ⟨vk, ck2⟩, z5, z6, z7⟩ hI hnI hl2
    obtain ⟨a, r, kn, t, nr, rv, row, rfl, hrs, ta, tr, ts⟩ := hts.get hv
    have hma := List.mem_of_getElem? hv
    have nr0 := nrow a r kn t rv nr ta hma tr
    have hrm := hrl _ (List.mem_of_getElem? hrs)
    have sq : ∀ {b : Addr} {o : Obj}, s.heap.get? b = some o → (∃ xs n, o.data = .seq xs n) → b ≠ S0 ∧ b ≠ S1 → h.get? b = some o := fun e hq q => z6 _ _ (seqL e hq hn) q.1 q.2 (Ne.symm (cellNe c3 e hq)) (Ne.symm (cellNe c2 e hq)) e
    have ta' := sq ta ⟨_, _, rfl⟩ (seqS ta)
    have tr' := sq tr ⟨_, _, rfl⟩ nr0
    have sd' := sq hS ⟨_, _, rfl⟩ nSD
    have cs' : h.IsCell cs (some (.ref SD)) := by
      obtain ⟨o, ho, hd⟩ := id h1
      exact ⟨o, z6 _ _ (cellL h1 hn) (cellNe h1 a0 ⟨_, _, rfl⟩) (cellNe h1 a1 ⟨_, _, rfl⟩) ncr ncs ho, hd⟩
    refine wpAny_assign_Tuple (items := #[.int kn t, .ref r]) hh ⟨_, ta', rfl, _, rfl⟩ rfl rfl ?_
    intro h4 x4
    have g4 : Grow h h4 := fun b o e => x4 b o (Nat.ne_of_lt (Heap.lt_size e)) e
    show wpAny _ _ (assignInOrder ((assignEach [.Name "which" pw, .Name "row" pr] env').map (·.2)) [.int kn t, .ref r]) _ _ _
    have ea : (assignEach [.Name "which" pw, .Name "row" pr] env').map (·.2) = [assign (.Name "which" pw) env', assign (.Name "row" pr) env'] := rfl
    rw [ea]
    refine wpAny_assignInOrder_more (wpAny_assign_Name (wpAny_storeName_local k0 (by rw [hlo]; exact z1.keeps g4) ?_ (by rw [hk']; rfl)))
    intro h5 n5 sb5
    rw [hlo] at n5 sb5
    have kb5 : ∀ b o, b ≠ L' → h4.get? b = some o → h5.get? b = some o := fun b o q e => sb5.extBut b o q e
    have cell5 : ∀ {c : Addr} {v : Option Value}, h.IsCell c v → h5.IsCell c v := fun x => let ⟨o, ho, hd⟩ := x; ⟨o, kb5 _ _ (cellL x z1) (g4 _ _ ho), hd⟩
    refine wpAny_assignInOrder_more (wpAny_assign_Name (wpAny_storeName_cell hk' k1 e1 (cell5 cr2) ?_))
    intro h6 c6 sb6
    dsimp only at sb6 c6
    have kb6 : ∀ b o, b ≠ cr → h5.get? b = some o → h6.get? b = some o := fun b o q e => sb6.extBut b o q e
    have cL := cellL cr2 z1
    have k6 : ∀ b o, b ≠ L' → b ≠ cr → h.get? b = some o → h6.get? b = some o := fun b o q1 q2 e => kb6 b o q2 (kb5 b o q1 (g4 _ _ e))
    have sq6 : ∀ {b : Addr} {o : Obj}, h.get? b = some o → (∃ xs n, o.data = .seq xs n) → h6.get? b = some o := fun e hq => k6 _ _ (seqL e hq z1) (Ne.symm (cellNe cr2 e hq)) e
    have n6 := Ns.upd n5 (Ne.symm cL) kb6
    have s6 := z5.up (T' := tk + 1) (Nat.le_succ _) fun b vs n e => sq6 e ⟨_, _, rfl⟩
    obtain ⟨p1, p2, p3, p4⟩ := hP i
    have cell6 : ∀ {c : Addr} {v : Option Value}, c ≠ cr → h.IsCell c v → h6.IsCell c v := fun q x => let ⟨o, ho, hd⟩ := x; ⟨o, k6 _ _ (cellL x z1) q ho, hd⟩
    have k06 : ∀ b o, b ≠ L' → b ≠ S0 → b ≠ S1 → b ≠ cr → b ≠ ck → s.heap.get? b = some o → h6.get? b = some o := fun b o r1 r2 r3 r4 r5 e => k6 b o r1 r4 (z6 b o r1 r2 r3 r4 r5 e)
    have hb6 : Grow base h6 := fun b o e => k06 b o (fun q => (by rw [q, hbL] at e; cases e)) (fun q => (by rw [q, hbS] at e; cases e)) (fun q => by rw [q, hbS'] at e; cases e) (fun q => by rw [q, hbr] at e; cases e) (fun q => by rw [q, hbc] at e; cases e) (hb0 b o e)
    refine wpAny_assignInOrder_none ?_
    refine wpAny_mono (ok { s with heap := h6, toks := tk + 1 } _ kn t r n nr rv row (sidesF (rs.take i)) vk n6 (if_pos rfl) hb6 (cell6 ncr cs') (cell6 (Ne.symm nck) ck2) c6 (sq6 sd' ⟨_, _, rfl⟩) s6 nr0 (sq6 tr' ⟨_, _, rfl⟩) (ts.up (Nat.le_trans z7 (Nat.le_succ _))) (by rw [ts.length]; exact Nat.le_trans hrm.1 (by decide)) hrm.2 p1 p2 p3 p4) (fun f s₄ hf => ?_) fun _ _ q => q
    obtain ⟨rfl, h7, tk7, rfl, y1, y2, y3, y4, y5⟩ := hf
    dsimp only at y4 y5
    have ef : sidesF (rs.take (i + 1)) = (upd1 kn row 0 (sidesF (rs.take i)).1, upd1 kn row 1 (sidesF (rs.take i)).2) := by
      rw [List.take_add_one, hrs]; simp [sidesF, List.foldl_append]
    have nI : ∀ {b : Addr} {o : Obj}, s.heap.get? b = some o → I ≠ b := fun e q => by rw [← q, hnI] at e; cases e
    obtain ⟨oL, _, _, hoL, _⟩ := id hn
    obtain ⟨o1', p1', _⟩ := id c3
    obtain ⟨o2', p2', _⟩ := id c2
    refine ⟨rfl, ⟨h7, tk7, _, rfl, y1, fun y q => (if_neg q).trans (z2 y q), ⟨some (.ref r), ?_⟩, y2, by rw [ef]; exact y3, fun b o r1 r2 r3 r4 r5 e => y4 b o r2 r3 r5 (k06 b o r1 r2 r3 r4 r5 e), Nat.le_trans z7 (Nat.le_trans (Nat.le_succ _) y5)⟩, ?_⟩
    · obtain ⟨o, ho, hd⟩ := id c6
      exact ⟨o, y4 _ _ (cellNe c3 a0 ⟨_, _, rfl⟩) (cellNe c3 a1 ⟨_, _, rfl⟩) nck ho, hd⟩
    · intro b hb o e
      rcases List.mem_cons.mp hb with rfl | hb
      · exact y4 _ _ (nI a0) (nI a1) (nI p2') (k6 _ _ (nI hoL) (nI p1') e)
      · rw [List.mem_singleton.mp hb] at e ⊢
        exact y4 _ _ nR0.1 nR0.2 (Ne.symm (cellNe c2 hR ⟨_, _, rfl⟩)) (k6 _ _ (seqL hR ⟨_, _, rfl⟩ hn) (Ne.symm (cellNe c3 hR ⟨_, _, rfl⟩)) e)
  · intro s' z
    rw [hts.length, List.take_length] at z
    exact ⟨rfl, z⟩
end Mine
end
section
open PySem PySem.W PyProof.Rows PySem.Calls PySem.Spec
set_option maxRecDepth 100000
namespace Mine
theorem eval_strs1 {M : Model} {A : Around} {E : Value → Shared → Prop} {s : Shared} {env : Env} {x0 : Str} {k0 : Nat} {p0 lp : Pos} {Q : Value → Shared → Prop} (h0 : 0 < s.toks)
    (h : ∀ h' D vs tk', Grow s.heap h' → s.heap.get? D = none → h'.get? D = some (lst vs 0) → StrsT tk' vs [x0] → s.toks ≤ tk' → Q (.ref D) { s with heap := h', toks := tk' }) :
    wpAny M A (eval (.List [.Constant (.str x0) k0 p0] lp) env) Q E s := by
  refine wpAny_List ?_
  have e : backTo lp (starEach [.Constant (.str x0) k0 p0] env) = [(false, eval (.Constant (.str x0) k0 p0) env)] := rfl
  rw [e]
  have sl0 := sizeLine_eq
  refine spliced_cons (Constant_str (spliced_nil ⟨?_, ?_⟩))
  · simp
    omega
  · refine h _ _ _ _ Grow.push (Heap.get?_none_of_le (Nat.le_refl _)) (Heap.get?_push_size _ (by rfl)) (.cons ⟨?_, ?_⟩ .nil) ?_ <;> (try dsimp only) <;> omega
theorem eval_tup1 {M : Model} {A : Around} {E : Value → Shared → Prop} {s : Shared} {env : Env} {kk : Int} {x0 : Str} {k0 kc kt : Nat} {p0 lp pc pt : Pos} {Q : Value → Shared → Prop} (h0 : 0 < s.toks)
    (h : ∀ h' a tk', Grow s.heap h' → TupsAt tk' h' [.ref a] [(kk, [x0])] → s.toks ≤ tk' → Q (.ref a) { s with heap := h', toks := tk' }) :
    wpAny M A (eval (.Tuple [.Constant (.int kk) kc pc, .List [.Constant (.str x0) k0 p0] lp] kt pt) env) Q E s := by
  refine wpAny_Tuple ?_
  have e : backTo pt (starEach [.Constant (.int kk) kc pc, .List [.Constant (.str x0) k0 p0] lp] env) = [(false, eval (.Constant (.int kk) kc pc) env), (false, eval (.List [.Constant (.str x0) k0 p0] lp) env)] := rfl
  rw [e]
  have sl0 := sizeLine_eq
  refine spliced_cons (wpAny_Constant_int (spliced_cons (eval_strs1 (s := { s with toks := s.toks + 1 }) (Nat.succ_pos _) fun h' D vs tk' g nD hD hs ht => spliced_nil ⟨by simp; omega, ?_⟩)))
  have ht' : s.toks + 1 ≤ tk' := ht
  exact h _ _ tk' (Grow.trans g Grow.push) (.cons (Heap.get?_push_size _ (by rfl)) (Heap.get?_push_of_some _ hD) hs .nil) (by omega)

theorem eval_strs2 {M : Model} {A : Around} {E : Value → Shared → Prop} {s : Shared} {env : Env} {x0 x1 : Str} {k0 k1 : Nat} {p0 p1 lp : Pos} {Q : Value → Shared → Prop} (h0 : 0 < s.toks)
    (h : ∀ h' D vs tk', Grow s.heap h' → s.heap.get? D = none → h'.get? D = some (lst vs 0) → StrsT tk' vs [x0, x1] → s.toks ≤ tk' → Q (.ref D) { s with heap := h', toks := tk' }) :
    wpAny M A (eval (.List [.Constant (.str x0) k0 p0, .Constant (.str x1) k1 p1] lp) env) Q E s := by
  refine wpAny_List ?_
  have e : backTo lp (starEach [.Constant (.str x0) k0 p0, .Constant (.str x1) k1 p1] env) = [(false, eval (.Constant (.str x0) k0 p0) env), (false, eval (.Constant (.str x1) k1 p1) env)] := rfl
  rw [e]
  have sl0 := sizeLine_eq
  refine spliced_cons (Constant_str (spliced_cons (Constant_str (spliced_nil ⟨?_, ?_⟩))))
  · simp
    omega
  · refine h _ _ _ _ Grow.push (Heap.get?_none_of_le (Nat.le_refl _)) (Heap.get?_push_size _ (by rfl)) (.cons ⟨?_, ?_⟩ (.cons ⟨?_, ?_⟩ .nil)) ?_ <;> (try dsimp only) <;> omega
theorem eval_tup2 {M : Model} {A : Around} {E : Value → Shared → Prop} {s : Shared} {env : Env} {kk : Int} {x0 x1 : Str} {k0 k1 kc kt : Nat} {p0 p1 lp pc pt : Pos} {Q : Value → Shared → Prop} (h0 : 0 < s.toks)
    (h : ∀ h' a tk', Grow s.heap h' → TupsAt tk' h' [.ref a] [(kk, [x0, x1])] → s.toks ≤ tk' → Q (.ref a) { s with heap := h', toks := tk' }) :
    wpAny M A (eval (.Tuple [.Constant (.int kk) kc pc, .List [.Constant (.str x0) k0 p0, .Constant (.str x1) k1 p1] lp] kt pt) env) Q E s := by
  refine wpAny_Tuple ?_
  have e : backTo pt (starEach [.Constant (.int kk) kc pc, .List [.Constant (.str x0) k0 p0, .Constant (.str x1) k1 p1] lp] env) = [(false, eval (.Constant (.int kk) kc pc) env), (false, eval (.List [.Constant (.str x0) k0 p0, .Constant (.str x1) k1 p1] lp) env)] := rfl
  rw [e]
  have sl0 := sizeLine_eq
  refine spliced_cons (wpAny_Constant_int (spliced_cons (eval_strs2 (s := { s with toks := s.toks + 1 }) (Nat.succ_pos _) fun h' D vs tk' g nD hD hs ht => spliced_nil ⟨by simp; omega, ?_⟩)))
  have ht' : s.toks + 1 ≤ tk' := ht
  exact h _ _ tk' (Grow.trans g Grow.push) (.cons (Heap.get?_push_size _ (by rfl)) (Heap.get?_push_of_some _ hD) hs .nil) (by omega)

theorem eval_strs3 {M : Model} {A : Around} {E : Value → Shared → Prop} {s : Shared} {env : Env} {x0 x1 x2 : Str} {k0 k1 k2 : Nat} {p0 p1 p2 lp : Pos} {Q : Value → Shared → Prop} (h0 : 0 < s.toks)
    (h : ∀ h' D vs tk', Grow s.heap h' → s.heap.get? D = none → h'.get? D = some (lst vs 0) → StrsT tk' vs [x0, x1, x2] → s.toks ≤ tk' → Q (.ref D) { s with heap := h', toks := tk' }) :
    wpAny M A (eval (.List [.Constant (.str x0) k0 p0, .Constant (.str x1) k1 p1, .Constant (.str x2) k2 p2] lp) env) Q E s := by
  refine wpAny_List ?_
  have e : backTo lp (starEach [.Constant (.str x0) k0 p0, .Constant (.str x1) k1 p1, .Constant (.str x2) k2 p2] env) = [(false, eval (.Constant (.str x0) k0 p0) env), (false, eval (.Constant (.str x1) k1 p1) env), (false, eval (.Constant (.str x2) k2 p2) env)] := rfl
  rw [e]
  have sl0 := sizeLine_eq
  refine spliced_cons (Constant_str (spliced_cons (Constant_str (spliced_cons (Constant_str (spliced_nil ⟨?_, ?_⟩))))))
  · simp
    omega
  · refine h _ _ _ _ Grow.push (Heap.get?_none_of_le (Nat.le_refl _)) (Heap.get?_push_size _ (by rfl)) (.cons ⟨?_, ?_⟩ (.cons ⟨?_, ?_⟩ (.cons ⟨?_, ?_⟩ .nil))) ?_ <;> (try dsimp only) <;> omega
theorem eval_tup3 {M : Model} {A : Around} {E : Value → Shared → Prop} {s : Shared} {env : Env} {kk : Int} {x0 x1 x2 : Str} {k0 k1 k2 kc kt : Nat} {p0 p1 p2 lp pc pt : Pos} {Q : Value → Shared → Prop} (h0 : 0 < s.toks)
    (h : ∀ h' a tk', Grow s.heap h' → TupsAt tk' h' [.ref a] [(kk, [x0, x1, x2])] → s.toks ≤ tk' → Q (.ref a) { s with heap := h', toks := tk' }) :
    wpAny M A (eval (.Tuple [.Constant (.int kk) kc pc, .List [.Constant (.str x0) k0 p0, .Constant (.str x1) k1 p1, .Constant (.str x2) k2 p2] lp] kt pt) env) Q E s := by
  refine wpAny_Tuple ?_
  have e : backTo pt (starEach [.Constant (.int kk) kc pc, .List [.Constant (.str x0) k0 p0, .Constant (.str x1) k1 p1, .Constant (.str x2) k2 p2] lp] env) = [(false, eval (.Constant (.int kk) kc pc) env), (false, eval (.List [.Constant (.str x0) k0 p0, .Constant (.str x1) k1 p1, .Constant (.str x2) k2 p2] lp) env)] := rfl
  rw [e]
  have sl0 := sizeLine_eq
  refine spliced_cons (wpAny_Constant_int (spliced_cons (eval_strs3 (s := { s with toks := s.toks + 1 }) (Nat.succ_pos _) fun h' D vs tk' g nD hD hs ht => spliced_nil ⟨by simp; omega, ?_⟩)))
  have ht' : s.toks + 1 ≤ tk' := ht
  exact h _ _ tk' (Grow.trans g Grow.push) (.cons (Heap.get?_push_size _ (by rfl)) (Heap.get?_push_of_some _ hD) hs .nil) (by omega)

theorem eval_two {M : Model} {A : Around} {E : Value → Shared → Prop} {s : Shared} {env : Env} {p1 p2 lp : Pos} {Q : Value → Shared → Prop} (q : ∀ h' D S0 S1, Grow s.heap h' → s.heap.get? D = none → s.heap.get? S0 = none → s.heap.get? S1 = none → S0 ≠ S1 → h'.get? D = some (lst [.ref S0, .ref S1] 0) → h'.get? S0 = some (lst [] 0) → h'.get? S1 = some (lst [] 0) → Q (.ref D) { s with heap := h' }) :
    wpAny M A (eval (.List [.List [] p1, .List [] p2] lp) env) Q E s := by
  refine wpAny_List ?_
  have e : backTo lp (starEach [.List [] p1, .List [] p2] env) = [(false, eval (.List [] p1) env), (false, eval (.List [] p2) env)] := rfl
  rw [e]
  have sl0 := sizeLine_eq
  refine spliced_cons (eval_nil (spliced_cons (eval_nil (spliced_nil ⟨by simp; omega, ?_⟩))))
  have g1 : Grow s.heap (s.heap.push { cls := .type "list", data := .seq ([] : List Value).toArray }) := Grow.push
  have g2 : Grow (s.heap.push { cls := .type "list", data := .seq ([] : List Value).toArray }) ((s.heap.push { cls := .type "list", data := .seq ([] : List Value).toArray }).push { cls := .type "list", data := .seq ([] : List Value).toArray }) := Grow.push
  have n : ∀ {h : Heap} , Grow s.heap h → s.heap.get? h.objs.size = none := fun g => Grow.none g (Heap.get?_none_of_le (Nat.le_refl _))
  refine q _ _ _ _ (g1.trans (g2.trans Grow.push)) (n (g1.trans g2)) (n (Grow.refl _)) (n g1) ?_ (Heap.get?_push_size _ (by rfl)) (Heap.get?_push_of_some _ (Heap.get?_push_of_some _ (Heap.get?_push_size _ (by rfl)))) (Heap.get?_push_of_some _ (Heap.get?_push_size _ (by rfl)))
  try dsimp only
  rw [Heap.size_push]
  exact Nat.ne_of_lt (Nat.lt_succ_self _)
def rows6 : List (Int × List Str) := [(2, ["a", "ab", "b"].map Str.ofString), (2, ["b"].map Str.ofString), (0, ["a", "b"].map Str.ofString), (0, ["a", "a"].map Str.ofString), (1, ["ab", "a"].map Str.ofString), (1, ["ab", "b"].map Str.ofString)]
theorem nrow_of {T : Nat} {h : Heap} {vs : List Value} {rs : List (Int × List Str)} {S0 : Addr} {n0 : Nat} (x : TupsAt T h vs rs) (hne : ∀ p ∈ rs, p.2 ≠ []) (h0 : h.get? S0 = some (lst [] n0)) :
    ∀ a r k t rv n, h.get? a = some { cls := .type "tuple", data := .seq #[.int k t, .ref r] } → .ref a ∈ vs → h.get? r = some (lst rv n) → r ≠ S0 := by
  intro a r k t rv n ha hm hr q
  obtain ⟨i, hi, hv⟩ := List.mem_iff_getElem.mp hm
  obtain ⟨a', r', k', t', n', rv', row, e1, e2, e3, e4, e5⟩ := x.get (i := i) (v := .ref a) (by rw [List.getElem?_eq_getElem hi, hv])
  cases e1
  rw [ha] at e3
  simp only [Option.some.injEq, Obj.mk.injEq, Data.seq.injEq] at e3
  simp at e3
  obtain ⟨⟨_, _⟩, e3⟩ := e3
  subst e3
  rw [q, h0] at e4
  cases e4
  cases e5
  exact hne _ (List.mem_of_getElem? e2) rfl
end Mine
end
section
open PySem PySem.W PyProof.Rows PySem.Calls PySem.Spec
set_option maxRecDepth 100000
namespace Mine
theorem addTo_len (side : List (List Str)) (row : List Str) : (addTo side row).length ≤ side.length + row.length := by
  unfold addTo
  rw [List.length_append]
  have := List.length_filter_le (fresh side) (prefs row row.length)
  have h2 : (prefs row row.length).length = row.length := by simp [prefs]
  omega
theorem addTo_ok {side : List (List Str)} {row : List Str} (h : okRows side) (hr : ∀ x ∈ row, PyData.strOk x = true) : okRows (addTo side row) := by
  intro q hq x hx
  rcases List.mem_append.mp hq with hq | hq
  · exact h q hq x hx
  · obtain ⟨i, _, rfl⟩ := List.mem_map.mp (List.mem_filter.mp hq).1
    exact hr x (List.mem_of_mem_take hx)
theorem upd1_ok {wh k : Int} {side : List (List Str)} {row : List Str} (h : okRows side) (hr : ∀ x ∈ row, PyData.strOk x = true) : okRows (upd1 wh row k side) := by
  unfold upd1
  split
  · exact addTo_ok h hr
  · exact h
theorem upd1_len (wh k : Int) (side : List (List Str)) (row : List Str) : (upd1 wh row k side).length ≤ side.length + row.length := by
  unfold upd1
  split
  · exact addTo_len side row
  · omega
def okP (p : Int × List Str) : Prop := p.2.length ≤ 3 ∧ ∀ x ∈ p.2, PyData.strOk x = true
theorem fold_ok : ∀ (rs : List (Int × List Str)) (sd : Two) (c : Nat), (∀ p ∈ rs, okP p) → sd.1.length ≤ c → sd.2.length ≤ c → okRows sd.1 → okRows sd.2 →
    let f := rs.foldl (fun sd p => (upd1 p.1 p.2 0 sd.1, upd1 p.1 p.2 1 sd.2)) sd
    f.1.length ≤ c + 3 * rs.length ∧ f.2.length ≤ c + 3 * rs.length ∧ okRows f.1 ∧ okRows f.2
  | [], sd, c, _, h1, h2, h3, h4 => ⟨h1, h2, h3, h4⟩
  | p :: rs, sd, c, h, h1, h2, h3, h4 => by
    obtain ⟨a, b⟩ := h p (.head _)
    have l1 := upd1_len p.1 0 sd.1 p.2
    have l2 := upd1_len p.1 1 sd.2 p.2
    have := fold_ok rs (upd1 p.1 p.2 0 sd.1, upd1 p.1 p.2 1 sd.2) (c + 3) (fun q hq => h q (.tail _ hq)) (by dsimp only; omega) (by dsimp only; omega) (upd1_ok h3 b) (upd1_ok h4 b)
    obtain ⟨e1, e2, e3, e4⟩ := this
    refine ⟨?_, ?_, e3, e4⟩
    · refine Nat.le_trans e1 ?_
      simp only [List.length_cons]; omega
    · refine Nat.le_trans e2 ?_
      simp only [List.length_cons]; omega
theorem nmI_mem (k : Int) : nmI k ∈ names3 := by
  have i0 : 0 ≤ k % 3 := Int.emod_nonneg _ (by decide)
  have i1 : k % 3 < 3 := Int.emod_lt_of_pos _ (by decide)
  unfold nmI
  have : (k % 3).toNat < names3.length := by show _ < 3; omega
  rw [List.getD_eq_getElem?_getD, List.getElem?_eq_getElem this]
  exact List.getElem_mem _
theorem rowN_mem {v : Int} {x : Str} (h : x ∈ rowN v) : x ∈ names3 := by
  have := List.mem_of_mem_take h
  simp only [List.mem_cons, List.not_mem_nil, or_false] at this
  rcases this with rfl | rfl | rfl <;> exact nmI_mem _
theorem rowN_len (v : Int) : (rowN v).length ≤ 3 ∧ rowN v ≠ [] := by
  have i0 : 0 ≤ v / 3 % 3 := Int.emod_nonneg _ (by decide)
  have i1 : v / 3 % 3 < 3 := Int.emod_lt_of_pos _ (by decide)
  have hl : (rowN v).length = min (v / 3 % 3 + 1).toNat 3 := by simp [rowN]
  refine ⟨by omega, fun q => ?_⟩
  rw [q] at hl
  simp at hl
  omega
/-- every row: of the names, one to three -/
def rowOK (p : Int × List Str) : Prop := p.2 ≠ [] ∧ p.2.length ≤ 3 ∧ ∀ x ∈ p.2, x ∈ names3
theorem rows_ok (ks : List Int) : ∀ p ∈ rows6 ++ rowsN ks, rowOK p := by
  intro p hp
  rcases List.mem_append.mp hp with hp | hp
  · have : rows6.all (fun p => !p.2.isEmpty && decide (p.2.length ≤ 3) && p.2.all fun x => decide (x ∈ names3)) = true := by decide +kernel
    have := List.all_eq_true.mp this p hp
    simp only [Bool.and_eq_true, decide_eq_true_eq, List.all_eq_true, Bool.not_eq_true'] at this
    exact ⟨fun q => by simp [q] at this, this.1.2, this.2⟩
  · obtain ⟨v, _, rfl⟩ := List.mem_map.mp hp
    exact ⟨(rowN_len v).2, (rowN_len v).1, fun x hx => rowN_mem hx⟩
theorem strOk3 : ∀ x ∈ names3, PyData.strOk x = true := by decide +kernel
theorem okP_of {p : Int × List Str} (h : rowOK p) : okP p := ⟨h.2.1, fun x hx => strOk3 x (h.2.2 x hx)⟩
theorem eval_rows6 {M : Model} {A : Around} {E : Value → Shared → Prop} {s : Shared} {env : Env} {w0 w1 w2 w3 w4 w5 : Int} {x0_0 x0_1 x0_2 x1_0 x2_0 x2_1 x3_0 x3_1 x4_0 x4_1 x5_0 x5_1 : Str} {k0_0 k0_1 k0_2 kc0 kt0 k1_0 kc1 kt1 k2_0 k2_1 kc2 kt2 k3_0 k3_1 kc3 kt3 k4_0 k4_1 kc4 kt4 k5_0 k5_1 kc5 kt5 : Nat} {p0_0 p0_1 p0_2 lp0 pc0 pt0 p1_0 lp1 pc1 pt1 p2_0 p2_1 lp2 pc2 pt2 p3_0 p3_1 lp3 pc3 pt3 p4_0 p4_1 lp4 pc4 pt4 p5_0 p5_1 lp5 pc5 pt5 lp : Pos} {Q : Value → Shared → Prop} (h0 : 0 < s.toks)
    (h : ∀ h' D vs tk', Grow s.heap h' → h'.get? D = some (lst vs 0) → TupsAt tk' h' vs [(w0, [x0_0, x0_1, x0_2]), (w1, [x1_0]), (w2, [x2_0, x2_1]), (w3, [x3_0, x3_1]), (w4, [x4_0, x4_1]), (w5, [x5_0, x5_1])] → s.toks ≤ tk' → Q (.ref D) { s with heap := h', toks := tk' }) :
    wpAny M A (eval (.List [.Tuple [.Constant (.int w0) kc0 pc0, .List [.Constant (.str x0_0) k0_0 p0_0, .Constant (.str x0_1) k0_1 p0_1, .Constant (.str x0_2) k0_2 p0_2] lp0] kt0 pt0, .Tuple [.Constant (.int w1) kc1 pc1, .List [.Constant (.str x1_0) k1_0 p1_0] lp1] kt1 pt1, .Tuple [.Constant (.int w2) kc2 pc2, .List [.Constant (.str x2_0) k2_0 p2_0, .Constant (.str x2_1) k2_1 p2_1] lp2] kt2 pt2, .Tuple [.Constant (.int w3) kc3 pc3, .List [.Constant (.str x3_0) k3_0 p3_0, .Constant (.str x3_1) k3_1 p3_1] lp3] kt3 pt3, .Tuple [.Constant (.int w4) kc4 pc4, .List [.Constant (.str x4_0) k4_0 p4_0, .Constant (.str x4_1) k4_1 p4_1] lp4] kt4 pt4, .Tuple [.Constant (.int w5) kc5 pc5, .List [.Constant (.str x5_0) k5_0 p5_0, .Constant (.str x5_1) k5_1 p5_1] lp5] kt5 pt5] lp) env) Q E s := by
  refine wpAny_List ?_
  have e : backTo lp (starEach [.Tuple [.Constant (.int w0) kc0 pc0, .List [.Constant (.str x0_0) k0_0 p0_0, .Constant (.str x0_1) k0_1 p0_1, .Constant (.str x0_2) k0_2 p0_2] lp0] kt0 pt0, .Tuple [.Constant (.int w1) kc1 pc1, .List [.Constant (.str x1_0) k1_0 p1_0] lp1] kt1 pt1, .Tuple [.Constant (.int w2) kc2 pc2, .List [.Constant (.str x2_0) k2_0 p2_0, .Constant (.str x2_1) k2_1 p2_1] lp2] kt2 pt2, .Tuple [.Constant (.int w3) kc3 pc3, .List [.Constant (.str x3_0) k3_0 p3_0, .Constant (.str x3_1) k3_1 p3_1] lp3] kt3 pt3, .Tuple [.Constant (.int w4) kc4 pc4, .List [.Constant (.str x4_0) k4_0 p4_0, .Constant (.str x4_1) k4_1 p4_1] lp4] kt4 pt4, .Tuple [.Constant (.int w5) kc5 pc5, .List [.Constant (.str x5_0) k5_0 p5_0, .Constant (.str x5_1) k5_1 p5_1] lp5] kt5 pt5] env) = [(false, eval (.Tuple [.Constant (.int w0) kc0 pc0, .List [.Constant (.str x0_0) k0_0 p0_0, .Constant (.str x0_1) k0_1 p0_1, .Constant (.str x0_2) k0_2 p0_2] lp0] kt0 pt0) env), (false, eval (.Tuple [.Constant (.int w1) kc1 pc1, .List [.Constant (.str x1_0) k1_0 p1_0] lp1] kt1 pt1) env), (false, eval (.Tuple [.Constant (.int w2) kc2 pc2, .List [.Constant (.str x2_0) k2_0 p2_0, .Constant (.str x2_1) k2_1 p2_1] lp2] kt2 pt2) env), (false, eval (.Tuple [.Constant (.int w3) kc3 pc3, .List [.Constant (.str x3_0) k3_0 p3_0, .Constant (.str x3_1) k3_1 p3_1] lp3] kt3 pt3) env), (false, eval (.Tuple [.Constant (.int w4) kc4 pc4, .List [.Constant (.str x4_0) k4_0 p4_0, .Constant (.str x4_1) k4_1 p4_1] lp4] kt4 pt4) env), (false, eval (.Tuple [.Constant (.int w5) kc5 pc5, .List [.Constant (.str x5_0) k5_0 p5_0, .Constant (.str x5_1) k5_1 p5_1] lp5] kt5 pt5) env)] := rfl
  rw [e]
  have sl0 := sizeLine_eq
  refine spliced_cons ?_
  with_reducible refine eval_tup3 h0 ?_
  intro h1 a1 tk1 g1 u1 t1
  try dsimp only at g1 t1
  refine spliced_cons ?_
  with_reducible refine eval_tup1 (s := { s with heap := h1, toks := tk1 }) (by dsimp only; omega) ?_
  intro h2 a2 tk2 g2 u2 t2
  try dsimp only at g2 t2
  refine spliced_cons ?_
  with_reducible refine eval_tup2 (s := { s with heap := h2, toks := tk2 }) (by dsimp only; omega) ?_
  intro h3 a3 tk3 g3 u3 t3
  try dsimp only at g3 t3
  refine spliced_cons ?_
  with_reducible refine eval_tup2 (s := { s with heap := h3, toks := tk3 }) (by dsimp only; omega) ?_
  intro h4 a4 tk4 g4 u4 t4
  try dsimp only at g4 t4
  refine spliced_cons ?_
  with_reducible refine eval_tup2 (s := { s with heap := h4, toks := tk4 }) (by dsimp only; omega) ?_
  intro h5 a5 tk5 g5 u5 t5
  try dsimp only at g5 t5
  refine spliced_cons ?_
  with_reducible refine eval_tup2 (s := { s with heap := h5, toks := tk5 }) (by dsimp only; omega) ?_
  intro h6 a6 tk6 g6 u6 t6
  try dsimp only at g6 t6
  refine spliced_nil ⟨by simp; omega, ?_⟩
  have gp : Grow h6 (h6.push { cls := .type "list", data := .seq [Value.ref a1, Value.ref a2, Value.ref a3, Value.ref a4, Value.ref a5, Value.ref a6].toArray }) := Grow.push
  exact h _ _ _ tk6 (Grow.trans g1 (Grow.trans g2 (Grow.trans g3 (Grow.trans g4 (Grow.trans g5 (Grow.trans g6 gp)))))) (Heap.get?_push_size _ (by rfl)) (TupsAt.append (u1.upL (by omega) fun b o _ e => (Grow.trans g2 (Grow.trans g3 (Grow.trans g4 (Grow.trans g5 (Grow.trans g6 gp))))) _ _ e) (TupsAt.append (u2.upL (by omega) fun b o _ e => (Grow.trans g3 (Grow.trans g4 (Grow.trans g5 (Grow.trans g6 gp)))) _ _ e) (TupsAt.append (u3.upL (by omega) fun b o _ e => (Grow.trans g4 (Grow.trans g5 (Grow.trans g6 gp))) _ _ e) (TupsAt.append (u4.upL (by omega) fun b o _ e => (Grow.trans g5 (Grow.trans g6 gp)) _ _ e) (TupsAt.append (u5.upL (by omega) fun b o _ e => (Grow.trans g6 gp) _ _ e) (u6.upL (by omega) fun b o _ e => gp _ _ e)))))) (by omega)

theorem swaps_list {xs : List Expr} {p : Pos} {t : Option Expr} {l : Nat} {env : Env} : swapsWith (.List xs p) t l env = pure false := rfl
set_option maxHeartbeats 400000 in
theorem sides_c {w : World} {mean : ExcName → Option Value} {mg mb : Str → Option Value} {A : Around} {dp un : Nat} {gd : Option (List Code)} {base : Heap} {env : Env} {L : Addr} {m : Str → Option Value} {s : Shared}
    {Q E : Value → Shared → Prop} {SC : Addr} {sv : List Value} {ks : List Int}
    (C : AtF w mean mg mb A dp un gd base [] env L m [] s.heap) (hsc : s.heap.IsList SC sv.toArray) (hks : IntsT sv ks) (hz : ks.length ≤ 5) (hdd : dp + 21 < recursionLimit) (huu : un + 1003 < cLine) (h0 : 0 < s.toks)
    (ret : ∀ h' tk' SD S0 S1 n, Grow s.heap h' → h'.get? SD = some (lst [.ref S0, .ref S1] n) → SidesAt tk' S0 S1 h' (sidesF (rows6 ++ rowsN ks)) → s.toks ≤ tk' → Q (.ref SD) { s with heap := h', toks := tk' }) :
    wpAny (model prog0 w) A (call (.ref 141) [.ref SC]) Q E s := by
  w_top off
  have kf0 : PySem.Challenge.rw_nq0007_01 = PySem.Challenge.rw_nq0007_01 → Mine.hd.heap_39 w.params = Mine.hd.heap_39 w.params := by (k_fill; exact fun _ => rfl)
  clear kf0
  refine enterUC [("script", .ref SC)] C (by k_is) (by k_is) (BindsTo.of_eq rfl) rfl (by decide +kernel) rfl rfl rfl ?_
  intro hb L' h₁ tk cells oL htk hL hLd Fs hlt F' N' Y' X' T' G1 G2 G3
  have hll : @LT.lt Nat _ L L' := hlt _ (.head _)
  have nodict : ∀ {a : Addr} {vs : Array Value}, s.heap.IsList a vs → ∀ p ∈ [(L, oL)], p.1 ≠ a := fun {a vs} hx p hp e => by
    rw [List.mem_singleton.mp hp] at e
    have e' : L = a := e
    obtain ⟨o, ho, _, n, hd⟩ := hx
    obtain ⟨es, ep, hd2⟩ := hLd
    rw [← e', hL] at ho
    cases ho
    rw [hd2] at hd; cases hd
  have toHb : ∀ a x, s.heap.IsList a x → hb.IsList a x := fun a x hx => let ⟨o, ho, r⟩ := hx; ⟨o, G1 _ _ ho (nodict hx), r⟩
  have S : Sub w mean mg mb dp un gd base env L hb L' := ⟨C.X, C.T, fun b o e => G1 b o (C.stays b o e) (fun p hp q => by rw [List.mem_singleton.mp hp] at q; have q' : L = b := q; rw [← q', Heap.get?_none_of_le C.lo] at e; cases e), Nat.le_trans C.lo (Nat.le_of_lt hll), C.lo, hll, C.hf, C.hk, hdd, huu⟩
  clear C nodict
  k_cells Y'
  simp only [List.cons_append, List.nil_append] at N'
  rename_i d1 d2 d3 y1 y2 y3
  have nL : hb.get? L' = none := Heap.get?_none_of_le F'.above
  have nb : ∀ {b : Addr}, h₁.get? b = none → hb.get? b = none := fun q => Grow.none F'.keep q
  have p3 := N' _ (.tail _ (.tail _ (.head _)))
  have p2 := N' _ (.tail _ (.head _))
  have p1 := N' _ (.head _)
  have pL := N' _ (.tail _ (.tail _ (.tail _ (.head _))))
  dsimp only at p1 p2 p3 pL
  -- names
  refine wpAny_execs_cons (wpAny_Assign_Name ?_ rfl)
  with_reducible refine eval_strs3 (s := { s with heap := h₁, toks := tk }) (Nat.lt_of_lt_of_le h0 htk) ?_
  intro hA NL nv tkA gA nNL hNL sNL tA
  dsimp only at gA nNL tA
  refine wpAny_storeName_local (env := envOfC _ _ L' 141 (.ref 140)) rfl (F'.ns.keeps gA) (fun h2 n2 sb2 => ?_) rfl
  have k2 : ∀ b o, b ≠ L' → hA.get? b = some o → h2.get? b = some o := fun b o q e => sb2.extBut b o q e
  -- sides
  refine wpAny_execs_cons (wpAny_Assign_Name ?_ rfl)
  with_reducible refine eval_two ?_
  intro hB SD S0 S1 gB nSD nS0 nS1 neS hSD hS0 hS1
  dsimp only at gB nSD nS0 nS1
  have oldA : ∀ {b : Addr}, h2.get? b = none → h₁.get? b = none := fun {b} q => by
    cases e : h₁.get? b with
    | none => rfl
    | some o =>
      exfalso
      by_cases r : b = L'
      · obtain ⟨o, _, _, ho, _⟩ := n2
        have ho' : h2.get? L' = some o := ho
        rw [r, ho'] at q; cases q
      · rw [k2 _ _ r (gA _ _ e)] at q; cases q
  have c3 : hB.get? (L' + 1) = some d3 := gB _ _ (k2 _ _ (Nat.succ_ne_self _) (gA _ _ p3.1))
  refine wpAny_storeName_cell (c := L' + 1) rfl rfl rfl ⟨d3, c3, y3⟩ (fun h3 c3' sb3 => ?_)
  dsimp only at c3' sb3
  have k3 : ∀ b o, b ≠ L' + 1 → hB.get? b = some o → h3.get? b = some o := fun b o q e => sb3.extBut b o q e
  have n2' : h2.Ns L' _ := n2
  have nL1 : (L' : Nat) ≠ L' + 1 := Nat.ne_of_lt (Nat.lt_succ_self _)
  have n3 : h3.Ns L' _ := Ns.upd (n2'.keeps gB) nL1 k3
  have d1S : ∀ {b : Addr}, h2.get? b = none → b ≠ L' + 1 := fun q r => by rw [r, k2 _ _ (Ne.symm nL1) (gA _ _ p3.1)] at q; cases q
  have hSD3 := k3 _ _ (d1S nSD) hSD
  have hS03 := k3 _ _ (d1S nS0) hS0
  have hS13 := k3 _ _ (d1S nS1) hS1
  have old3 : ∀ b o, b ≠ L' → b ≠ L' + 1 → h₁.get? b = some o → h3.get? b = some o := fun b o q1 q2 e => k3 b o q2 (gB _ _ (k2 b o q1 (gA _ _ e)))
  have hNL3 : h3.get? NL = some (lst nv 0) := k3 _ _ (fun r => by rw [r, p3.1] at nNL; cases nNL) (gB _ _ (k2 _ _ (fun r => by obtain ⟨o, _, _, ho, _⟩ := F'.ns; rw [r, ho] at nNL; cases nNL) hNL))
  have hb3 : Grow hb h3 := fun b o e => old3 b o (fun r => by rw [r, nL] at e; cases e) (fun r => by rw [r, p3.2.2] at e; cases e) (F'.keep b o e)
  have c23 : h3.IsCell (L' + 1 + 1) _ := ⟨d2, old3 _ _ (neN' (by omega)) (neN' (by omega)) p2.1, y2⟩
  have c13 : h3.IsCell (L' + 1 + 1 + 1) _ := ⟨d1, old3 _ _ (neN' (by omega)) (neN' (by omega)) p1.1, y1⟩
  have hL3 : h3.get? L = some oL := old3 _ _ (Nat.ne_of_lt hll) (Nat.ne_of_lt (Nat.lt_succ_of_lt hll)) pL.1
  clear k2 k3 sb2 sb3 gA gB n2 n2' c3 hSD hS0 hS1
  -- rows
  with_reducible refine wpAny_execs_cons ?_
  with_reducible refine wpAny_Assign_Name ?_ swaps_list
  with_reducible refine eval_rows6 ?_ ?_
  · dsimp only; omega
  intro h4 R vs tk4 g4 hR ts4 t4
  dsimp only at g4 t4
  refine wpAny_storeName_local (env := envOfC _ _ L' 141 (.ref 140)) rfl (n3.keeps g4) (fun h5 n5 sb5 => ?_) rfl
  have n5' : h5.Ns L' _ := n5
  dsimp only at sb5
  have k5 : ∀ b o, b ≠ L' → h4.get? b = some o → h5.get? b = some o := fun b o q e => sb5.extBut b o q e
  obtain ⟨oF, esF, epF, hoF, hdF, _⟩ := id (n3.keeps g4)
  have seqL4 : ∀ {b : Addr} {o : Obj}, h4.get? b = some o → (∃ xs n, o.data = .seq xs n) → b ≠ L' := fun e hq r => by
    obtain ⟨xs, n, hq⟩ := hq
    rw [r, hoF] at e
    cases e
    rw [hdF] at hq; cases hq
  have hR5 := k5 _ _ (seqL4 hR ⟨_, _, rfl⟩) hR
  have ts5 := ts4.upL (T' := tk4 + 1) (Nat.le_succ _) fun b o hq e => k5 b o (seqL4 e hq) e
  have old5 : ∀ b o, b ≠ L' → h3.get? b = some o → h5.get? b = some o := fun b o q e => k5 b o q (g4 _ _ e)
  have seq5 : ∀ {b : Addr} {o : Obj}, h3.get? b = some o → (∃ xs n, o.data = .seq xs n) → h5.get? b = some o := fun e hq => old5 _ _ (seqL4 (g4 _ _ e) hq) e
  have hNL5 := seq5 hNL3 ⟨_, _, rfl⟩
  have hvl : vs.length = 6 := ts4.length
  clear k5 sb5 n5
  have ts6 : TupsAt (tk4 + 1) h5 vs rows6 := by
    simp only [rows6, List.map_cons, List.map_nil]
    with_reducible exact ts5
  -- for n in script
  have hsc5 : h5.IsList SC sv.toArray := by
    obtain ⟨o, ho, hc, n, hd⟩ := toHb _ _ hsc
    exact ⟨o, seq5 (hb3 _ _ ho) ⟨_, _, hd⟩, hc, n, hd⟩
  have hTA : tkA ≤ tk4 + 1 := by omega
  obtain ⟨m5, f1, f2, f3, n6⟩ : ∃ m5 : Str → Option Value, m5 "script" = some (.ref SC) ∧ m5 "names" = some (.ref NL) ∧ m5 "rows" = some (.ref R) ∧ h5.Ns L' m5 := by
    refine ⟨_, ?_, ?_, ?_, n5'⟩
    · exact (if_neg (by decide)).trans ((if_neg (by decide)).trans rfl)
    · exact (if_neg (by decide)).trans (if_pos rfl)
    · exact if_pos rfl
  clear n5'
  have sNL3 : StrsT tkA nv names3 := by
    simp only [names3, List.map_cons, List.map_nil]
    with_reducible exact sNL
  have hNLi : h5.IsList NL nv.toArray := ⟨_, hNL5, rfl, _, rfl⟩
  refine execs_step (RowsZ { s with heap := h5, toks := tk4 + 1 } L' m5 (rows6 ++ rowsN ks)) ?_ ?_
  · with_reducible refine rows_loop (SC := SC) (NL := NL) (R := R) (s := { s with heap := h5, toks := tk4 + 1 }) (T := tkA) (rs := rows6) (nv := nv) ?_ ?_ n6 ?_ ?_ ?_ ?_ ?_ f1 f2 f3 hsc5 hks hNLi sNL3 hTA hR5 ts6 (by omega) ?_
    all_goals first | rfl | exact (fun _ => rfl)
  rintro s6 ⟨h6, tk6, m6, R6, vs6, n6', rfl, z1, z2, z3, z4, z5, z6, z7⟩
  dsimp only at z6 z7
  have hlen6 : vs6.length = 6 + ks.length := by rw [z5.length, List.length_append, rowsN, List.length_map]; rfl
  have seq6 : ∀ {b : Addr} {o : Obj}, h3.get? b = some o → (∃ xs n, o.data = .seq xs n) → h6.get? b = some o := fun e hq => z6 _ _ (seqL4 (g4 _ _ e) hq) (seq5 e hq)
  have hSD6 := seq6 hSD3 ⟨_, _, rfl⟩
  have hS06 := seq6 hS03 ⟨_, _, rfl⟩
  have hS16 := seq6 hS13 ⟨_, _, rfl⟩
  have old6 : ∀ b o, b ≠ L' → h3.get? b = some o → h6.get? b = some o := fun b o q e => z6 b o q (old5 b o q e)
  have cs6 : h6.IsCell (L' + 1) (some (.ref SD)) := by
    obtain ⟨o, ho, hd⟩ := c3'
    exact ⟨o, old6 _ _ (Ne.symm nL1) ho, hd⟩
  have cr6 : ∃ v, h6.IsCell (L' + 1 + 1) v := by
    obtain ⟨o, ho, hd⟩ := c23
    exact ⟨_, o, old6 _ _ (neN' (by omega)) ho, hd⟩
  have ck6 : ∃ v, h6.IsCell (L' + 1 + 1 + 1) v := by
    obtain ⟨o, ho, hd⟩ := c13
    exact ⟨_, o, old6 _ _ (neN' (by omega)) ho, hd⟩
  have hb6 : Grow hb h6 := fun b o e => old6 b o (fun r => by rw [r, nL] at e; cases e) (hb3 b o e)
  have b6 : Grow base h6 := fun b o e => hb6 b o (S.st b o e)
  have rok := rows_ok ks
  have hP : ∀ i, (sidesF ((rows6 ++ rowsN ks).take i)).1.length ≤ 90 ∧ (sidesF ((rows6 ++ rowsN ks).take i)).2.length ≤ 90 ∧ okRows (sidesF ((rows6 ++ rowsN ks).take i)).1 ∧ okRows (sidesF ((rows6 ++ rowsN ks).take i)).2 := fun i => by
    have h := fold_ok ((rows6 ++ rowsN ks).take i) ([], []) 0 (fun p hp => okP_of (rok p (List.mem_of_mem_take hp))) (Nat.le_refl _) (Nat.le_refl _) (fun q hq => nomatch hq) (fun q hq => nomatch hq)
    have hl : ((rows6 ++ rowsN ks).take i).length ≤ 11 := by
      rw [List.length_take, List.length_append, rowsN, List.length_map]
      have : rows6.length = 6 := rfl
      omega
    obtain ⟨a, b, c, d⟩ := h
    exact ⟨by show _ ≤ 90; exact Nat.le_trans a (by omega), Nat.le_trans b (by omega), c, d⟩
  have nSD6 : SD ≠ S0 ∧ SD ≠ S1 := ⟨fun r => (by rw [r, hS06] at hSD6; cases hSD6), fun r => (by rw [r, hS16] at hSD6; cases hSD6)⟩
  have nR6 : R6 ≠ S0 ∧ R6 ≠ S1 := ⟨fun r => (by rw [r, hS06] at z4; cases z4; simp at hlen6; omega), fun r => (by rw [r, hS16] at z4; cases z4; simp at hlen6; omega)⟩
  have sd6 : SidesAt tk6 S0 S1 h6 ([], []) := ⟨neS, ⟨[], 0, hS06, .nil⟩, ⟨[], 0, hS16, .nil⟩⟩
  have hne : ∀ p ∈ rows6 ++ rowsN ks, p.2 ≠ [] := fun p hp => (rok p hp).1
  have nrow := fun a r k t rv n x y z => And.intro (nrow_of z5 hne hS06 a r k t rv n x y z) (nrow_of z5 hne hS16 a r k t rv n x y z)
  have hrl : ∀ p ∈ rows6 ++ rowsN ks, p.2.length ≤ 3 ∧ ∀ x ∈ p.2, PyData.strOk x = true := fun p hp => okP_of (rok p hp)
  have nS0b : base.get? S0 = none := Grow.none S.st (nb (oldA nS0))
  have nS1b : base.get? S1 = none := Grow.none S.st (nb (oldA nS1))
  have nck : base.get? (L' + 1 + 1 + 1) = none := Grow.none S.st p1.2.2
  have ncr : base.get? (L' + 1 + 1) = none := Grow.none S.st p2.2.2
  refine execs_step (OuterZ { s with heap := h6, toks := tk6 } L' (L' + 1 + 1 + 1) (L' + 1 + 1) S0 S1 m6 (sidesF (rows6 ++ rowsN ks))) ?_ ?_
  · with_reducible refine outer_loop (s := { s with heap := h6, toks := tk6 }) (cs := L' + 1) (SD := SD) (R := R6) (vs := vs6) ?_ ?_ ?_ z1 z2 b6 cs6 ck6 cr6 hSD6 sd6 z4 z5 (Grow.none S.st nL) nS0b nS1b nck ncr nSD6 (neN' (by omega)) (neN' (by omega)) (neN' (by omega)) nR6 nrow ?_ ?_ ?_ ?_ hrl hP ?_ ?_
    any_goals rfl
    · exact fun _ => rfl
    · intro s7 m7 wh tw r n nr rv row sd v₀ q1 q2 q3 q4 q5 q6 q7 q8 q9 q10 q11 q12 q13 q14 q15 q16 q17
      refine execs_step _ (inner_loop (wh := wh) (row := row) (n := n) (nr := nr) (rv := rv) S rfl rfl rfl q1 q3 q4 q5 q6 q7 q8 nS0b nS1b nck nSD6 q9 (neN' (by omega)) (neN' (by omega)) q10 q11 q14 q15 q16 q17 rfl rfl rfl (fun _ => rfl) (by k_is) boot_range ?_) (fun s8 z => wpAny_execs_nil ⟨rfl, z⟩)
      intro s9 k Sk tk9 n9 nk nr9 vk rv9 side u1 u2 u3 u4 u5 u6 u7 u8 u9 u10 u11 u12 u13 u14 u15 u16
      refine side_step (n := n9) (nk := nk) (nr := nr9) (vk := vk) (rv := rv9) (N := fun b => b ≠ S0 ∧ b ≠ S1) S rfl rfl rfl rfl u1 u2 q2 u3 u4 u5 u6 u7 (by simp) u8 u9 ?_ ?_ u13 u14 u15 ?_ q13 u16 rfl rfl rfl rfl rfl rfl rfl rfl rfl (by with_unfolding_all rfl) (by decide) rfl (by decide) rfl (fun _ => rfl) (fun _ => rfl) (fun _ => rfl) (fun _ => rfl) rfl rfl rfl (fun _ => rfl) (by with_unfolding_all rfl) rfl rfl (by k_is) (by k_is) boot_len boot_range
      · rintro ⟨a, b⟩
        rcases u10 with r | r
        · exact a r
        · exact b r
      · intro b hb'
        obtain ⟨o1, e1⟩ := u11
        obtain ⟨o2, e2⟩ := u12
        exact ⟨fun r => (by rw [r, e1] at hb'; cases hb'), fun r => (by rw [r, e2] at hb'; cases hb')⟩
      · have := u15.length
        have h2 := q11.length
        omega
  rintro s10 ⟨h10, tk10, m10, rfl, r1, r2, r3, r4, r5, r6, r7⟩
  dsimp only at r6 r7
  have kept : ∀ b o, b ≠ L' → b ≠ S0 → b ≠ S1 → b ≠ L' + 1 → b ≠ L' + 1 + 1 → b ≠ L' + 1 + 1 + 1 → h₁.get? b = some o → h10.get? b = some o := fun b o w1 w2 w3 w4 w5 w6 e => r6 b o w1 w2 w3 w5 w6 (old6 b o w1 (old3 b o w1 w4 e))
  have S0n : ∀ {b : Addr} {o : Obj}, h₁.get? b = some o → b ≠ S0 ∧ b ≠ S1 := fun e => ⟨fun r => (by have q := oldA nS0; rw [← r, e] at q; cases q), fun r => (by have q := oldA nS1; rw [← r, e] at q; cases q)⟩
  have csn : h10.IsCell (L' + 1) (some (.ref SD)) := by
    obtain ⟨o, ho, hd⟩ := cs6
    have nn : ∀ {b : Addr}, h2.get? b = none → (L' + 1 : Nat) ≠ b := fun q r => d1S q r.symm
    exact ⟨o, r6 _ _ (Ne.symm nL1) (nn nS0) (nn nS1) (neN' (by omega)) (neN' (by omega)) ho, hd⟩
  have hSDn : h10.get? SD = some (lst [.ref S0, .ref S1] 0) := by
    obtain ⟨v1, o1, ho1, hd1⟩ := cr6
    obtain ⟨v2, o2, ho2, hd2⟩ := ck6
    refine r6 _ _ (seqL4 (g4 _ _ hSD3) ⟨_, _, rfl⟩) nSD6.1 nSD6.2 (fun r => ?_) (fun r => ?_) hSD6
    · rw [r, ho1] at hSD6; cases hSD6; cases hd1
    · rw [r, ho2] at hSD6; cases hSD6; cases hd2
  have kk : Grow s.heap h10 := fun b o ee => by
    have hbL' : b < L' := by rw [← G3]; exact Heap.lt_size ee
    have e1 : h₁.get? b = some o := by
      by_cases q : L = b
      · subst q
        rw [hL] at ee
        cases ee
        exact pL.1
      · exact F'.keep _ _ (G1 b o ee fun p hp r => by rw [List.mem_singleton.mp hp] at r; exact q r)
    obtain ⟨w2, w3⟩ := S0n e1
    have lt : @LT.lt Nat _ b L' := hbL'
    exact kept b o (Nat.ne_of_lt hbL') w2 w3 (neN' (by omega)) (neN' (by omega)) (neN' (by omega)) e1
  refine wpAny_execs_cons (wpAny_Return_some (name_C rfl rfl (by decide) rfl csn ?_))
  exact ret h10 tk10 SD S0 S1 0 kk hSDn r5 (by omega)
end Mine
end
section
open PySem PySem.W PyProof.Rows PySem.Calls PySem.Spec
set_option maxRecDepth 100000
namespace Mine
theorem uld_count (a : Str) : ∀ (xs ys zs : List Str), (uld xs ys zs).1.count a = zs.count a + (xs.count a - ys.count a) ∧ (uld xs ys zs).2.count a = ys.count a - xs.count a
  | [], ys, zs => by simp [uld]
  | x :: r, ys, zs => by
    unfold uld
    split
    · rename_i h
      obtain ⟨h1, h2⟩ := uld_count a r (ys.erase x) zs
      rw [h1, h2, List.count_erase, List.count_cons]
      have hp : 0 < ys.count x := List.count_pos_iff.mpr h
      by_cases q : x = a
      · subst q; simp; omega
      · have q1 : (x == a) = false := by simpa using q
        simp [q1]
    · rename_i h
      obtain ⟨h1, h2⟩ := uld_count a r ys (zs ++ [x])
      rw [h1, h2, List.count_append, List.count_cons, List.count_cons, List.count_nil]
      have hp : ys.count x = 0 := List.count_eq_zero.mpr h
      by_cases q : x = a
      · subst q; simp; omega
      · have q1 : (x == a) = false := by simpa using q
        simp [q1]
theorem nil_of_count {l : List Str} (h : ∀ a, l.count a = 0) : l = [] := by
  cases l with
  | nil => rfl
  | cons x r => have := h x; simp at this
theorem uld_nil {xs ys : List Str} (h : ∀ a, xs.count a = ys.count a) : uld xs ys [] = ([], []) := by
  have h1 : (uld xs ys []).1 = [] := nil_of_count fun a => by rw [(uld_count a xs ys []).1, h a]; simp
  have h2 : (uld xs ys []).2 = [] := nil_of_count fun a => by rw [(uld_count a xs ys []).2, h a]; simp
  exact Prod.ext h1 h2
theorem any_count (l : List Str) (x : Str) : (l.any fun y => y == x) = decide (0 < l.count x) := by
  rw [Bool.eq_iff_iff]
  simp [List.any_eq_true, List.count_pos_iff]
theorem told_due {H T xs : List Str} {left right : List (List Str)} (h1 : ∀ x ∈ xs, H.count x = cnt left (rowOf x)) (h2 : ∀ x ∈ xs, T.count x = cnt right (rowOf x)) : toldD H T xs = dueD left right xs := by
  have c1 : ∀ a, (uld H.reverse T []).1.count a = H.count a - T.count a := fun a => by rw [(uld_count a _ _ _).1, List.count_reverse]; simp
  have c2 : ∀ a, (uld H.reverse T []).2.count a = T.count a - H.count a := fun a => by rw [(uld_count a _ _ _).2, List.count_reverse]
  have c3 : ∀ a, (uld H.reverse (uld H.reverse T []).1 []).1.count a = H.count a - (H.count a - T.count a) := fun a => by rw [(uld_count a _ _ _).1, List.count_reverse, c1]; simp
  unfold toldD dueD
  dsimp only
  rw [uld_nil (xs := ((uld H.reverse (uld H.reverse T []).1 []).1 ++ (uld H.reverse T []).1).reverse) (fun a => by rw [List.count_reverse, List.count_append, c3, c1]; omega),
    uld_nil (xs := ((uld H.reverse T []).2 ++ (uld H.reverse (uld H.reverse T []).1 []).1).reverse) (fun a => by rw [List.count_reverse, List.count_append, c3, c2]; omega)]
  congr 2
  apply List.map_congr_left
  intro x hx
  unfold rowD dueRow
  rw [any_count, any_count, c1, c2, h1 x hx, h2 x hx]
  have e : restOf left right x = (cnt left (rowOf x) : Int) - cnt right (rowOf x) := rfl
  rw [e]
  congr 2
  · congr 1; split <;> omega
  · congr 1
    · congr 1; split <;> omega
    · congr 1
      · congr 1; rw [decide_eq_decide]; omega
      · congr 1; congr 1; rw [decide_eq_decide]; omega
end Mine
end
section
open PySem PySem.W PyProof.Rows PySem.Calls PySem.Spec
set_option maxRecDepth 100000
namespace Mine
def jn (r : List Str) : Str := Txt.join (Str.ofString "/") r
def rows39 : List (List Str) := names3.flatMap fun a => [a] :: names3.flatMap fun b => [a, b] :: names3.map fun c => [a, b, c]
theorem mem39 {r : List Str} (h0 : r ≠ []) (h1 : r.length ≤ 3) (h2 : ∀ x ∈ r, x ∈ names3) : r ∈ rows39 := by
  match r, h0, h1, h2 with
  | [a], _, _, h2 => exact List.mem_flatMap.mpr ⟨a, h2 a (.head _), .head _⟩
  | [a, b], _, _, h2 => exact List.mem_flatMap.mpr ⟨a, h2 a (.head _), .tail _ (List.mem_flatMap.mpr ⟨b, h2 b (.tail _ (.head _)), .head _⟩)⟩
  | [a, b, c], _, _, h2 => exact List.mem_flatMap.mpr ⟨a, h2 a (.head _), .tail _ (List.mem_flatMap.mpr ⟨b, h2 b (.tail _ (.head _)), .tail _ (List.mem_map.mpr ⟨c, h2 c (.tail _ (.tail _ (.head _))), rfl⟩)⟩)⟩
  | a :: b :: c :: d :: r, _, h1, _ => simp at h1
theorem chk39 : rows39.all (fun r => decide ((jn r).length ≤ 20) && S8.all fun x => (dn (jn r) == x) == eqS r.dropLast (rowOf x)) = true := by decide +kernel
end Mine
end
section
open PySem PySem.W PyProof.Rows PySem.Calls PySem.Spec
set_option maxRecDepth 100000
namespace Mine
def nice (rs : List (List Str)) : Prop := ∀ r ∈ rs, r ≠ [] ∧ r.length ≤ 3 ∧ ∀ x ∈ r, x ∈ names3
theorem count_eq {rs : List (List Str)} (h : nice rs) {x : Str} (hx : x ∈ S8) : ((rs.map jn).map dn).count x = cnt rs (rowOf x) := by
  unfold cnt
  induction rs with
  | nil => rfl
  | cons r rs ih =>
    obtain ⟨a, b, c⟩ := h r (.head _)
    have k := List.all_eq_true.mp chk39 r (mem39 a b c)
    rw [Bool.and_eq_true, List.all_eq_true] at k
    have k2 := eq_of_beq (k.2 x hx)
    rw [List.map_cons, List.map_cons, List.count_cons, List.countP_cons, ih fun q hq => h q (.tail _ hq), k2]
theorem jn_len {rs : List (List Str)} (h : nice rs) : ∀ p ∈ rs.map jn, p.length ≤ 20 := by
  intro p hp
  obtain ⟨r, hr, rfl⟩ := List.mem_map.mp hp
  obtain ⟨a, b, c⟩ := h r hr
  have k := List.all_eq_true.mp chk39 r (mem39 a b c)
  rw [Bool.and_eq_true, decide_eq_true_eq] at k
  exact k.1
end Mine
end
section
open PySem PySem.W PyProof.Rows PySem.Calls PySem.Spec
set_option maxRecDepth 100000
namespace Mine
theorem addTo_nice {side : List (List Str)} {row : List Str} (h : nice side) (hr : row ≠ [] ∧ row.length ≤ 3 ∧ ∀ x ∈ row, x ∈ names3) : nice (addTo side row) := by
  intro q hq
  rcases List.mem_append.mp hq with hq | hq
  · exact h q hq
  · obtain ⟨i, _, rfl⟩ := List.mem_map.mp (List.mem_filter.mp hq).1
    obtain ⟨a, b, c⟩ := hr
    refine ⟨fun e => ?_, Nat.le_trans (by rw [List.length_take]; exact Nat.min_le_right _ _) b, fun x hx => c x (List.mem_of_mem_take hx)⟩
    cases row with
    | nil => exact a rfl
    | cons y r => simp at e
theorem upd1_nice {wh k : Int} {side : List (List Str)} {row : List Str} (h : nice side) (hr : row ≠ [] ∧ row.length ≤ 3 ∧ ∀ x ∈ row, x ∈ names3) : nice (upd1 wh row k side) := by
  unfold upd1
  split
  · exact addTo_nice h hr
  · exact h
theorem fold_nice : ∀ (rs : List (Int × List Str)) (sd : Two), (∀ p ∈ rs, rowOK p) → nice sd.1 → nice sd.2 → nice (rs.foldl (fun sd p => (upd1 p.1 p.2 0 sd.1, upd1 p.1 p.2 1 sd.2)) sd).1 ∧ nice (rs.foldl (fun sd p => (upd1 p.1 p.2 0 sd.1, upd1 p.1 p.2 1 sd.2)) sd).2
  | [], sd, _, h1, h2 => ⟨h1, h2⟩
  | p :: rs, sd, h, h1, h2 => fold_nice rs _ (fun q hq => h q (.tail _ hq)) (upd1_nice h1 (h p (.head _))) (upd1_nice h2 (h p (.head _)))
theorem sides_nice (ks : List Int) : nice (sidesF (rows6 ++ rowsN ks)).1 ∧ nice (sidesF (rows6 ++ rowsN ks)).2 :=
  fold_nice _ _ (rows_ok ks) (fun q hq => nomatch hq) (fun q hq => nomatch hq)
theorem dueRow_lay (left right : List (List Str)) (x : Str) : (dueRow left right x).canLay0 = true ∧ (dueRow left right x).depth = 1 := by
  constructor
  · simp [dueRow, PyData.canLay0, PyData.canLayAll0]
  · simp [dueRow, PyData.depth, PyData.depthAll]
theorem due_shaped (left right : List (List Str)) : SeqAt.shaped (dueD left right S8) = true := by
  have h : ∀ xs : List Str, PyData.canLayAll0 (xs.map (dueRow left right) ++ [pairD ([], []), pairD ([], [])]) = true ∧ PyData.depthAll (xs.map (dueRow left right) ++ [pairD ([], []), pairD ([], [])]) ≤ 2 := by
    intro xs
    induction xs with
    | nil => exact ⟨rfl, (by decide : PyData.depthAll [pairD ([], []), pairD ([], [])] ≤ 2)⟩
    | cons x r ih =>
      obtain ⟨a, b⟩ := ih
      obtain ⟨c, d⟩ := dueRow_lay left right x
      refine ⟨?_, ?_⟩
      · simp only [List.map_cons, List.cons_append, PyData.canLayAll0, a, c, Bool.and_self]
      · simp only [List.map_cons, List.cons_append, PyData.depthAll]
        omega
  obtain ⟨a, b⟩ := h S8
  simp only [SeqAt.shaped, dueD, PyData.canLay0, PyData.depth, a, Bool.true_and, decide_eq_true_eq]
  omega
theorem plain_law (ks : List Int) : toldD (((sidesF (rows6 ++ rowsN ks)).1.map jn).map dn) (((sidesF (rows6 ++ rowsN ks)).2.map jn).map dn) S8 = dueD (sidesF (rows6 ++ rowsN ks)).1 (sidesF (rows6 ++ rowsN ks)).2 S8 :=
  told_due (fun x hx => count_eq (sides_nice ks).1 hx) (fun x hx => count_eq (sides_nice ks).2 hx)
end Mine
end
section
open PySem PySem.W PyProof.Rows PySem.Calls PySem.Spec
set_option maxRecDepth 100000
namespace Mine
theorem StrsT.pairs {T : Nat} : ∀ {vs : List Value} {xs : List Str}, StrsT T vs xs → ∃ l : List (Str × Tok), vs = strValues l ∧ l.map (·.1) = xs ∧ ∀ p ∈ l, TB p.2 T
  | _, _, .nil => ⟨[], rfl, rfl, fun p hp => nomatch hp⟩
  | _, _, .cons (x := x) (t := t) a h => by
    obtain ⟨l, rfl, rfl, hl⟩ := StrsT.pairs h
    exact ⟨(x, t) :: l, rfl, rfl, fun p hp => (List.mem_cons.mp hp).elim (fun e => e ▸ a) (hl p)⟩
theorem post_joinT {s : Shared} {sep : Str} {Q : Value → Shared → Prop} (h0 : 0 < s.toks) : ∀ (l : List (Str × Tok)), (∀ p ∈ l, TB p.2 s.toks) → ((Txt.join sep (l.map (·.1))).length ≤ sizeLine ∧ ∀ t' k, TB t' k → s.toks ≤ k → Q (.str (Txt.join sep (l.map (·.1))) t') { s with toks := k }) → (joinMade sep l).post Q s
  | [], _, h => ⟨h.1, h.2 _ _ (.new h0) (Nat.le_succ _)⟩
  | [p], ht, h => h.2 p.2 s.toks (ht p (.head _)) (Nat.le_refl _)
  | _ :: _ :: _, _, h => ⟨h.1, h.2 _ _ (.new h0) (Nat.le_succ _)⟩
theorem join_T {prog : Program} {w : World} {A : Around} {E : Value → Shared → Prop} {s : Shared} {x : Str} {t : Tok} {Q : Value → Shared → Prop} {D : Addr} {vs : List Value} {xs : List Str} (h0 : 0 < s.toks) (hl : s.heap.IsList D vs.toArray) (hs : StrsT s.toks vs xs) (hok : JoinOk x xs = true)
    (hq : ∀ t' k, TB t' k → s.toks ≤ k → Q (.str (Txt.join x xs) t') { s with toks := k }) : wpAny (model prog w) A (call (.builtin "str.join") [.str x t, .ref D]) Q E s := by
  obtain ⟨l, rfl, rfl, ht⟩ := hs.pairs
  unfold JoinOk at hok
  rw [Bool.not_eq_true'] at hok
  exact call_meets F.slot_str_join (typeIs_str _ _ _) F.entry_str_join (F.args_str_join_2 _ _) (meets_str_join_list x t D l hok) ⟨hl, post_joinT h0 l ht ⟨joinFit_length hok, hq⟩⟩
end Mine
end
section
open PySem PySem.W PyProof.Rows PySem.Calls PySem.Spec
set_option maxRecDepth 100000
namespace Mine
theorem AtF.up {w : World} {mean : ExcName → Option Value} {mg mb : Str → Option Value} {A : Around} {dp un : Nat} {gd : Option (List Code)} {base : Heap} {env : Env} {L : Addr} {m m' : Str → Option Value} {h h' : Heap}
    (C : AtF w mean mg mb A dp un gd base [] env L m [] h) (n : h'.Ns L m') (k : ∀ b o, b ≠ L → h.get? b = some o → h'.get? b = some o) : AtF w mean mg mb A dp un gd base [] env L m' [] h' := by
  obtain ⟨hA, ns, X, T, st, lo, fs, fh, hf, hk, hd, hu⟩ := C
  exact ⟨hA, n, X, T, fun b o e => k b o (fun q => by rw [q, Heap.get?_none_of_le lo] at e; cases e) (st b o e), lo, fs, (fun p hp => nomatch hp), hf, hk, hd, hu⟩
theorem AtF.grow {w : World} {mean : ExcName → Option Value} {mg mb : Str → Option Value} {A : Around} {dp un : Nat} {gd : Option (List Code)} {base : Heap} {env : Env} {L : Addr} {m : Str → Option Value} {h h' : Heap}
    (C : AtF w mean mg mb A dp un gd base [] env L m [] h) (g : Grow h h') : AtF w mean mg mb A dp un gd base [] env L m [] h' := AtF.up C (C.ns.keeps g) fun b o _ e => g b o e
theorem RowsT.get {T : Nat} {N : Addr → Prop} {h : Heap} {vs : List Value} {rs : List (List Str)} (x : RowsT T N h vs rs) {i : Nat} {v : Value} (e : vs[i]? = some v) : ∃ a n rv row, v = .ref a ∧ rs[i]? = some row ∧ h.get? a = some (lst rv n) ∧ StrsT T rv row := by
  induction x generalizing i with
  | nil => simp at e
  | cons _ a b _ ih =>
    cases i with
    | zero => simp at e; subst e; exact ⟨_, _, _, _, rfl, rfl, a, b⟩
    | succ i => simpa using ih (by simpa using e)
theorem RowsT.rowsAt {T : Nat} {N : Addr → Prop} {h : Heap} {vs : List Value} {rs : List (List Str)} (x : RowsT T N h vs rs) : RowsAt h vs rs := by
  induction x with
  | nil => exact .nil
  | cons _ a b _ ih => exact .cons ⟨_, _, rfl, ⟨_, a, rfl, _, rfl⟩, b.are⟩ ih
theorem join39 : rows39.all (fun r => JoinOk (Str.ofString "/") r) = true := by decide +kernel
theorem nice_join {rs : List (List Str)} (h : nice rs) : ∀ r ∈ rs, JoinOk (Str.ofString "/") r = true := fun r hr =>
  let ⟨a, b, c⟩ := h r hr
  List.all_eq_true.mp join39 r (mem39 a b c)
set_option maxHeartbeats 1000000 in
theorem join_comp {w : World} {A : Around} {env : Env} {m : Str → Option Value} {s : Shared} {Q : Value → Shared → Prop}
    {la : Addr} {vs : List Value} {rows : List (List Str)} {N : Addr → Prop} {src : Str} {p1 p2 p3 p4 p5 p6 pos : Pos} {sc : Scope}
    (hh : A.handled = none) (hk : env.scope.kind = .function) (hn : s.heap.Ns env.locals m) (hl : s.heap.IsList la vs.toArray) (hr : RowsT s.toks N s.heap vs rows) (hj : ∀ r ∈ rows, JoinOk (Str.ofString "/") r = true) (hz : vs.length ≤ 1000) (hsrc : m src = some (.ref la)) (h0 : 0 < s.toks)
    (hclos : closureFor sc env = pure []) (hcell : ∀ y ∈ sc.names, y.2 ≠ .cell) (hkind : sc.kind = .function) (hnames : ∀ y ∈ sc.names, y.2 = .local → sc.names.lookup y.1 = some .local) (hx : sc.names.lookup ("x" : Str) = some .local)
    (hsk : env.kindOf src = some .local) (hsd : (src == ("__debug__" : Str)) = false) (hcx : ∀ C, (compEnvC sc [] C env).kindOf "x" = some .local)
    (hbase : ∀ C, attributeBase (.Constant (.str "/") 0 p1) "join" (compEnvC sc [] C env) (eval (.Constant (.str "/") 0 p1) (compEnvC sc [] C env)) = eval (.Constant (.str "/") 0 p1) (compEnvC sc [] C env)) (hline : (p2.endLine == p4.line) = true)
    (hs : ∀ x, foldedSetIterable (.Name src p6) env x = pure x)
    (ret : ∀ D h' tk ys, h'.IsList D (List.toArray ys) → StrsT tk ys (rows.map jn) → Grow s.heap h' → s.toks ≤ tk → Q (.ref D) { s with heap := h', toks := tk }) :
    wpAny (model prog0 w) A (eval (.ListComp (.Call (.Attribute (.Constant (.str "/") 0 p1) "join" p2) [.Name "x" p3] [] p4) [⟨.Name "x" p5, .Name src p6, [], 0⟩] sc pos) env) Q Never s := by
  have hlen := hr.length
  have sl0 := sizeLine_eq
  refine ListComp_list (Z := fun _ us ys s => StrsT s.toks ys ((rows.take us.length).map jn)) hclos hcell hkind hnames hx hh hs ?_
  refine name_L (m := m) hn hk hsk hsd hsrc ?_
  refine ⟨la, vs, rfl, hl, by omega, (let ⟨o, _, _, ho, _⟩ := hn; ⟨o, ho⟩), ⟨fun N h tk hg ht => by simpa using StrsT.nil, fun N us ys s₂ h' tk' hz hk ht => hz.up ht, ?_⟩, ?_⟩
  · intro N' C us v ys s₂ m₂ hv hZ hs₂ hn₂ hm₂ hg hN hN' htk hC
    obtain ⟨a, n, rv, row, rfl, hri, ha, hrw⟩ := hr.get hv
    refine wpAny_tests_nil ⟨keeps_refl _, ?_⟩
    simp only [if_true]
    refine Call_method1 (hbase C) rfl hline (Constant_str ?_)
    refine ⟨"str", _, F.plainAttrs_str, F.slot_str_join, F.type_str_join, typeIs_str _ _ _, (fun _ e => nomatch e), ?_⟩
    refine callWith_builtin rfl (evalArgs_plain (spliced_cons (name_L (m := m₂) hn₂ hkind (hcx C) (by decide) hm₂ (spliced_nil ?_))))
    refine join_T (vs := rv) (xs := row) (by show 0 < s₂.toks + 1; omega) ⟨_, hg _ _ ha, rfl, _, rfl⟩ (hrw.up (by show _ ≤ s₂.toks + 1; omega)) (hj row (List.mem_of_getElem? hri)) ?_
    intro t' k ht' hk'
    dsimp only at hk'
    refine ⟨⟨s₂.heap, k, rfl, Grow.refl _⟩, ?_⟩
    dsimp only
    rw [List.length_append, List.length_singleton, List.take_add_one, hri, Option.toList_some, List.map_append]
    exact (hZ.up (by omega)).append (.cons ht' .nil)
  · intro D h' tk' ys N' j hD hpl' hyl hZ hN hND hg htk
    refine ret D h' tk' ys ⟨_, hpl', rfl, _, rfl⟩ ?_ hg htk
    have e : rows.take vs.length = rows := by rw [hlen, List.take_length]
    have hZ' := hZ
    dsimp only at hZ'
    rw [e] at hZ'
    exact hZ'
theorem IntsT.of {vs : List Value} {ks : List Int} (h : IntsAre vs ks) : IntsT vs ks := by
  induction h with
  | nil => exact .nil
  | cons _ _ _ ih => exact .cons ih
theorem IntsT.take : ∀ {vs : List Value} {ks : List Int} (_ : IntsT vs ks) (n : Nat), IntsT (vs.take n) (ks.take n)
  | _, _, .nil, _ => by simpa using IntsT.nil
  | _, _, .cons h, 0 => .nil
  | _, _, .cons h, n + 1 => .cons (IntsT.take h n)
theorem unpack_list {prog : Program} {w : World} {A : Around} {E : Value → Shared → Prop} {s : Shared} {env : Env} {elts : List Expr} {k : Nat} {pos : Pos} {l : Addr} {items : Array Value} {Q : Unit → Shared → Prop} (hh : A.handled = none) (hl : s.heap.IsList l items) (hn : (assignEach elts env).length = items.size)
    (hstar : (assignEach elts env).findIdx? (·.1) = none) (h : ∀ h', Grow s.heap h' → wpAny (model prog w) A (assignInOrder ((assignEach elts env).map (·.2)) items.toList) Q E { s with heap := h' }) :
    wpAny (model prog w) A (assign (.Tuple elts k pos) env (.ref l)) Q E s := by
  rw [assign_Tuple]
  refine wpAny_bind (wpAny_standAt ?_)
  unfold unpack
  rw [hn, hstar]
  exact wpAny_bind (wpAny_holding (kun_itemsOf hh hl fun h' x => h h' fun b o e => x b o (Nat.ne_of_lt (Heap.lt_size e)) e))
end Mine
end
section
open PySem PySem.W PyProof.Rows PySem.Calls PySem.Spec
set_option maxRecDepth 100000
namespace Mine
def Done (s : Shared) (base : Heap) (f : Flow) (s' : Shared) : Prop := f = .ret (.bool true) ∧ ∃ h tk, s' = { s with heap := h, toks := tk } ∧ Grow base h
set_option maxHeartbeats 1000000 in
theorem law_body {w : World} {mean : ExcName → Option Value} {mg mb : Str → Option Value} {A : Around} {dp un : Nat} {gd : Option (List Code)} {base : Heap} {env : Env} {L : Addr} {m : Str → Option Value} {s : Shared}
    {SC : Addr} {sv : List Value} {ks : List Int} {k : Nat} {a1 a2 a3 a4 a5 a6 a7 a8 a9 a10 b1 b2 b3 b4 b5 b6 b7 b8 b9 b10 b11 b12 b13 b14 b15 b16 c1 c2 c3 c4 c5 c6 : Pos} {sc1 sc2 : Scope}
    (C : AtF w mean mg mb A dp un gd base [] env L m [] s.heap) (hlo : env.locals = L) (hg : env.globals = mainGlobals) (hms : m "script" = some (.ref SC)) (hsc : base.IsList SC sv.toArray) (hks : IntsAre sv ks) (hz : ks.length ≤ 63) (hdd : dp + 21 < recursionLimit) (huu : un + 1003 < cLine) (h0 : 0 < s.toks)
    (k0 : env.kindOf "script" = some .local) (k1 : env.kindOf "left" = some .local) (k2 : env.kindOf "right" = some .local) (k3 : env.kindOf "_law_sides" = some .globalImplicit) (k4 : env.kindOf "_law_told" = some .globalImplicit) (k5 : env.kindOf "_law_due" = some .globalImplicit)
    (hclos1 : closureFor sc1 env = pure []) (hcell1 : ∀ y ∈ sc1.names, y.2 ≠ .cell) (hkind1 : sc1.kind = .function) (hnames1 : ∀ y ∈ sc1.names, y.2 = .local → sc1.names.lookup y.1 = some .local) (hx1 : sc1.names.lookup ("x" : Str) = some .local) (hcx1 : ∀ C, (compEnvC sc1 [] C env).kindOf "x" = some .local)
    (hclos2 : closureFor sc2 env = pure []) (hcell2 : ∀ y ∈ sc2.names, y.2 ≠ .cell) (hkind2 : sc2.kind = .function) (hnames2 : ∀ y ∈ sc2.names, y.2 = .local → sc2.names.lookup y.1 = some .local) (hx2 : sc2.names.lookup ("x" : Str) = some .local) (hcx2 : ∀ C, (compEnvC sc2 [] C env).kindOf "x" = some .local)
    (hbase1 : ∀ C, attributeBase (.Constant (.str "/") 0 b2) "join" (compEnvC sc1 [] C env) (eval (.Constant (.str "/") 0 b2) (compEnvC sc1 [] C env)) = eval (.Constant (.str "/") 0 b2) (compEnvC sc1 [] C env)) (hline1 : (b3.endLine == b5.line) = true)
    (hbase2 : ∀ C, attributeBase (.Constant (.str "/") 0 b9) "join" (compEnvC sc2 [] C env) (eval (.Constant (.str "/") 0 b9) (compEnvC sc2 [] C env)) = eval (.Constant (.str "/") 0 b9) (compEnvC sc2 [] C env)) (hline2 : (b10.endLine == b12.line) = true)
    (hs1 : ∀ x, foldedSetIterable (.Name "left" b7) env x = pure x) (hs2 : ∀ x, foldedSetIterable (.Name "right" b14) env x = pure x)
    (hsw : swapsWithSole [.Tuple [.Name "left" a1, .Name "right" a2] k a3] (.Call (.Name "_law_sides" a4) [.Subscript (.Name "script" a5) (.Slice none (some (.Constant (.int 5) 0 a6)) none a7) a8] [] a9) a10.line env = pure false)
    (hst : swappedStores [.Tuple [.Name "left" a1, .Name "right" a2] k a3] (.Call (.Name "_law_sides" a4) [.Subscript (.Name "script" a5) (.Slice none (some (.Constant (.int 5) 0 a6)) none a7) a8] [] a9) env = pure none)
    (n1 : nsIn (Mine.hd.heap_39 w.params) mainGlobals "_law_sides" = some (some (.ref 141))) (n2 : nsIn (Mine.hd.heap_39 w.params) mainGlobals "_law_told" = some (some (.ref 146))) (n3 : nsIn (Mine.hd.heap_39 w.params) mainGlobals "_law_due" = some (some (.ref 151)))
    {oc1 oc2 oc3 : Value} {od1 od2 od3 : Option Addr} {fd1 fd2 fd3 : FuncData} {os1 os2 os3 : Array (Option Value)} (f1 : (Mine.hd.heap_39 w.params).lookup 141 = some ⟨oc1, od1, .func fd1, os1⟩) (f2 : (Mine.hd.heap_39 w.params).lookup 146 = some ⟨oc2, od2, .func fd2, os2⟩) (f3 : (Mine.hd.heap_39 w.params).lookup 151 = some ⟨oc3, od3, .func fd3, os3⟩) :
    wpAny (model prog0 w) A (execs [
      .Assign [.Tuple [.Name "left" a1, .Name "right" a2] k a3] (.Call (.Name "_law_sides" a4) [.Subscript (.Name "script" a5) (.Slice none (some (.Constant (.int 5) 0 a6)) none a7) a8] [] a9) a10,
      .Return (some (.Compare (.Call (.Name "_law_told" b1) [.ListComp (.Call (.Attribute (.Constant (.str "/") 0 b2) "join" b3) [.Name "x" b4] [] b5) [⟨.Name "x" b6, .Name "left" b7, [], 0⟩] sc1 b8, .ListComp (.Call (.Attribute (.Constant (.str "/") 0 b9) "join" b10) [.Name "x" b11] [] b12) [⟨.Name "x" b13, .Name "right" b14, [], 0⟩] sc2 b15] [] b16) [.Eq]
        [.Call (.Name "_law_due" c1) [.Name "left" c2, .Name "right" c3] [] c4] c5)) c6] env) (Done s base) Never s := by
  have sl0 := sizeLine_eq
  have hk := C.hk
  have hh : A.handled = none := by rw [C.hA]
  have hu : A.units = un := by rw [C.hA]
  have hbL : base.get? L = none := Heap.get?_none_of_le C.lo
  have X := C.X
  have T := C.T
  have svl : sv.length = ks.length := hks.length
  -- left, right
  refine wpAny_execs_cons (Assign_Tuple ?_ hsw hst)
  refine call_G1 X T C.stays n1 f1 hg hk k3 (by decide) rfl ?_
  refine sub_slice (name_L (m := m) (by rw [hlo]; exact C.ns) hk k0 (by decide) hms ?_)
  rw [evalPart_none]
  refine wpAny_pure ?_
  rw [evalPart_some]
  refine wpAny_Constant_int ?_
  refine ⟨SC, sv.toArray, none, some 5, rfl, C.stays.isList hsc, (by rw [List.size_toArray, svl]; omega), .none, .int _ _, ?_⟩
  intro h1 D g1 nD hD
  dsimp only at g1 nD
  rw [show (5 : Int) = ((5 : Nat) : Int) from rfl, pick_to] at hD
  have C1 := C.grow g1
  refine ⟨C1.stays, ?_⟩
  refine sides_c (s := { s with heap := h1, toks := _ }) (ks := ks.take 5) C1 ⟨_, hD, rfl, _, rfl⟩ ((IntsT.of hks).take 5) (by rw [List.length_take]; omega) hdd huu (by dsimp only; omega) ?_
  intro h2 tk2 SD S0 S1 n g2 hSD sd2 ht2
  dsimp only at g2 ht2
  have C2 := C1.grow g2
  obtain ⟨F1, F2⟩ := sides_nice (ks.take 5)
  have rok := rows_ok (ks.take 5)
  obtain ⟨z1, z2, o1, o2⟩ := fold_ok (rows6 ++ rowsN (ks.take 5)) ([], []) 0 (fun p hp => okP_of (rok p hp)) (Nat.le_refl _) (Nat.le_refl _) (fun q hq => nomatch hq) (fun q hq => nomatch hq)
  have pl := plain_law (ks.take 5)
  have hl11 : (rows6 ++ rowsN (ks.take 5)).length ≤ 11 := by
    rw [List.length_append, rowsN, List.length_map, List.length_take]
    have : rows6.length = 6 := rfl
    omega
  have z1' : (sidesF (rows6 ++ rowsN (ks.take 5))).1.length ≤ 100 := Nat.le_trans z1 (by omega)
  have z2' : (sidesF (rows6 ++ rowsN (ks.take 5))).2.length ≤ 100 := Nat.le_trans z2 (by omega)
  have o1' : okRows (sidesF (rows6 ++ rowsN (ks.take 5))).1 := o1
  have o2' : okRows (sidesF (rows6 ++ rowsN (ks.take 5))).2 := o2
  clear z1 z2 o1 o2 rok hl11
  generalize (sidesF (rows6 ++ rowsN (ks.take 5))) = LR at sd2 F1 F2 pl z1' z2' o1' o2'
  obtain ⟨left, right⟩ := LR
  dsimp only at F1 F2 pl z1' z2' o1' o2'
  refine unpack_list (items := #[.ref S0, .ref S1]) hh ⟨_, hSD, rfl, _, rfl⟩ rfl rfl ?_
  intro h3 g3
  dsimp only at g3
  have C3 := C2.grow g3
  show wpAny _ _ (assignInOrder ((assignEach [.Name "left" a1, .Name "right" a2] env).map (·.2)) [.ref S0, .ref S1]) _ _ _
  have ea : (assignEach [.Name "left" a1, .Name "right" a2] env).map (·.2) = [assign (.Name "left" a1) env, assign (.Name "right" a2) env] := rfl
  rw [ea]
  refine wpAny_assignInOrder_more (wpAny_assign_Name (wpAny_storeName_local k1 (by rw [hlo]; exact C3.ns) ?_ (by rw [hk]; rfl)))
  intro h4 n4 sb4
  rw [hlo] at n4 sb4
  dsimp only at sb4
  have C4 := C3.up n4 fun b o q e => sb4.extBut b o q e
  refine wpAny_assignInOrder_more (wpAny_assign_Name (wpAny_storeName_local k2 (by rw [hlo]; exact C4.ns) ?_ (by rw [hk]; rfl)))
  intro h5 n5 sb5
  rw [hlo] at n5 sb5
  dsimp only at sb5
  have C5 := C4.up n5 fun b o q e => sb5.extBut b o q e
  have seqL : ∀ {h : Heap} {a : Addr} {xs : List Value} {n : Nat} {m' : Str → Option Value}, h.get? a = some (lst xs n) → h.Ns L m' → a ≠ L := fun e y q => by
    obtain ⟨o', es, ep, ho', hd', _⟩ := y
    rw [q, ho'] at e
    cases e
    cases hd'
  have sd5 := sd2.up (T' := tk2 + 1 + 1) (by omega) fun b vs n e => sb5.extBut _ _ (seqL (g3 _ _ e) C3.ns) (sb4.extBut _ _ (seqL (g3 _ _ e) C3.ns) (g3 _ _ e))
  refine wpAny_assignInOrder_none ?_
  clear C C1 C2 C3 C4 sb4 sb5 n4 g3 g2 sd2 hSD g1 hD nD
  obtain ⟨-, ⟨lv, ln, hS0, rl⟩, ⟨rv, rn, hS1, rr⟩⟩ := sd5
  have ll : lv.length = left.length := rl.length
  have lr : rv.length = right.length := rr.length
  -- return
  refine wpAny_execs_cons (wpAny_Return_some (wpAny_Compare1 ?_ rfl))
  refine call_G2 X T C5.stays n2 f2 hg hk k4 (by decide) rfl ?_
  refine join_comp hh hk (by rw [hlo]; exact C5.ns) (la := S0) (vs := lv) ⟨_, hS0, rfl, _, rfl⟩ rl (nice_join F1) (by omega) ?_ ?_ hclos1 hcell1 hkind1 hnames1 hx1 k1 (by decide) hcx1 hbase1 hline1 hs1 ?_
  · exact (if_neg (by decide)).trans (if_pos rfl)
  · dsimp only; omega
  intro P h6 tk6 ps hP hps g6 ht6
  dsimp only at g6 ht6
  have C6 := C5.grow g6
  have rr6 := rr.up (T' := tk6) (N' := fun _ => True) ht6 fun b vs n _ e => ⟨trivial, g6 _ _ e⟩
  refine join_comp hh hk (by rw [hlo]; exact C6.ns) (la := S1) (vs := rv) ⟨_, g6 _ _ hS1, rfl, _, rfl⟩ rr6 (nice_join F2) (by omega) ?_ ?_ hclos2 hcell2 hkind2 hnames2 hx2 k2 (by decide) hcx2 hbase2 hline2 hs2 ?_
  · exact if_pos rfl
  · dsimp only; omega
  intro P2 h7 tk7 qs hP2 hqs g7 ht7
  dsimp only at g7 ht7
  have C7 := C6.grow g7
  refine ⟨C7.stays, ?_⟩
  have e1 : ps.length = left.length := by rw [hps.length, List.length_map]
  have e2 : qs.length = right.length := by rw [hqs.length, List.length_map]
  refine told_c (s := { s with heap := h7, toks := tk7 }) C7 (g7.isList hP) hP2 (hps.up ht7) hqs (jn_len F1) (jn_len F2) (by omega) (by omega) hdd huu (by dsimp only; omega) ?_
  intro h8 tk8 v n8 k8 R8
  dsimp only at k8
  have C8 := C7.up n8 k8
  have g57 := g6.trans g7
  have hS08 := k8 _ _ (seqL (g57 _ _ hS0) C7.ns) (g57 _ _ hS0)
  have hS18 := k8 _ _ (seqL (g57 _ _ hS1) C7.ns) (g57 _ _ hS1)
  have up8 : ∀ b vs n, h5.get? b = some (lst vs n) → h8.get? b = some (lst vs n) := fun b vs n e => k8 _ _ (seqL (g57 _ _ e) C7.ns) (g57 _ _ e)
  have rl8 := rl.up (T' := tk8 + (tk2 + 1 + 1)) (N' := fun _ => True) (by omega) fun b vs n _ e => ⟨trivial, up8 _ _ _ e⟩
  have rr8 := rr.up (T' := tk8 + (tk2 + 1 + 1)) (N' := fun _ => True) (by omega) fun b vs n _ e => ⟨trivial, up8 _ _ _ e⟩
  refine call_G2 X T C8.stays n3 f3 hg hk k5 (by decide) rfl ?_
  refine name_L (m := fun z => if z = Str.ofString "right" then some (Value.ref S1) else if z = Str.ofString "left" then some (Value.ref S0) else m z) (by rw [hlo]; exact C8.ns) hk k1 (by decide) ((if_neg (by decide)).trans (if_pos rfl)) ?_
  refine name_L (m := fun z => if z = Str.ofString "right" then some (Value.ref S1) else if z = Str.ofString "left" then some (Value.ref S0) else m z) (by rw [hlo]; exact C8.ns) hk k2 (by decide) (if_pos rfl) ?_
  refine ⟨C8.stays, ?_⟩
  refine due_c (s := { s with heap := h8, toks := tk8 }) C8 ⟨_, hS08, rfl, _, rfl⟩ ⟨_, hS18, rfl, _, rfl⟩ rl8.rowsAt rr8.rowsAt o1' o2' (by omega) (by omega) (fun r hr => Nat.le_trans (F1 r hr).2.1 (by decide)) (fun r hr => Nat.le_trans (F2 r hr).2.1 (by decide)) hdd huu ?_
  intro h9 tk9 v2 g9 R9
  dsimp only at g9
  obtain ⟨as8, R8⟩ := R8
  obtain ⟨as9, R9⟩ := R9
  rw [show left.map jn = (left.map jn) from rfl, pl] at R8
  have sh := due_shaped left right
  refine eq_dataH (s := { s with heap := h9, toks := tk9 }) (Reads.keeps g9 R8) R9 sh sh (by rw [hu]; omega) ?_
  have cl0 : (dueD left right S8).canLay0 = true := by
    unfold SeqAt.shaped at sh
    exact (Bool.and_eq_true_iff.mp sh).1
  rw [SeqAt.eqv_refl _ cl0]
  exact ⟨rfl, h9, tk9, rfl, fun b o e => g9 b o (C8.stays b o e)⟩
end Mine
end
section
open PySem PySem.W PyProof.Rows PySem.Calls PySem.Spec
set_option maxRecDepth 100000 in
set_option maxHeartbeats 8000000 in
theorem PySem.Challenge.cw_nq0007_01_holds : PySem.Challenge.rw_nq0007_01.Holds :=
  Mine.hd (by
  k_with_none
  k_go0; (all_goals try k_fold)
  (with_reducible rename Frag.In _ _ => KX)
  (with_reducible rename Top _ _ _ _ _ _ => T)
  (with_reducible rename Fr _ _ _ _ => F)
  (with_reducible rename IntsAre _ _ => hI)
  (with_reducible rename Heap.IsList _ _ _ => hL)
  rename _ = #[] => hg
  refine wpAny_mono (Mine.law_body (base := _) (L := _) (dp := _) (un := _) (gd := _) ⟨rfl, F.ns, KX, T, F.keep, F.above, trivial, (fun p hp => nomatch hp), rfl, rfl, by decide, by decide⟩ rfl rfl rfl hL hI ?_ (by decide) (by decide) ?_ rfl rfl rfl rfl rfl rfl (by with_unfolding_all rfl) (by decide) rfl (by decide) rfl (fun _ => rfl) (by with_unfolding_all rfl) (by decide) rfl (by decide) rfl (fun _ => rfl) (fun _ => rfl) rfl (fun _ => rfl) rfl (fun _ => rfl) (fun _ => rfl) rfl rfl (by k_is) (by k_is) (by k_is) (by k_is) (by k_is) (by k_is)) ?_ ?_
  · rename ¬ _ < _ => hc
    omega
  · exact Nat.succ_pos _
  · rintro f s' ⟨rfl, h, tk, rfl, g⟩
    refine ⟨.inl ⟨.bool true, .bool true, [], rfl, raisesW_false ?_, .bool true, ?_, unshared_nil⟩, g, rfl, hg⟩
    · wrow_none_raised
    · wrow_post
  · intro e s' x
    exact x.elim)
end
