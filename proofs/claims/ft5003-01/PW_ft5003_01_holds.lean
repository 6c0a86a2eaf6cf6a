import PyProof.Rows.All
import Wide.All
import OpenK.AllK
import Wide.FinOn
import PySem.Challenge.RW_ft5003_01

set_option Elab.async false
section
open PySem PySem.W PyProof.Rows
set_option maxRecDepth 100000
set_option maxHeartbeats 8000000
namespace Mine
open_top hd for PySem.Challenge.rw_ft5003_01
end Mine
end


/-! Base -/
section
open PySem PySem.W PyProof.Rows PySem.Spec PySem.Calls
set_option maxRecDepth 100000
set_option maxHeartbeats 8000000
namespace Mine

/-- everything that stands at an address outside S stands after -/
def Kp (S : List Addr) (h h' : Heap) : Prop := ∀ b o, b ∉ S → h.get? b = some o → h'.get? b = some o

theorem Kp.refl (S : List Addr) (h : Heap) : Kp S h h := fun _ _ _ e => e
theorem Kp.trans {S T : List Addr} {h₁ h₂ h₃ : Heap} (x : Kp S h₁ h₂) (y : Kp T h₂ h₃) (hs : ∀ a ∈ T, a ∈ S ∨ h₁.get? a = none) : Kp S h₁ h₃ := fun b o hb e =>
  y b o (fun hT => (hs b hT).elim hb fun q => by rw [q] at e; cases e) (x b o hb e)
theorem Kp.mono {S T : List Addr} {h h' : Heap} (x : Kp S h h') (hs : ∀ a ∈ S, a ∈ T) : Kp T h h' := fun b o hb e => x b o (fun q => hb (hs b q)) e

theorem Kp.fr {S : List Addr} {h₀ h h' : Heap} {L : Addr} {m : Str → Option Value} (F : Fr h₀ L h m) (k : Kp S h h') (hS : ∀ a ∈ S, h₀.get? a = none ∧ a ≠ L) : Fr h₀ L h' m := by
  refine ⟨?_, fun b o e => k b o (fun hb => ?_) (F.keep b o e), F.above⟩
  · obtain ⟨oL, es, ep, hL, r⟩ := F.ns
    exact ⟨oL, es, ep, k L oL (fun hb => (hS L hb).2 rfl) hL, r⟩
  · rw [(hS b hb).1] at e; cases e

section
variable {prog : Program} {w : World} {A A₀ : Around} {s : Shared} {K : Frag} {L : Addr} {h₀ base : Heap} {m mg mb : Str → Option Value} {news : List (Addr × Obj)} {p : Program} {loose : List Str} {mean : ExcName → Option Value}

/-- a plain def entered: as the library's entry, and the base within is told: all that stood at the call but the ledger's own -/
theorem enter_def {env : Env} {outer : List Env} {R : Result → Shared → Prop} {name qual : Str} {params : Arguments} {body : List Stmt} {scope : Scope} {dV kV doc pm cdv ct oc : Value} {an od : Option Addr} {osl : Array (Option Value)} {f : Addr} {args : Args} {binds : List (Str × Value)}
    (B : Below A₀ base outer h₀) (F : Fr h₀ L s.heap m) (X₀ : K.In h₀) (N : News h₀ L s.heap news) (T : Top p loose mean mg mb h₀) (hA : A.frames = some (env :: outer)) (hf : env.frame = some L) (hke : env.scope.kind = .function)
    (ho : K.lookup f = some ⟨oc, od, .func (fnOf name qual params body scope dV kV doc pm an cdv ct), osl⟩) (hcd : codeIn K cdv qual = true) (hroom : A.depth < recursionLimit)
    (hbind : BindsTo s (fnOf name qual params body scope dV kV doc pm an cdv ct) args binds) (hloc : ∀ y ∈ binds, scope.names.lookup y.1 = some .local)
    (h : ∀ g L' h₁, Fr h₀ L g m → Fr g L' h₁ (fun y => binds.reverse.lookup y) → News g L' h₁ news → Below A base (env :: outer) g → K.In g → Top p loose mean mg mb g → (∀ b o, b ∉ news.map (·.1) → s.heap.get? b = some o → g.get? b = some o) → L' = s.heap.objs.size →
      wpAny (model prog w) (A.deeper (envOf qual scope L' f cdv)) (execs body (envOf qual scope L' f cdv))
        (fun fl s' => LeaveK h₀ L m g R (match fl with | .ret v => v | _ => .none) s')
        (fun e s' => wpAny (model prog w) (A.deeper (envOf qual scope L' f cdv)) (leaving (envOf qual scope L' f cdv) e) (fun _ s'' => R (.error e) s'') (fun e' s'' => R (.error e') s'') s')
        { s with heap := h₁, toks := s.toks + binds.length })
    (hco : scope.isCoroutine = false) (hgen : scope.isGenerator = false) (hk : scope.kind = .function)
    (hcell : ∀ x ∈ scope.names, x.2 ≠ .cell) : codeAny (model prog w) A (.call (.ref f) args) R s := by
  obtain ⟨FG, BG, st, lv⟩ := groundX (R := R) B F N hA hf hke
  have Xs := X₀.keeps F.keep
  refine codeAny_call_def (fd := fnOf name qual params body scope dV kV doc pm an cdv ct) (body := body) (binds := binds) hroom (Xs _ _ ho) rfl (T.nolimit.keeps F.keep) (codeRec_of Xs hcd) rfl hbind hcell hloc (fun h₁ hns hk₁ => ?_) hco hgen hk
  refine wpAny_mono (h _ s.heap.objs.size h₁ FG ⟨hns, fun b o e => hk₁ b o (of_hideAll _ e), Nat.le_of_eq (hideAll_size _ _)⟩ ?_ BG (X₀.keeps st) (T.keeps st) (fun b o hb e => hideAll_get _ e hb) rfl) (fun fl s' hl => lv _ _ hl) fun _ _ y => y
  intro p hp
  exact ⟨hk₁ _ _ (N p hp).1, Nat.ne_of_lt (Heap.lt_size (N p hp).1), hideAll_none _ (List.mem_map_of_mem hp)⟩

end

end Mine
end


/-! RA -/
section
open PySem PySem.W PyProof.Rows PySem.Spec PySem.Calls
set_option maxRecDepth 100000
set_option maxHeartbeats 8000000
set_option linter.unusedVariables false
namespace Mine
example : (fun (_ : OpenLaw) (_ : Params → Frag) => True) PySem.Challenge.rw_ft5003_01 hd.heap_39 := by k_fill; trivial

structure Mt where
  h : Nat → Int
  t : Nat → Tok

abbrev cacheD (q : Mt) (cd : Addr) (mru lru mx ac : Value) : Obj :=
  dictOf [⟨q.h 0, .str (Str.ofString "_cache") (q.t 0), .ref cd⟩, ⟨q.h 1, .str (Str.ofString "_most_recently_used") (q.t 1), mru⟩, ⟨q.h 2, .str (Str.ofString "_least_recently_used") (q.t 2), lru⟩, ⟨q.h 3, .str (Str.ofString "_max_cache") (q.t 3), mx⟩, ⟨q.h 4, .str (Str.ofString "_after_cleanup_count") (q.t 4), ac⟩] 5
abbrev nodeD (q : Mt) (prev next key val : Value) : Obj :=
  dictOf [⟨q.h 0, .str (Str.ofString "prev") (q.t 0), prev⟩, ⟨q.h 1, .str (Str.ofString "next_key") (q.t 1), next⟩, ⟨q.h 2, .str (Str.ofString "key") (q.t 2), key⟩, ⟨q.h 3, .str (Str.ofString "value") (q.t 3), val⟩, ⟨q.h 4, .str (Str.ofString "cleanup") (q.t 4), .none⟩, ⟨q.h 5, .str (Str.ofString "size") (q.t 5), .none⟩] 6

theorem call_fin {h₀ h g h' : Heap} {L L' : Addr} {m' : Str → Option Value} {led led' : List (Addr × Obj)} (S : List Addr) (out : List (Addr × Obj)) (N : News h₀ L h led) (gk : ∀ b o, b ∉ led.map (·.1) → h.get? b = some o → g.get? b = some o)
    (F' : Fr g L' h' m') (N' : News g L' h' led') (ho : ∀ p ∈ out, p ∈ led' ∧ p.1 ∈ led.map (·.1)) (hS : ∀ p ∈ led, p.1 ∈ S ∨ p ∈ led') : Kp S h h' ∧ News h₀ L h' out := by
  refine ⟨fun b o hb e => ?_, fun p hp => ?_⟩
  · by_cases q : b ∈ led.map (·.1)
    · obtain ⟨p, hp, rfl⟩ := List.mem_map.mp q
      rw [(N p hp).1] at e
      cases e
      exact (N' p ((hS p hp).resolve_left hb)).1
    · exact F'.keep b o (gk b o q e)
  · obtain ⟨h1, h2⟩ := ho p hp
    obtain ⟨q, hq, e⟩ := List.mem_map.mp h2
    exact ⟨(N' p h1).1, e ▸ (N q hq).2.1, e ▸ (N q hq).2.2⟩

theorem getItem_D {prog : Program} {w : World} {A : Around} {E : Value → Shared → Prop} {s : Shared} {h₀ : Heap} {L d : Addr} {news : List (Addr × Obj)} {o : Obj} {kvs : List (Int × Value)} {k : Int} {t : Tok} {v : Value} {Q : Value → Shared → Prop}
    (N : News h₀ L s.heap news) (hp : (d, o) ∈ news) (hd : o.IsDictOf (PySem.intKind prog w) kvs) (hl : valueAt kvs k = some v) (h : Q v { s with toks := s.toks + 1 }) :
    wpAny (model prog w) A (getItem (.ref d) (.int k t)) Q E s :=
  wpAny_getItem_of (knd := PySem.intKind prog w) (intKind_is _ _ _ _) (kda_dict N hp hd).mapOf hl h

local macro_rules | `(tactic| walk_at "getItem ref int") => `(tactic| (k_here; k_dflt (refine getItem_D (by k_asm) (by k_mem) (by k_asm) (by assumption) ?_)))
local macro_rules | `(tactic| k_ne) => `(tactic| (refine neN ?_; (try dsimp only); first | assumption | exact Ne.symm (by assumption)))
local macro_rules | `(tactic| walk_at "subscriptTail") => `(tactic| (k_here; (with_reducible show wpAny _ _ (subscriptTail _ _ (Value.ref _) (Value.int _ _)) _ _ _); k_dflt (refine kda_item (knd := PySem.intKind _ _) (by k_asm) (by k_mem) (by k_asm) (intKind_is _ _ _ _) (by assumption) ?_)))
local macro_rules | `(tactic| walk_at "compareOp Is ref ref") => `(tactic| (k_here; (with_reducible show wpAny _ _ (compareOp CmpOp.Is (Value.ref _) (Value.ref _)) _ _ _); first | refine wpAny_is_ref_self ?_ | k_dflt (refine' kto_is ?a ?b ?n ?c ?_; (case a => kto_obj); (case b => kto_obj); (case n => k_ne); (case c => kto_not); k_whole)))

local macro_rules | `(tactic| k_enter) => `(tactic| (refine' code_def ?k1 ?k2 ?k3 ?k4 ?k5 ?kA ?kF ?kK ?k6 ?k7 ?k8 ?k9 ?kB ?_ ?c2 ?c3 ?c4 ?c5; (case kA => exact rfl); (case kF => exact rfl); (case kK => first | exact rfl | assumption); (case k1 => k_asm); (case k2 => k_asm); (case k3 => k_asm); (case k4 => k_asm); (case k5 => k_asm); (case k6 => k_is); (case k7 => k_is); (case k8 => ktr_room); (case k9 => first | exact BindsTo.of_eq rfl | exact binds_K (by k_in) rfl (by k_is) rfl rfl rfl); (case c5 => decide); (case kB => exact locs rfl); (case c2 => exact rfl); (case c3 => exact rfl); (case c4 => exact rfl); k_whole; intro g' L' h' FG' F' N' B' X' T'; (try dsimp only); (try k_lift B'); (try k_fold)))

theorem ra_first {prog : Program} {w : World} {p : Program} {loose : List Str} {mean : ExcName → Option Value} {mg mb : Str → Option Value}
  {dp un : Nat} {gd : Option (List Code)} {cn : Str} {cs : Scope} {a : Addr} {ccd : Value} {cl : List (Str × Addr)} {outer : List Env} {A₀ : Around} {base h₀ : Heap} {L : Addr} {m : Str → Option Value} {s : Shared} {Q E : Value → Shared → Prop}
  (B : Below A₀ base outer h₀) (F : Fr h₀ L s.heap m) (X : (hd.heap_39 w.params).In h₀) (T : Top p loose mean mg mb h₀) (hk : cs.kind = .function)
  (hdp : dp + 8 < recursionLimit) (hun : un + 60 < cLine)
  {q qn : Mt} {c dc cd n dn : Addr} {o : Obj} {kvs : List (Int × Value)} {mx ac : Value} {kn : Int} {tn : Tok} {vn : Value} {lru : Value}
  (ND : [c, dc, n, dn].Nodup) 
  (N : News h₀ L s.heap [(c, instObj 189 dc), (dc, cacheD q cd .none lru mx ac), (n, instObj 53 dn), (dn, nodeD qn .none .none (.int kn tn) vn)])
  (ret : ∀ h' tk', Kp [dc, dn] s.heap h' → News h₀ L h' [(c, instObj 189 dc), (dc, cacheD q cd (.ref n) (.ref n) mx ac), (n, instObj 53 dn), (dn, nodeD qn .none .none (.int kn tn) vn)] → Q .none { s with heap := h', toks := tk' }) :
  wpAny (model prog w) (ktrTop dp un gd cn cs L a ccd cl outer) (call (.ref 149) [.ref c, .ref n]) Q E s := by
  simp only [List.nodup_cons, List.mem_cons, List.not_mem_nil, or_false, not_or, List.nodup_nil, and_true, not_false_eq_true, not_or] at ND
  obtain ⟨⟨ne0, ne1, ne2⟩, ⟨ne3, ne4⟩, ne5⟩ := ND
  refine wpAny_call ?_
  k_dflt (refine' enter_def ?k1 ?k2 ?k3 ?k4 ?k5 ?kA ?kF ?kK ?k6 ?k7 ?k8 ?k9 ?kB ?_ ?c2 ?c3 ?c4 ?c5; (case kA => exact rfl); (case kF => exact rfl); (case kK => assumption); (case k1 => k_asm); (case k2 => k_asm); (case k3 => k_asm); (case k4 => k_asm); (case k5 => k_asm); (case k6 => k_is); (case k7 => k_is); (case k8 => ktr_room); (case k9 => exact BindsTo.of_eq rfl); (case c5 => decide); (case kB => exact locs rfl); (case c2 => exact rfl); (case c3 => exact rfl); (case c4 => exact rfl); k_whole; intro g' L' h' FG' F' N' B' X' T' gk' hL'; (try dsimp only); (try k_lift B'); (try k_fold))
  k_steps
  all_goals (
    refine (fun z => ret _ _ z.1 z.2) (call_fin [dc, dn] [(c, instObj 189 dc), (dc, cacheD q cd (.ref n) (.ref n) mx ac), (n, instObj 53 dn), (dn, nodeD qn .none .none (.int kn tn) vn)] N gk' (by k_asm) (by k_asm) ?e3 ?e4)
    (case e3 => (repeat' (first | exact List.forall_mem_nil _ | refine List.forall_mem_cons.mpr ⟨⟨by k_mem, by (dsimp only [List.map_cons, List.map_nil]; k_mem)⟩, ?_⟩)))
    (case e4 => (repeat' (first | exact List.forall_mem_nil _ | refine List.forall_mem_cons.mpr ⟨Or.inr (by k_mem), ?_⟩ | refine List.forall_mem_cons.mpr ⟨Or.inl (by k_mem), ?_⟩))))

theorem ra_mru {prog : Program} {w : World} {p : Program} {loose : List Str} {mean : ExcName → Option Value} {mg mb : Str → Option Value}
  {dp un : Nat} {gd : Option (List Code)} {cn : Str} {cs : Scope} {a : Addr} {ccd : Value} {cl : List (Str × Addr)} {outer : List Env} {A₀ : Around} {base h₀ : Heap} {L : Addr} {m : Str → Option Value} {s : Shared} {Q E : Value → Shared → Prop}
  (B : Below A₀ base outer h₀) (F : Fr h₀ L s.heap m) (X : (hd.heap_39 w.params).In h₀) (T : Top p loose mean mg mb h₀) (hk : cs.kind = .function)
  (hdp : dp + 8 < recursionLimit) (hun : un + 60 < cLine)
  {q : Mt} {c dc cd : Addr} {o : Obj} {kvs : List (Int × Value)} {mx ac : Value}  {n : Addr} {lru : Value}
  (ND : [c, dc].Nodup) 
  (N : News h₀ L s.heap [(c, instObj 189 dc), (dc, cacheD q cd (.ref n) lru mx ac)])
  (ret : ∀ h' tk', Kp [dc, ] s.heap h' → News h₀ L h' [(c, instObj 189 dc), (dc, cacheD q cd (.ref n) lru mx ac)] → Q .none { s with heap := h', toks := tk' }) :
  wpAny (model prog w) (ktrTop dp un gd cn cs L a ccd cl outer) (call (.ref 149) [.ref c, .ref n]) Q E s := by
  simp only [List.nodup_cons, List.mem_cons, List.not_mem_nil, or_false, not_or, List.nodup_nil, and_true, not_false_eq_true, not_or] at ND
  obtain ne0 := ND
  refine wpAny_call ?_
  k_dflt (refine' enter_def ?k1 ?k2 ?k3 ?k4 ?k5 ?kA ?kF ?kK ?k6 ?k7 ?k8 ?k9 ?kB ?_ ?c2 ?c3 ?c4 ?c5; (case kA => exact rfl); (case kF => exact rfl); (case kK => assumption); (case k1 => k_asm); (case k2 => k_asm); (case k3 => k_asm); (case k4 => k_asm); (case k5 => k_asm); (case k6 => k_is); (case k7 => k_is); (case k8 => ktr_room); (case k9 => exact BindsTo.of_eq rfl); (case c5 => decide); (case kB => exact locs rfl); (case c2 => exact rfl); (case c3 => exact rfl); (case c4 => exact rfl); k_whole; intro g' L' h' FG' F' N' B' X' T' gk' hL'; (try dsimp only); (try k_lift B'); (try k_fold))
  k_steps
  all_goals (
    refine (fun z => ret _ _ z.1 z.2) (call_fin [dc, ] [(c, instObj 189 dc), (dc, cacheD q cd (.ref n) lru mx ac)] N gk' (by k_asm) (by k_asm) ?e3 ?e4)
    (case e3 => (repeat' (first | exact List.forall_mem_nil _ | refine List.forall_mem_cons.mpr ⟨⟨by k_mem, by (dsimp only [List.map_cons, List.map_nil]; k_mem)⟩, ?_⟩)))
    (case e4 => (repeat' (first | exact List.forall_mem_nil _ | refine List.forall_mem_cons.mpr ⟨Or.inr (by k_mem), ?_⟩ | refine List.forall_mem_cons.mpr ⟨Or.inl (by k_mem), ?_⟩))))

theorem ra_newM {prog : Program} {w : World} {p : Program} {loose : List Str} {mean : ExcName → Option Value} {mg mb : Str → Option Value}
  {dp un : Nat} {gd : Option (List Code)} {cn : Str} {cs : Scope} {a : Addr} {ccd : Value} {cl : List (Str × Addr)} {outer : List Env} {A₀ : Around} {base h₀ : Heap} {L : Addr} {m : Str → Option Value} {s : Shared} {Q E : Value → Shared → Prop}
  (B : Below A₀ base outer h₀) (F : Fr h₀ L s.heap m) (X : (hd.heap_39 w.params).In h₀) (T : Top p loose mean mg mb h₀) (hk : cs.kind = .function)
  (hdp : dp + 8 < recursionLimit) (hun : un + 60 < cLine)
  {q qn qu : Mt} {c dc cd n dn u du : Addr} {o : Obj} {kvs : List (Int × Value)} {mx ac : Value} {kn ku : Int} {tn tu : Tok} {vn vu : Value} {nxu : Value}
  (ND : [c, dc, n, dn, u, du].Nodup) 
  (N : News h₀ L s.heap [(c, instObj 189 dc), (dc, cacheD q cd (.ref u) (.ref u) mx ac), (n, instObj 53 dn), (dn, nodeD qn .none .none (.int kn tn) vn), (u, instObj 53 du), (du, nodeD qu .none nxu (.int ku tu) vu)])
  (ret : ∀ h' tk', Kp [dc, dn, du] s.heap h' → News h₀ L h' [(c, instObj 189 dc), (dc, cacheD q cd (.ref n) (.ref u) mx ac), (n, instObj 53 dn), (dn, nodeD qn .none (.int ku tu) (.int kn tn) vn), (u, instObj 53 du), (du, nodeD qu (.ref n) nxu (.int ku tu) vu)] → Q .none { s with heap := h', toks := tk' }) :
  wpAny (model prog w) (ktrTop dp un gd cn cs L a ccd cl outer) (call (.ref 149) [.ref c, .ref n]) Q E s := by
  simp only [List.nodup_cons, List.mem_cons, List.not_mem_nil, or_false, not_or, List.nodup_nil, and_true, not_false_eq_true, not_or] at ND
  obtain ⟨⟨ne0, ne1, ne2, ne3, ne4⟩, ⟨ne5, ne6, ne7, ne8⟩, ⟨ne9, ne10, ne11⟩, ⟨ne12, ne13⟩, ne14⟩ := ND
  refine wpAny_call ?_
  k_dflt (refine' enter_def ?k1 ?k2 ?k3 ?k4 ?k5 ?kA ?kF ?kK ?k6 ?k7 ?k8 ?k9 ?kB ?_ ?c2 ?c3 ?c4 ?c5; (case kA => exact rfl); (case kF => exact rfl); (case kK => assumption); (case k1 => k_asm); (case k2 => k_asm); (case k3 => k_asm); (case k4 => k_asm); (case k5 => k_asm); (case k6 => k_is); (case k7 => k_is); (case k8 => ktr_room); (case k9 => exact BindsTo.of_eq rfl); (case c5 => decide); (case kB => exact locs rfl); (case c2 => exact rfl); (case c3 => exact rfl); (case c4 => exact rfl); k_whole; intro g' L' h' FG' F' N' B' X' T' gk' hL'; (try dsimp only); (try k_lift B'); (try k_fold))
  k_steps
  all_goals (
    refine (fun z => ret _ _ z.1 z.2) (call_fin [dc, dn, du] [(c, instObj 189 dc), (dc, cacheD q cd (.ref n) (.ref u) mx ac), (n, instObj 53 dn), (dn, nodeD qn .none (.int ku tu) (.int kn tn) vn), (u, instObj 53 du), (du, nodeD qu (.ref n) nxu (.int ku tu) vu)] N gk' (by k_asm) (by k_asm) ?e3 ?e4)
    (case e3 => (repeat' (first | exact List.forall_mem_nil _ | refine List.forall_mem_cons.mpr ⟨⟨by k_mem, by (dsimp only [List.map_cons, List.map_nil]; k_mem)⟩, ?_⟩)))
    (case e4 => (repeat' (first | exact List.forall_mem_nil _ | refine List.forall_mem_cons.mpr ⟨Or.inr (by k_mem), ?_⟩ | refine List.forall_mem_cons.mpr ⟨Or.inl (by k_mem), ?_⟩))))

theorem ra_newL {prog : Program} {w : World} {p : Program} {loose : List Str} {mean : ExcName → Option Value} {mg mb : Str → Option Value}
  {dp un : Nat} {gd : Option (List Code)} {cn : Str} {cs : Scope} {a : Addr} {ccd : Value} {cl : List (Str × Addr)} {outer : List Env} {A₀ : Around} {base h₀ : Heap} {L : Addr} {m : Str → Option Value} {s : Shared} {Q E : Value → Shared → Prop}
  (B : Below A₀ base outer h₀) (F : Fr h₀ L s.heap m) (X : (hd.heap_39 w.params).In h₀) (T : Top p loose mean mg mb h₀) (hk : cs.kind = .function)
  (hdp : dp + 8 < recursionLimit) (hun : un + 60 < cLine)
  {q qn qu : Mt} {c dc cd n dn u du l dl : Addr} {o : Obj} {kvs : List (Int × Value)} {mx ac : Value} {kn ku : Int} {tn tu : Tok} {vn vu : Value} {nxu : Value}
  (ND : [c, dc, n, dn, u, du, l].Nodup) 
  (N : News h₀ L s.heap [(c, instObj 189 dc), (dc, cacheD q cd (.ref u) (.ref l) mx ac), (n, instObj 53 dn), (dn, nodeD qn .none .none (.int kn tn) vn), (u, instObj 53 du), (du, nodeD qu .none nxu (.int ku tu) vu), (l, instObj 53 dl)])
  (ret : ∀ h' tk', Kp [dc, dn, du] s.heap h' → News h₀ L h' [(c, instObj 189 dc), (dc, cacheD q cd (.ref n) (.ref l) mx ac), (n, instObj 53 dn), (dn, nodeD qn .none (.int ku tu) (.int kn tn) vn), (u, instObj 53 du), (du, nodeD qu (.ref n) nxu (.int ku tu) vu), (l, instObj 53 dl)] → Q .none { s with heap := h', toks := tk' }) :
  wpAny (model prog w) (ktrTop dp un gd cn cs L a ccd cl outer) (call (.ref 149) [.ref c, .ref n]) Q E s := by
  simp only [List.nodup_cons, List.mem_cons, List.not_mem_nil, or_false, not_or, List.nodup_nil, and_true, not_false_eq_true, not_or] at ND
  obtain ⟨⟨ne0, ne1, ne2, ne3, ne4, ne5⟩, ⟨ne6, ne7, ne8, ne9, ne10⟩, ⟨ne11, ne12, ne13, ne14⟩, ⟨ne15, ne16, ne17⟩, ⟨ne18, ne19⟩, ne20⟩ := ND
  refine wpAny_call ?_
  k_dflt (refine' enter_def ?k1 ?k2 ?k3 ?k4 ?k5 ?kA ?kF ?kK ?k6 ?k7 ?k8 ?k9 ?kB ?_ ?c2 ?c3 ?c4 ?c5; (case kA => exact rfl); (case kF => exact rfl); (case kK => assumption); (case k1 => k_asm); (case k2 => k_asm); (case k3 => k_asm); (case k4 => k_asm); (case k5 => k_asm); (case k6 => k_is); (case k7 => k_is); (case k8 => ktr_room); (case k9 => exact BindsTo.of_eq rfl); (case c5 => decide); (case kB => exact locs rfl); (case c2 => exact rfl); (case c3 => exact rfl); (case c4 => exact rfl); k_whole; intro g' L' h' FG' F' N' B' X' T' gk' hL'; (try dsimp only); (try k_lift B'); (try k_fold))
  k_steps
  all_goals (
    refine (fun z => ret _ _ z.1 z.2) (call_fin [dc, dn, du] [(c, instObj 189 dc), (dc, cacheD q cd (.ref n) (.ref l) mx ac), (n, instObj 53 dn), (dn, nodeD qn .none (.int ku tu) (.int kn tn) vn), (u, instObj 53 du), (du, nodeD qu (.ref n) nxu (.int ku tu) vu), (l, instObj 53 dl)] N gk' (by k_asm) (by k_asm) ?e3 ?e4)
    (case e3 => (repeat' (first | exact List.forall_mem_nil _ | refine List.forall_mem_cons.mpr ⟨⟨by k_mem, by (dsimp only [List.map_cons, List.map_nil]; k_mem)⟩, ?_⟩)))
    (case e4 => (repeat' (first | exact List.forall_mem_nil _ | refine List.forall_mem_cons.mpr ⟨Or.inr (by k_mem), ?_⟩ | refine List.forall_mem_cons.mpr ⟨Or.inl (by k_mem), ?_⟩))))

theorem ra_lastM {prog : Program} {w : World} {p : Program} {loose : List Str} {mean : ExcName → Option Value} {mg mb : Str → Option Value}
  {dp un : Nat} {gd : Option (List Code)} {cn : Str} {cs : Scope} {a : Addr} {ccd : Value} {cl : List (Str × Addr)} {outer : List Env} {A₀ : Around} {base h₀ : Heap} {L : Addr} {m : Str → Option Value} {s : Shared} {Q E : Value → Shared → Prop}
  (B : Below A₀ base outer h₀) (F : Fr h₀ L s.heap m) (X : (hd.heap_39 w.params).In h₀) (T : Top p loose mean mg mb h₀) (hk : cs.kind = .function)
  (hdp : dp + 8 < recursionLimit) (hun : un + 60 < cLine)
  {q qn qu : Mt} {c dc cd n dn u du : Addr} {o : Obj} {kvs : List (Int × Value)} {mx ac : Value} {kn ku : Int} {tn tu : Tok} {vn vu : Value} 
  (ND : [c, dc, n, dn, u, du].Nodup) 
  (N : News h₀ L s.heap [(c, instObj 189 dc), (dc, cacheD q cd (.ref u) (.ref n) mx ac), (n, instObj 53 dn), (dn, nodeD qn (.ref u) .none (.int kn tn) vn), (u, instObj 53 du), (du, nodeD qu .none (.int kn tn) (.int ku tu) vu)])
  (ret : ∀ h' tk', Kp [dc, dn, du] s.heap h' → News h₀ L h' [(c, instObj 189 dc), (dc, cacheD q cd (.ref n) (.ref u) mx ac), (n, instObj 53 dn), (dn, nodeD qn .none (.int ku tu) (.int kn tn) vn), (u, instObj 53 du), (du, nodeD qu (.ref n) .none (.int ku tu) vu)] → Q .none { s with heap := h', toks := tk' }) :
  wpAny (model prog w) (ktrTop dp un gd cn cs L a ccd cl outer) (call (.ref 149) [.ref c, .ref n]) Q E s := by
  simp only [List.nodup_cons, List.mem_cons, List.not_mem_nil, or_false, not_or, List.nodup_nil, and_true, not_false_eq_true, not_or] at ND
  obtain ⟨⟨ne0, ne1, ne2, ne3, ne4⟩, ⟨ne5, ne6, ne7, ne8⟩, ⟨ne9, ne10, ne11⟩, ⟨ne12, ne13⟩, ne14⟩ := ND
  refine wpAny_call ?_
  k_dflt (refine' enter_def ?k1 ?k2 ?k3 ?k4 ?k5 ?kA ?kF ?kK ?k6 ?k7 ?k8 ?k9 ?kB ?_ ?c2 ?c3 ?c4 ?c5; (case kA => exact rfl); (case kF => exact rfl); (case kK => assumption); (case k1 => k_asm); (case k2 => k_asm); (case k3 => k_asm); (case k4 => k_asm); (case k5 => k_asm); (case k6 => k_is); (case k7 => k_is); (case k8 => ktr_room); (case k9 => exact BindsTo.of_eq rfl); (case c5 => decide); (case kB => exact locs rfl); (case c2 => exact rfl); (case c3 => exact rfl); (case c4 => exact rfl); k_whole; intro g' L' h' FG' F' N' B' X' T' gk' hL'; (try dsimp only); (try k_lift B'); (try k_fold))
  k_steps
  all_goals (
    refine (fun z => ret _ _ z.1 z.2) (call_fin [dc, dn, du] [(c, instObj 189 dc), (dc, cacheD q cd (.ref n) (.ref u) mx ac), (n, instObj 53 dn), (dn, nodeD qn .none (.int ku tu) (.int kn tn) vn), (u, instObj 53 du), (du, nodeD qu (.ref n) .none (.int ku tu) vu)] N gk' (by k_asm) (by k_asm) ?e3 ?e4)
    (case e3 => (repeat' (first | exact List.forall_mem_nil _ | refine List.forall_mem_cons.mpr ⟨⟨by k_mem, by (dsimp only [List.map_cons, List.map_nil]; k_mem)⟩, ?_⟩)))
    (case e4 => (repeat' (first | exact List.forall_mem_nil _ | refine List.forall_mem_cons.mpr ⟨Or.inr (by k_mem), ?_⟩ | refine List.forall_mem_cons.mpr ⟨Or.inl (by k_mem), ?_⟩))))

theorem ra_lastP {prog : Program} {w : World} {p : Program} {loose : List Str} {mean : ExcName → Option Value} {mg mb : Str → Option Value}
  {dp un : Nat} {gd : Option (List Code)} {cn : Str} {cs : Scope} {a : Addr} {ccd : Value} {cl : List (Str × Addr)} {outer : List Env} {A₀ : Around} {base h₀ : Heap} {L : Addr} {m : Str → Option Value} {s : Shared} {Q E : Value → Shared → Prop}
  (B : Below A₀ base outer h₀) (F : Fr h₀ L s.heap m) (X : (hd.heap_39 w.params).In h₀) (T : Top p loose mean mg mb h₀) (hk : cs.kind = .function)
  (hdp : dp + 8 < recursionLimit) (hun : un + 60 < cLine)
  {q qn qu qb : Mt} {c dc cd n dn u du b db : Addr} {o : Obj} {kvs : List (Int × Value)} {mx ac : Value} {kn ku kb : Int} {tn tu tb : Tok} {vn vu vb : Value} {nxu prb : Value}
  (ND : [c, dc, n, dn, u, du, b, db].Nodup) 
  (N : News h₀ L s.heap [(c, instObj 189 dc), (dc, cacheD q cd (.ref u) (.ref n) mx ac), (n, instObj 53 dn), (dn, nodeD qn (.ref b) .none (.int kn tn) vn), (u, instObj 53 du), (du, nodeD qu .none nxu (.int ku tu) vu), (b, instObj 53 db), (db, nodeD qb prb (.int kn tn) (.int kb tb) vb)])
  (ret : ∀ h' tk', Kp [dc, dn, du, db] s.heap h' → News h₀ L h' [(c, instObj 189 dc), (dc, cacheD q cd (.ref n) (.ref b) mx ac), (n, instObj 53 dn), (dn, nodeD qn .none (.int ku tu) (.int kn tn) vn), (u, instObj 53 du), (du, nodeD qu (.ref n) nxu (.int ku tu) vu), (b, instObj 53 db), (db, nodeD qb prb .none (.int kb tb) vb)] → Q .none { s with heap := h', toks := tk' }) :
  wpAny (model prog w) (ktrTop dp un gd cn cs L a ccd cl outer) (call (.ref 149) [.ref c, .ref n]) Q E s := by
  simp only [List.nodup_cons, List.mem_cons, List.not_mem_nil, or_false, not_or, List.nodup_nil, and_true, not_false_eq_true, not_or] at ND
  obtain ⟨⟨ne0, ne1, ne2, ne3, ne4, ne5, ne6⟩, ⟨ne7, ne8, ne9, ne10, ne11, ne12⟩, ⟨ne13, ne14, ne15, ne16, ne17⟩, ⟨ne18, ne19, ne20, ne21⟩, ⟨ne22, ne23, ne24⟩, ⟨ne25, ne26⟩, ne27⟩ := ND
  refine wpAny_call ?_
  k_dflt (refine' enter_def ?k1 ?k2 ?k3 ?k4 ?k5 ?kA ?kF ?kK ?k6 ?k7 ?k8 ?k9 ?kB ?_ ?c2 ?c3 ?c4 ?c5; (case kA => exact rfl); (case kF => exact rfl); (case kK => assumption); (case k1 => k_asm); (case k2 => k_asm); (case k3 => k_asm); (case k4 => k_asm); (case k5 => k_asm); (case k6 => k_is); (case k7 => k_is); (case k8 => ktr_room); (case k9 => exact BindsTo.of_eq rfl); (case c5 => decide); (case kB => exact locs rfl); (case c2 => exact rfl); (case c3 => exact rfl); (case c4 => exact rfl); k_whole; intro g' L' h' FG' F' N' B' X' T' gk' hL'; (try dsimp only); (try k_lift B'); (try k_fold))
  k_steps
  all_goals (
    refine (fun z => ret _ _ z.1 z.2) (call_fin [dc, dn, du, db] [(c, instObj 189 dc), (dc, cacheD q cd (.ref n) (.ref b) mx ac), (n, instObj 53 dn), (dn, nodeD qn .none (.int ku tu) (.int kn tn) vn), (u, instObj 53 du), (du, nodeD qu (.ref n) nxu (.int ku tu) vu), (b, instObj 53 db), (db, nodeD qb prb .none (.int kb tb) vb)] N gk' (by k_asm) (by k_asm) ?e3 ?e4)
    (case e3 => (repeat' (first | exact List.forall_mem_nil _ | refine List.forall_mem_cons.mpr ⟨⟨by k_mem, by (dsimp only [List.map_cons, List.map_nil]; k_mem)⟩, ?_⟩)))
    (case e4 => (repeat' (first | exact List.forall_mem_nil _ | refine List.forall_mem_cons.mpr ⟨Or.inr (by k_mem), ?_⟩ | refine List.forall_mem_cons.mpr ⟨Or.inl (by k_mem), ?_⟩))))

theorem ra_midUE {prog : Program} {w : World} {p : Program} {loose : List Str} {mean : ExcName → Option Value} {mg mb : Str → Option Value}
  {dp un : Nat} {gd : Option (List Code)} {cn : Str} {cs : Scope} {a : Addr} {ccd : Value} {cl : List (Str × Addr)} {outer : List Env} {A₀ : Around} {base h₀ : Heap} {L : Addr} {m : Str → Option Value} {s : Shared} {Q E : Value → Shared → Prop}
  (B : Below A₀ base outer h₀) (F : Fr h₀ L s.heap m) (X : (hd.heap_39 w.params).In h₀) (T : Top p loose mean mg mb h₀) (hk : cs.kind = .function)
  (hdp : dp + 8 < recursionLimit) (hun : un + 60 < cLine)
  {q qn qu qe : Mt} {c dc cd n dn u du e de : Addr} {o : Obj} {kvs : List (Int × Value)} {mx ac : Value} {kn ku ke : Int} {tn tu te : Tok} {vn vu ve : Value} {nxe : Value}
  (ND : [c, dc, cd, n, dn, u, du, e, de].Nodup) (hd : o.IsDictOf (PySem.intKind prog w) kvs) (hv : valueAt kvs ke = some (.ref e))
  (N : News h₀ L s.heap [(c, instObj 189 dc), (dc, cacheD q cd (.ref u) (.ref e) mx ac), (cd, o), (n, instObj 53 dn), (dn, nodeD qn (.ref u) (.int ke te) (.int kn tn) vn), (u, instObj 53 du), (du, nodeD qu .none (.int kn tn) (.int ku tu) vu), (e, instObj 53 de), (de, nodeD qe (.ref n) nxe (.int ke te) ve)])
  (ret : ∀ h' tk', Kp [dc, dn, du, de] s.heap h' → News h₀ L h' [(c, instObj 189 dc), (dc, cacheD q cd (.ref n) (.ref e) mx ac), (cd, o), (n, instObj 53 dn), (dn, nodeD qn .none (.int ku tu) (.int kn tn) vn), (u, instObj 53 du), (du, nodeD qu (.ref n) (.int ke te) (.int ku tu) vu), (e, instObj 53 de), (de, nodeD qe (.ref u) nxe (.int ke te) ve)] → Q .none { s with heap := h', toks := tk' }) :
  wpAny (model prog w) (ktrTop dp un gd cn cs L a ccd cl outer) (call (.ref 149) [.ref c, .ref n]) Q E s := by
  simp only [List.nodup_cons, List.mem_cons, List.not_mem_nil, or_false, not_or, List.nodup_nil, and_true, not_false_eq_true, not_or] at ND
  obtain ⟨⟨ne0, ne1, ne2, ne3, ne4, ne5, ne6, ne7⟩, ⟨ne8, ne9, ne10, ne11, ne12, ne13, ne14⟩, ⟨ne15, ne16, ne17, ne18, ne19, ne20⟩, ⟨ne21, ne22, ne23, ne24, ne25⟩, ⟨ne26, ne27, ne28, ne29⟩, ⟨ne30, ne31, ne32⟩, ⟨ne33, ne34⟩, ne35⟩ := ND
  refine wpAny_call ?_
  k_dflt (refine' enter_def ?k1 ?k2 ?k3 ?k4 ?k5 ?kA ?kF ?kK ?k6 ?k7 ?k8 ?k9 ?kB ?_ ?c2 ?c3 ?c4 ?c5; (case kA => exact rfl); (case kF => exact rfl); (case kK => assumption); (case k1 => k_asm); (case k2 => k_asm); (case k3 => k_asm); (case k4 => k_asm); (case k5 => k_asm); (case k6 => k_is); (case k7 => k_is); (case k8 => ktr_room); (case k9 => exact BindsTo.of_eq rfl); (case c5 => decide); (case kB => exact locs rfl); (case c2 => exact rfl); (case c3 => exact rfl); (case c4 => exact rfl); k_whole; intro g' L' h' FG' F' N' B' X' T' gk' hL'; (try dsimp only); (try k_lift B'); (try k_fold))
  k_steps
  all_goals (
    refine (fun z => ret _ _ z.1 z.2) (call_fin [dc, dn, du, de] [(c, instObj 189 dc), (dc, cacheD q cd (.ref n) (.ref e) mx ac), (cd, o), (n, instObj 53 dn), (dn, nodeD qn .none (.int ku tu) (.int kn tn) vn), (u, instObj 53 du), (du, nodeD qu (.ref n) (.int ke te) (.int ku tu) vu), (e, instObj 53 de), (de, nodeD qe (.ref u) nxe (.int ke te) ve)] N gk' (by k_asm) (by k_asm) ?e3 ?e4)
    (case e3 => (repeat' (first | exact List.forall_mem_nil _ | refine List.forall_mem_cons.mpr ⟨⟨by k_mem, by (dsimp only [List.map_cons, List.map_nil]; k_mem)⟩, ?_⟩)))
    (case e4 => (repeat' (first | exact List.forall_mem_nil _ | refine List.forall_mem_cons.mpr ⟨Or.inr (by k_mem), ?_⟩ | refine List.forall_mem_cons.mpr ⟨Or.inl (by k_mem), ?_⟩))))

theorem ra_midUL {prog : Program} {w : World} {p : Program} {loose : List Str} {mean : ExcName → Option Value} {mg mb : Str → Option Value}
  {dp un : Nat} {gd : Option (List Code)} {cn : Str} {cs : Scope} {a : Addr} {ccd : Value} {cl : List (Str × Addr)} {outer : List Env} {A₀ : Around} {base h₀ : Heap} {L : Addr} {m : Str → Option Value} {s : Shared} {Q E : Value → Shared → Prop}
  (B : Below A₀ base outer h₀) (F : Fr h₀ L s.heap m) (X : (hd.heap_39 w.params).In h₀) (T : Top p loose mean mg mb h₀) (hk : cs.kind = .function)
  (hdp : dp + 8 < recursionLimit) (hun : un + 60 < cLine)
  {q qn qu qe : Mt} {c dc cd n dn u du e de l dl : Addr} {o : Obj} {kvs : List (Int × Value)} {mx ac : Value} {kn ku ke : Int} {tn tu te : Tok} {vn vu ve : Value} {nxe : Value}
  (ND : [c, dc, cd, n, dn, u, du, e, de, l].Nodup) (hd : o.IsDictOf (PySem.intKind prog w) kvs) (hv : valueAt kvs ke = some (.ref e))
  (N : News h₀ L s.heap [(c, instObj 189 dc), (dc, cacheD q cd (.ref u) (.ref l) mx ac), (cd, o), (n, instObj 53 dn), (dn, nodeD qn (.ref u) (.int ke te) (.int kn tn) vn), (u, instObj 53 du), (du, nodeD qu .none (.int kn tn) (.int ku tu) vu), (e, instObj 53 de), (de, nodeD qe (.ref n) nxe (.int ke te) ve), (l, instObj 53 dl)])
  (ret : ∀ h' tk', Kp [dc, dn, du, de] s.heap h' → News h₀ L h' [(c, instObj 189 dc), (dc, cacheD q cd (.ref n) (.ref l) mx ac), (cd, o), (n, instObj 53 dn), (dn, nodeD qn .none (.int ku tu) (.int kn tn) vn), (u, instObj 53 du), (du, nodeD qu (.ref n) (.int ke te) (.int ku tu) vu), (e, instObj 53 de), (de, nodeD qe (.ref u) nxe (.int ke te) ve), (l, instObj 53 dl)] → Q .none { s with heap := h', toks := tk' }) :
  wpAny (model prog w) (ktrTop dp un gd cn cs L a ccd cl outer) (call (.ref 149) [.ref c, .ref n]) Q E s := by
  simp only [List.nodup_cons, List.mem_cons, List.not_mem_nil, or_false, not_or, List.nodup_nil, and_true, not_false_eq_true, not_or] at ND
  obtain ⟨⟨ne0, ne1, ne2, ne3, ne4, ne5, ne6, ne7, ne8⟩, ⟨ne9, ne10, ne11, ne12, ne13, ne14, ne15, ne16⟩, ⟨ne17, ne18, ne19, ne20, ne21, ne22, ne23⟩, ⟨ne24, ne25, ne26, ne27, ne28, ne29⟩, ⟨ne30, ne31, ne32, ne33, ne34⟩, ⟨ne35, ne36, ne37, ne38⟩, ⟨ne39, ne40, ne41⟩, ⟨ne42, ne43⟩, ne44⟩ := ND
  refine wpAny_call ?_
  k_dflt (refine' enter_def ?k1 ?k2 ?k3 ?k4 ?k5 ?kA ?kF ?kK ?k6 ?k7 ?k8 ?k9 ?kB ?_ ?c2 ?c3 ?c4 ?c5; (case kA => exact rfl); (case kF => exact rfl); (case kK => assumption); (case k1 => k_asm); (case k2 => k_asm); (case k3 => k_asm); (case k4 => k_asm); (case k5 => k_asm); (case k6 => k_is); (case k7 => k_is); (case k8 => ktr_room); (case k9 => exact BindsTo.of_eq rfl); (case c5 => decide); (case kB => exact locs rfl); (case c2 => exact rfl); (case c3 => exact rfl); (case c4 => exact rfl); k_whole; intro g' L' h' FG' F' N' B' X' T' gk' hL'; (try dsimp only); (try k_lift B'); (try k_fold))
  k_steps
  all_goals (
    refine (fun z => ret _ _ z.1 z.2) (call_fin [dc, dn, du, de] [(c, instObj 189 dc), (dc, cacheD q cd (.ref n) (.ref l) mx ac), (cd, o), (n, instObj 53 dn), (dn, nodeD qn .none (.int ku tu) (.int kn tn) vn), (u, instObj 53 du), (du, nodeD qu (.ref n) (.int ke te) (.int ku tu) vu), (e, instObj 53 de), (de, nodeD qe (.ref u) nxe (.int ke te) ve), (l, instObj 53 dl)] N gk' (by k_asm) (by k_asm) ?e3 ?e4)
    (case e3 => (repeat' (first | exact List.forall_mem_nil _ | refine List.forall_mem_cons.mpr ⟨⟨by k_mem, by (dsimp only [List.map_cons, List.map_nil]; k_mem)⟩, ?_⟩)))
    (case e4 => (repeat' (first | exact List.forall_mem_nil _ | refine List.forall_mem_cons.mpr ⟨Or.inr (by k_mem), ?_⟩ | refine List.forall_mem_cons.mpr ⟨Or.inl (by k_mem), ?_⟩))))

theorem ra_midBE {prog : Program} {w : World} {p : Program} {loose : List Str} {mean : ExcName → Option Value} {mg mb : Str → Option Value}
  {dp un : Nat} {gd : Option (List Code)} {cn : Str} {cs : Scope} {a : Addr} {ccd : Value} {cl : List (Str × Addr)} {outer : List Env} {A₀ : Around} {base h₀ : Heap} {L : Addr} {m : Str → Option Value} {s : Shared} {Q E : Value → Shared → Prop}
  (B : Below A₀ base outer h₀) (F : Fr h₀ L s.heap m) (X : (hd.heap_39 w.params).In h₀) (T : Top p loose mean mg mb h₀) (hk : cs.kind = .function)
  (hdp : dp + 8 < recursionLimit) (hun : un + 60 < cLine)
  {q qn qu qb qe : Mt} {c dc cd n dn u du b db e de : Addr} {o : Obj} {kvs : List (Int × Value)} {mx ac : Value} {kn ku kb ke : Int} {tn tu tb te : Tok} {vn vu vb ve : Value} {nxe nxu prb : Value}
  (ND : [c, dc, cd, n, dn, u, du, b, db, e, de].Nodup) (hd : o.IsDictOf (PySem.intKind prog w) kvs) (hv : valueAt kvs ke = some (.ref e))
  (N : News h₀ L s.heap [(c, instObj 189 dc), (dc, cacheD q cd (.ref u) (.ref e) mx ac), (cd, o), (n, instObj 53 dn), (dn, nodeD qn (.ref b) (.int ke te) (.int kn tn) vn), (u, instObj 53 du), (du, nodeD qu .none nxu (.int ku tu) vu), (b, instObj 53 db), (db, nodeD qb prb (.int kn tn) (.int kb tb) vb), (e, instObj 53 de), (de, nodeD qe (.ref n) nxe (.int ke te) ve)])
  (ret : ∀ h' tk', Kp [dc, dn, du, db, de] s.heap h' → News h₀ L h' [(c, instObj 189 dc), (dc, cacheD q cd (.ref n) (.ref e) mx ac), (cd, o), (n, instObj 53 dn), (dn, nodeD qn .none (.int ku tu) (.int kn tn) vn), (u, instObj 53 du), (du, nodeD qu (.ref n) nxu (.int ku tu) vu), (b, instObj 53 db), (db, nodeD qb prb (.int ke te) (.int kb tb) vb), (e, instObj 53 de), (de, nodeD qe (.ref b) nxe (.int ke te) ve)] → Q .none { s with heap := h', toks := tk' }) :
  wpAny (model prog w) (ktrTop dp un gd cn cs L a ccd cl outer) (call (.ref 149) [.ref c, .ref n]) Q E s := by
  simp only [List.nodup_cons, List.mem_cons, List.not_mem_nil, or_false, not_or, List.nodup_nil, and_true, not_false_eq_true, not_or] at ND
  obtain ⟨⟨ne0, ne1, ne2, ne3, ne4, ne5, ne6, ne7, ne8, ne9⟩, ⟨ne10, ne11, ne12, ne13, ne14, ne15, ne16, ne17, ne18⟩, ⟨ne19, ne20, ne21, ne22, ne23, ne24, ne25, ne26⟩, ⟨ne27, ne28, ne29, ne30, ne31, ne32, ne33⟩, ⟨ne34, ne35, ne36, ne37, ne38, ne39⟩, ⟨ne40, ne41, ne42, ne43, ne44⟩, ⟨ne45, ne46, ne47, ne48⟩, ⟨ne49, ne50, ne51⟩, ⟨ne52, ne53⟩, ne54⟩ := ND
  refine wpAny_call ?_
  k_dflt (refine' enter_def ?k1 ?k2 ?k3 ?k4 ?k5 ?kA ?kF ?kK ?k6 ?k7 ?k8 ?k9 ?kB ?_ ?c2 ?c3 ?c4 ?c5; (case kA => exact rfl); (case kF => exact rfl); (case kK => assumption); (case k1 => k_asm); (case k2 => k_asm); (case k3 => k_asm); (case k4 => k_asm); (case k5 => k_asm); (case k6 => k_is); (case k7 => k_is); (case k8 => ktr_room); (case k9 => exact BindsTo.of_eq rfl); (case c5 => decide); (case kB => exact locs rfl); (case c2 => exact rfl); (case c3 => exact rfl); (case c4 => exact rfl); k_whole; intro g' L' h' FG' F' N' B' X' T' gk' hL'; (try dsimp only); (try k_lift B'); (try k_fold))
  k_steps
  all_goals (
    refine (fun z => ret _ _ z.1 z.2) (call_fin [dc, dn, du, db, de] [(c, instObj 189 dc), (dc, cacheD q cd (.ref n) (.ref e) mx ac), (cd, o), (n, instObj 53 dn), (dn, nodeD qn .none (.int ku tu) (.int kn tn) vn), (u, instObj 53 du), (du, nodeD qu (.ref n) nxu (.int ku tu) vu), (b, instObj 53 db), (db, nodeD qb prb (.int ke te) (.int kb tb) vb), (e, instObj 53 de), (de, nodeD qe (.ref b) nxe (.int ke te) ve)] N gk' (by k_asm) (by k_asm) ?e3 ?e4)
    (case e3 => (repeat' (first | exact List.forall_mem_nil _ | refine List.forall_mem_cons.mpr ⟨⟨by k_mem, by (dsimp only [List.map_cons, List.map_nil]; k_mem)⟩, ?_⟩)))
    (case e4 => (repeat' (first | exact List.forall_mem_nil _ | refine List.forall_mem_cons.mpr ⟨Or.inr (by k_mem), ?_⟩ | refine List.forall_mem_cons.mpr ⟨Or.inl (by k_mem), ?_⟩))))

theorem ra_midBL {prog : Program} {w : World} {p : Program} {loose : List Str} {mean : ExcName → Option Value} {mg mb : Str → Option Value}
  {dp un : Nat} {gd : Option (List Code)} {cn : Str} {cs : Scope} {a : Addr} {ccd : Value} {cl : List (Str × Addr)} {outer : List Env} {A₀ : Around} {base h₀ : Heap} {L : Addr} {m : Str → Option Value} {s : Shared} {Q E : Value → Shared → Prop}
  (B : Below A₀ base outer h₀) (F : Fr h₀ L s.heap m) (X : (hd.heap_39 w.params).In h₀) (T : Top p loose mean mg mb h₀) (hk : cs.kind = .function)
  (hdp : dp + 8 < recursionLimit) (hun : un + 60 < cLine)
  {q qn qu qb qe : Mt} {c dc cd n dn u du b db e de l dl : Addr} {o : Obj} {kvs : List (Int × Value)} {mx ac : Value} {kn ku kb ke : Int} {tn tu tb te : Tok} {vn vu vb ve : Value} {nxe nxu prb : Value}
  (ND : [c, dc, cd, n, dn, u, du, b, db, e, de, l].Nodup) (hd : o.IsDictOf (PySem.intKind prog w) kvs) (hv : valueAt kvs ke = some (.ref e))
  (N : News h₀ L s.heap [(c, instObj 189 dc), (dc, cacheD q cd (.ref u) (.ref l) mx ac), (cd, o), (n, instObj 53 dn), (dn, nodeD qn (.ref b) (.int ke te) (.int kn tn) vn), (u, instObj 53 du), (du, nodeD qu .none nxu (.int ku tu) vu), (b, instObj 53 db), (db, nodeD qb prb (.int kn tn) (.int kb tb) vb), (e, instObj 53 de), (de, nodeD qe (.ref n) nxe (.int ke te) ve), (l, instObj 53 dl)])
  (ret : ∀ h' tk', Kp [dc, dn, du, db, de] s.heap h' → News h₀ L h' [(c, instObj 189 dc), (dc, cacheD q cd (.ref n) (.ref l) mx ac), (cd, o), (n, instObj 53 dn), (dn, nodeD qn .none (.int ku tu) (.int kn tn) vn), (u, instObj 53 du), (du, nodeD qu (.ref n) nxu (.int ku tu) vu), (b, instObj 53 db), (db, nodeD qb prb (.int ke te) (.int kb tb) vb), (e, instObj 53 de), (de, nodeD qe (.ref b) nxe (.int ke te) ve), (l, instObj 53 dl)] → Q .none { s with heap := h', toks := tk' }) :
  wpAny (model prog w) (ktrTop dp un gd cn cs L a ccd cl outer) (call (.ref 149) [.ref c, .ref n]) Q E s := by
  simp only [List.nodup_cons, List.mem_cons, List.not_mem_nil, or_false, not_or, List.nodup_nil, and_true, not_false_eq_true, not_or] at ND
  obtain ⟨⟨ne0, ne1, ne2, ne3, ne4, ne5, ne6, ne7, ne8, ne9, ne10⟩, ⟨ne11, ne12, ne13, ne14, ne15, ne16, ne17, ne18, ne19, ne20⟩, ⟨ne21, ne22, ne23, ne24, ne25, ne26, ne27, ne28, ne29⟩, ⟨ne30, ne31, ne32, ne33, ne34, ne35, ne36, ne37⟩, ⟨ne38, ne39, ne40, ne41, ne42, ne43, ne44⟩, ⟨ne45, ne46, ne47, ne48, ne49, ne50⟩, ⟨ne51, ne52, ne53, ne54, ne55⟩, ⟨ne56, ne57, ne58, ne59⟩, ⟨ne60, ne61, ne62⟩, ⟨ne63, ne64⟩, ne65⟩ := ND
  refine wpAny_call ?_
  k_dflt (refine' enter_def ?k1 ?k2 ?k3 ?k4 ?k5 ?kA ?kF ?kK ?k6 ?k7 ?k8 ?k9 ?kB ?_ ?c2 ?c3 ?c4 ?c5; (case kA => exact rfl); (case kF => exact rfl); (case kK => assumption); (case k1 => k_asm); (case k2 => k_asm); (case k3 => k_asm); (case k4 => k_asm); (case k5 => k_asm); (case k6 => k_is); (case k7 => k_is); (case k8 => ktr_room); (case k9 => exact BindsTo.of_eq rfl); (case c5 => decide); (case kB => exact locs rfl); (case c2 => exact rfl); (case c3 => exact rfl); (case c4 => exact rfl); k_whole; intro g' L' h' FG' F' N' B' X' T' gk' hL'; (try dsimp only); (try k_lift B'); (try k_fold))
  k_steps
  all_goals (
    refine (fun z => ret _ _ z.1 z.2) (call_fin [dc, dn, du, db, de] [(c, instObj 189 dc), (dc, cacheD q cd (.ref n) (.ref l) mx ac), (cd, o), (n, instObj 53 dn), (dn, nodeD qn .none (.int ku tu) (.int kn tn) vn), (u, instObj 53 du), (du, nodeD qu (.ref n) nxu (.int ku tu) vu), (b, instObj 53 db), (db, nodeD qb prb (.int ke te) (.int kb tb) vb), (e, instObj 53 de), (de, nodeD qe (.ref b) nxe (.int ke te) ve), (l, instObj 53 dl)] N gk' (by k_asm) (by k_asm) ?e3 ?e4)
    (case e3 => (repeat' (first | exact List.forall_mem_nil _ | refine List.forall_mem_cons.mpr ⟨⟨by k_mem, by (dsimp only [List.map_cons, List.map_nil]; k_mem)⟩, ?_⟩)))
    (case e4 => (repeat' (first | exact List.forall_mem_nil _ | refine List.forall_mem_cons.mpr ⟨Or.inr (by k_mem), ?_⟩ | refine List.forall_mem_cons.mpr ⟨Or.inl (by k_mem), ?_⟩))))

end Mine
end


/-! CL -/
section
open PySem PySem.W PyProof.Rows PySem.Spec PySem.Calls
set_option maxRecDepth 100000
set_option maxHeartbeats 8000000
set_option linter.unusedVariables false
namespace Mine
example : (fun (_ : OpenLaw) (_ : Params → Frag) => True) PySem.Challenge.rw_ft5003_01 hd.heap_39 := by k_fill; trivial

local macro_rules | `(tactic| walk_at "getItem ref int") => `(tactic| (k_here; k_dflt (refine getItem_D (by k_asm) (by k_mem) (by k_asm) (by assumption) ?_)))
local macro_rules | `(tactic| k_ne) => `(tactic| (refine neN ?_; (try dsimp only); first | assumption | exact Ne.symm (by assumption)))
local macro_rules | `(tactic| walk_at "subscriptTail") => `(tactic| (k_here; (with_reducible show wpAny _ _ (subscriptTail _ _ (Value.ref _) (Value.int _ _)) _ _ _); k_dflt (refine kda_item (knd := PySem.intKind _ _) (by k_asm) (by k_mem) (by k_asm) (intKind_is _ _ _ _) (by assumption) ?_)))
local macro_rules | `(tactic| walk_at "compareOp Is ref ref") => `(tactic| (k_here; (with_reducible show wpAny _ _ (compareOp CmpOp.Is (Value.ref _) (Value.ref _)) _ _ _); first | refine wpAny_is_ref_self ?_ | k_dflt (refine' kto_is ?a ?b ?n ?c ?_; (case a => kto_obj); (case b => kto_obj); (case n => k_ne); (case c => kto_not); k_whole)))

local macro_rules | `(tactic| k_enter) => `(tactic| (refine' code_def ?k1 ?k2 ?k3 ?k4 ?k5 ?kA ?kF ?kK ?k6 ?k7 ?k8 ?k9 ?kB ?_ ?c2 ?c3 ?c4 ?c5; (case kA => exact rfl); (case kF => exact rfl); (case kK => first | exact rfl | assumption); (case k1 => k_asm); (case k2 => k_asm); (case k3 => k_asm); (case k4 => k_asm); (case k5 => k_asm); (case k6 => k_is); (case k7 => k_is); (case k8 => ktr_room); (case k9 => first | exact BindsTo.of_eq rfl | exact binds_K (by k_in) rfl (by k_is) rfl rfl rfl); (case c5 => decide); (case kB => exact locs rfl); (case c2 => exact rfl); (case c3 => exact rfl); (case c4 => exact rfl); k_whole; intro g' L' h' FG' F' N' B' X' T'; (try dsimp only); (try k_lift B'); (try k_fold)))

section
variable {prog : Program} {w : World} {A : Around} {E : Value → Shared → Prop} {s : Shared} {h₀ : Heap} {L d : Addr} {m : Str → Option Value} {news : List (Addr × Obj)} {g : Obj → List (Addr × Obj)} {o : Obj} {kvs : List (Int × Value)} {k : Int} {t : Tok} {v dflt : Value}
theorem getMethod_Dget {pl : Sem Bool} {Q : Value × List Value → Shared → Prop} (N : News h₀ L s.heap news) (hp : (d, o) ∈ news) (hd : o.IsDictOf (PySem.intKind prog w) kvs) (h : Q (.builtin "dict.get", [.ref d]) s) :
    wpAny (model prog w) A (getMethod (.ref d) (Str.ofString "get") pl) Q E s :=
  have hD := kda_dict N hp hd
  getMethod_builtin hD.typeIs PySem.F.plainAttrs_dict PySem.F.slot_dict_get PySem.F.type_dict_get hD.mapOf.noDict h
theorem getMethod_Dpop {pl : Sem Bool} {Q : Value × List Value → Shared → Prop} (N : News h₀ L s.heap news) (hp : (d, o) ∈ news) (hd : o.IsDictOf (PySem.intKind prog w) kvs) (h : Q (.builtin "dict.pop", [.ref d]) s) :
    wpAny (model prog w) A (getMethod (.ref d) (Str.ofString "pop") pl) Q E s :=
  have hD := kda_dict N hp hd
  getMethod_builtin hD.typeIs PySem.F.plainAttrs_dict PySem.F.slot_dict_pop PySem.F.type_dict_pop hD.mapOf.noDict h
theorem pop_D {Q : Value → Shared → Prop} (F : Fr h₀ L s.heap m) (N : News h₀ L s.heap news) (U : UpdF d o news g) (hd : o.IsDictOf (PySem.intKind prog w) kvs) (hl : valueAt kvs k = some v) (hsz : kvs.length ≤ sizeLine)
    (h : ∀ h' o', Fr h₀ L h' m → News h₀ L h' (g o') → o'.IsDictOf (PySem.intKind prog w) (without kvs k) → Q v { s with heap := h', toks := s.toks + 1 }) :
    wpAny (model prog w) A (call (.builtin "dict.pop") [.ref d, .int k t]) Q E s := by
  obtain ⟨pre, post, rfl, hg, a, b⟩ := U.split
  have hm := N (d, o) (List.mem_append_right _ (.head _))
  have hD : s.heap.DictOf (PySem.intKind prog w) d kvs := Heap.dictOf_iff.mpr ⟨o, hm.1, hd⟩
  refine call_meetsIn PySem.F.slot_dict_pop hD.typeIs PySem.F.entry_dict_pop (PySem.F.args_dict_pop_2 _ _) (meets_dict_pop_there (PySem.intKind prog w) d (intKind_is _ _ _ _) [] (.inl rfl) rfl) ⟨kvs, v, hD, hsz, hl, fun h' hmm hs => ?_⟩
  obtain ⟨o', ho', hd'⟩ := Heap.dictOf_iff.mp hmm
  exact h h' o' (F.change hs hm.2.1 hm.2.2) (hg o' ▸ N.setIn a b hs ho') hd'
theorem get2_D {Q : Value → Shared → Prop} (N : News h₀ L s.heap news) (hp : (d, o) ∈ news) (hd : o.IsDictOf (PySem.intKind prog w) kvs) (lo : (d == sysModules) = false) (hl : valueAt kvs k = some v) (h : Q v { s with toks := s.toks + 1 }) :
    wpAny (model prog w) A (call (.builtin "dict.get") [.ref d, .int k t, dflt]) Q E s :=
  have hD := kda_dict N hp hd
  call_meetsIn PySem.F.slot_dict_get hD.typeIs PySem.F.entry_dict_get (PySem.F.args_dict_get_3 _ _ _) (meets_dict_get_default (PySem.intKind prog w) d (intKind_is _ _ _ _) lo dflt) ⟨_, hD.mapOf, by rw [hl]; exact h⟩
theorem get2_D0 {Q : Value → Shared → Prop} (N : News h₀ L s.heap news) (hp : (d, o) ∈ news) (hd : o.IsDictOf (PySem.intKind prog w) kvs) (lo : (d == sysModules) = false) (hl : valueAt kvs k = none) (h : Q dflt { s with toks := s.toks + 1 }) :
    wpAny (model prog w) A (call (.builtin "dict.get") [.ref d, .int k t, dflt]) Q E s :=
  have hD := kda_dict N hp hd
  call_meetsIn PySem.F.slot_dict_get hD.typeIs PySem.F.entry_dict_get (PySem.F.args_dict_get_3 _ _ _) (meets_dict_get_default (PySem.intKind prog w) d (intKind_is _ _ _ _) lo dflt) ⟨_, hD.mapOf, by rw [hl]; exact h⟩
end

local macro_rules | `(tactic| k_all) => `(tactic| first | exact List.forall_mem_nil _ | (refine' List.forall_mem_cons.mpr ⟨?a, ?b⟩; (case a => k_ne); (case b => k_all)) | assumption | exact fun p hp => Nat.ne_of_lt (ktn_ltOf (by assumption) p hp))
local macro_rules | `(tactic| walk_at "getMethod ref") => `(tactic| (k_here; k_dflt (first | refine getMethod_Dget (by k_asm) (by k_mem) (by k_asm) ?_ | refine getMethod_Dpop (by k_asm) (by k_mem) (by k_asm) ?_)))
local macro_rules | `(tactic| walk_at "call builtin:dict.pop") => `(tactic| (k_here; k_dflt (refine' pop_D ?F ?N ?U ?d ?l ?z ?_; (case F => k_asm); (case N => k_asm); (case U => k_updF); (case d => k_asm); (case l => assumption); (case z => assumption)); intro h' o' F' N' hd'; (try dsimp only at N'); (try k_sweep)))
local macro_rules | `(tactic| walk_at "call builtin:dict.get") => `(tactic| (k_here; k_dflt (first | refine get2_D (by k_asm) (by k_mem) (by k_asm) (by assumption) (by assumption) ?_ | refine get2_D0 (by k_asm) (by k_mem) (by k_asm) (by assumption) (by assumption) ?_)))
local macro_rules | `(tactic| walk_at "call builtin:len") => `(tactic| (k_here; (with_reducible show wpAny _ _ (call (Value.builtin "len") [Value.ref _]) _ _ _); k_dflt (refine kda_len (knd := PySem.intKind _ _) (by k_asm) (by k_mem) (by k_asm) (by assumption) (by simp only [sizeLine_eq] at *; omega) ?_)))
local macro_rules | `(tactic| walk_at "compareOp In int ref") => `(tactic| (k_here; k_dflt (refine kda_in (knd := PySem.intKind _ _) (by k_asm) (by k_mem) (by k_asm) (by assumption) (intKind_is _ _ _ _) _ (by assumption) ?_)))
local macro_rules | `(tactic| walk_at "setItem ref int") => `(tactic| (k_here; k_dflt (refine' kda_set (knd := PySem.intKind _ _) ?F ?N ?U ?d (intKind_is _ _ _ _) ?z ?_; (case F => k_asm); (case N => k_asm); (case U => k_updF); (case d => k_asm); (case z => assumption)); intro h' o' F' N' hd'; (try dsimp only at N'); (try k_sweep)))
local macro_rules | `(tactic| walk_at "WhlIf") => `(tactic| (first | (refine WhlIf.yes (by simp only [decide_eq_true_eq]; omega) ?_) | (refine WhlIf.no (by simp only [decide_eq_false_iff_not]; omega) ?_)))
local macro_rules | `(tactic| k_units) => `(tactic| first | exact Nat.le_of_ble_eq_true rfl | ktr_units)

theorem cl_none {prog : Program} {w : World} {p : Program} {loose : List Str} {mean : ExcName → Option Value} {mg mb : Str → Option Value}
  {dp un : Nat} {gd : Option (List Code)} {cn : Str} {cs : Scope} {a : Addr} {ccd : Value} {cl : List (Str × Addr)} {outer : List Env} {A₀ : Around} {base h₀ : Heap} {L : Addr} {m : Str → Option Value} {s : Shared} {Q E : Value → Shared → Prop}
  (B : Below A₀ base outer h₀) (F : Fr h₀ L s.heap m) (X : (hd.heap_39 w.params).In h₀) (T : Top p loose mean mg mb h₀) (hk : cs.kind = .function)
  (hdp : dp + 8 < recursionLimit) (hun : un + 60 < cLine)
  {q : Mt} {c dc cd : Addr} {o : Obj} {kvs : List (Int × Value)} {mru lru mx : Value} {ac : Int} {tac : Tok}
  (ND : [c, dc, cd].Nodup) (hd : o.IsDictOf (PySem.intKind prog w) kvs) (lo : (cd == sysModules) = false) (hz : kvs.length ≤ sizeLine) (hle : (kvs.length : Int) ≤ ac)
  (N : News h₀ L s.heap [(c, instObj 189 dc), (dc, cacheD q cd mru lru mx (.int ac tac)), (cd, o)])
  (ret : ∀ h' tk', Kp [] s.heap h' → Q .none { s with heap := h', toks := tk' }) :
  wpAny (model prog w) (ktrTop dp un gd cn cs L a ccd cl outer) (call (.ref 135) [.ref c]) Q E s := by
  simp only [List.nodup_cons, List.mem_cons, List.not_mem_nil, or_false, not_or, List.nodup_nil, and_true, not_false_eq_true, not_or] at ND
  obtain ⟨⟨ne0, ne1⟩, ne2⟩ := ND
  refine wpAny_call ?_
  k_dflt (refine' enter_def ?k1 ?k2 ?k3 ?k4 ?k5 ?kA ?kF ?kK ?k6 ?k7 ?k8 ?k9 ?kB ?_ ?c2 ?c3 ?c4 ?c5; (case kA => exact rfl); (case kF => exact rfl); (case kK => assumption); (case k1 => k_asm); (case k2 => k_asm); (case k3 => k_asm); (case k4 => k_asm); (case k5 => k_asm); (case k6 => k_is); (case k7 => k_is); (case k8 => ktr_room); (case k9 => first | exact BindsTo.of_eq rfl | exact binds_K (by k_in) rfl (by k_is) rfl rfl rfl); (case c5 => decide); (case kB => exact locs rfl); (case c2 => exact rfl); (case c3 => exact rfl); (case c4 => exact rfl); k_whole; intro g' L' h' FG' F' N' B' X' T' gk' hL'; (try dsimp only); (try k_lift B'); (try k_fold))
  k_steps
  all_goals (
    refine (fun z => ret _ _ z.1) (call_fin [] [] N gk' (by k_asm) (by k_asm) ?e3 ?e4)
    (case e3 => (repeat' (first | exact List.forall_mem_nil _ | refine List.forall_mem_cons.mpr ⟨⟨by k_mem, by (dsimp only [List.map_cons, List.map_nil]; k_mem)⟩, ?_⟩)))
    (case e4 => (repeat' (first | exact List.forall_mem_nil _ | refine List.forall_mem_cons.mpr ⟨Or.inr (by k_mem), ?_⟩ | refine List.forall_mem_cons.mpr ⟨Or.inl (by k_mem), ?_⟩))))

theorem cl_one {prog : Program} {w : World} {p : Program} {loose : List Str} {mean : ExcName → Option Value} {mg mb : Str → Option Value}
  {dp un : Nat} {gd : Option (List Code)} {cn : Str} {cs : Scope} {a : Addr} {ccd : Value} {cl : List (Str × Addr)} {outer : List Env} {A₀ : Around} {base h₀ : Heap} {L : Addr} {m : Str → Option Value} {s : Shared} {Q E : Value → Shared → Prop}
  (B : Below A₀ base outer h₀) (F : Fr h₀ L s.heap m) (X : (hd.heap_39 w.params).In h₀) (T : Top p loose mean mg mb h₀) (hk : cs.kind = .function)
  (hdp : dp + 8 < recursionLimit) (hun : un + 60 < cLine)
  {q qn qb : Mt} {c dc cd n dn b db : Addr} {o : Obj} {kvs : List (Int × Value)} {mru mx vn vb vn' prb : Value} {ac kn kb : Int} {tac tn tb : Tok}
  (ND : [c, dc, cd, n, dn, b, db].Nodup) (hd : o.IsDictOf (PySem.intKind prog w) kvs) (lo : (cd == sysModules) = false) (hz : kvs.length ≤ sizeLine) (hle : (kvs.length : Int) = ac + 1)
  (hv : valueAt kvs kn = some vn') (hlen : (without kvs kn).length + 1 = kvs.length) (hz' : (without kvs kn).length ≤ sizeLine)
  (N : News h₀ L s.heap [(c, instObj 189 dc), (dc, cacheD q cd mru (.ref n) mx (.int ac tac)), (cd, o), (n, instObj 53 dn), (dn, nodeD qn (.ref b) .none (.int kn tn) vn), (b, instObj 53 db), (db, nodeD qb prb (.int kn tn) (.int kb tb) vb)])
  (ret : ∀ h' tk' o', Kp [dc, cd, dn, db] s.heap h' → o'.IsDictOf (PySem.intKind prog w) (without kvs kn) → News h₀ L h' [(c, instObj 189 dc), (dc, cacheD q cd mru (.ref b) mx (.int ac tac)), (cd, o'), (b, instObj 53 db), (db, nodeD qb prb .none (.int kb tb) vb)] → Q .none { s with heap := h', toks := tk' }) :
  wpAny (model prog w) (ktrTop dp un gd cn cs L a ccd cl outer) (call (.ref 135) [.ref c]) Q E s := by
  simp only [List.nodup_cons, List.mem_cons, List.not_mem_nil, or_false, not_or, List.nodup_nil, and_true, not_false_eq_true, not_or] at ND
  obtain ⟨⟨ne0, ne1, ne2, ne3, ne4, ne5⟩, ⟨ne6, ne7, ne8, ne9, ne10⟩, ⟨ne11, ne12, ne13, ne14⟩, ⟨ne15, ne16, ne17⟩, ⟨ne18, ne19⟩, ne20⟩ := ND
  refine wpAny_call ?_
  k_dflt (refine' enter_def ?k1 ?k2 ?k3 ?k4 ?k5 ?kA ?kF ?kK ?k6 ?k7 ?k8 ?k9 ?kB ?_ ?c2 ?c3 ?c4 ?c5; (case kA => exact rfl); (case kF => exact rfl); (case kK => assumption); (case k1 => k_asm); (case k2 => k_asm); (case k3 => k_asm); (case k4 => k_asm); (case k5 => k_asm); (case k6 => k_is); (case k7 => k_is); (case k8 => ktr_room); (case k9 => first | exact BindsTo.of_eq rfl | exact binds_K (by k_in) rfl (by k_is) rfl rfl rfl); (case c5 => decide); (case kB => exact locs rfl); (case c2 => exact rfl); (case c3 => exact rfl); (case c4 => exact rfl); k_whole; intro g' L' h' FG' F' N' B' X' T' gk' hL'; (try dsimp only); (try k_lift B'); (try k_fold))
  k_steps
  all_goals (
    refine (fun z => ret _ _ _ z.1 (by assumption) z.2) (call_fin [dc, cd, dn, db] [(c, instObj 189 dc), (dc, cacheD q cd mru (.ref b) mx (.int ac tac)), (cd, _), (b, instObj 53 db), (db, nodeD qb prb .none (.int kb tb) vb)] N gk' (by k_asm) (by k_asm) ?e3 ?e4)
    (case e3 => (repeat' (first | exact List.forall_mem_nil _ | refine List.forall_mem_cons.mpr ⟨⟨by k_mem, by (dsimp only [List.map_cons, List.map_nil]; k_mem)⟩, ?_⟩)))
    (case e4 => (repeat' (first | exact List.forall_mem_nil _ | refine List.forall_mem_cons.mpr ⟨Or.inr (by k_mem), ?_⟩ | refine List.forall_mem_cons.mpr ⟨Or.inl (by k_mem), ?_⟩))))

end Mine
end


/-! LS -/
section
open PySem PySem.W PyProof.Rows PySem.Spec PySem.Calls
set_option maxRecDepth 100000
set_option maxHeartbeats 8000000
set_option linter.unusedVariables false
namespace Mine

structure Nd where
  k : Int
  kt : Tok
  a : Addr
  d : Addr
  v : Value
  q : Mt

def hdk (nx : Value) : List Nd → Value
  | [] => nx
  | n :: _ => .int n.k n.kt
def hr : List Nd → Value
  | [] => .none
  | n :: _ => .ref n.a
def lr (pv : Value) : List Nd → Value
  | [] => pv
  | n :: r => lr (.ref n.a) r
def seg (pv : Value) (nx : Value) : List Nd → List (Addr × Obj)
  | [] => []
  | n :: r => (n.a, instObj 53 n.d) :: (n.d, nodeD n.q pv (hdk nx r) (.int n.k n.kt) n.v) :: seg (.ref n.a) nx r
def addrs : List Nd → List Addr
  | [] => []
  | n :: r => n.a :: n.d :: addrs r

theorem hdk_nil (nx : Value) : hdk nx [] = nx := rfl
theorem hdk_cons (nx : Value) (n : Nd) (r : List Nd) : hdk nx (n :: r) = .int n.k n.kt := rfl
theorem hr_nil : hr [] = .none := rfl
theorem hr_cons (n : Nd) (r : List Nd) : hr (n :: r) = .ref n.a := rfl
theorem hdk_append (nx : Value) : ∀ xs ys : List Nd, hdk nx (xs ++ ys) = hdk (hdk nx ys) xs
  | [], _ => rfl
  | _ :: _, _ => rfl
theorem lr_append : ∀ (pv : Value) (xs ys : List Nd), lr pv (xs ++ ys) = lr (lr pv xs) ys
  | _, [], _ => rfl
  | _, n :: r, ys => lr_append (.ref n.a) r ys
theorem seg_append : ∀ (pv nx : Value) (xs ys : List Nd), seg pv nx (xs ++ ys) = seg pv (hdk nx ys) xs ++ seg (lr pv xs) nx ys
  | _, _, [], _ => rfl
  | pv, nx, n :: r, ys => by
    simp only [List.cons_append, seg, lr, hdk_append, seg_append (.ref n.a) nx r ys]
theorem addrs_append : ∀ xs ys : List Nd, addrs (xs ++ ys) = addrs xs ++ addrs ys
  | [], _ => rfl
  | n :: r, ys => by simp only [List.cons_append, addrs, addrs_append r ys]
theorem seg_addrs : ∀ (pv nx : Value) (l : List Nd), (seg pv nx l).map (·.1) = addrs l
  | _, _, [] => rfl
  | _, nx, n :: r => by simp only [seg, addrs, List.map_cons, seg_addrs (.ref n.a) nx r]
theorem seg_mem {pv nx : Value} {l : List Nd} {p : Addr × Obj} (h : p ∈ seg pv nx l) : p.1 ∈ addrs l := by
  rw [← seg_addrs pv nx l]; exact List.mem_map_of_mem h

def cacheLed (c dc cd : Addr) (q : Mt) (o : Obj) (l : List Nd) (mx ac : Value) : List (Addr × Obj) :=
  (c, instObj 189 dc) :: (dc, cacheD q cd (hr l) (lr .none l) mx ac) :: (cd, o) :: seg .none .none l

theorem news_upd {h₀ h h' : Heap} {L : Addr} {big big' upd : List (Addr × Obj)} {S : List Addr} (N : News h₀ L h big) (k : Kp S h h') (U : News h₀ L h' upd) (hs : ∀ p ∈ big', p ∈ upd ∨ (p ∈ big ∧ p.1 ∉ S)) : News h₀ L h' big' := fun p hp =>
  (hs p hp).elim (fun h1 => U p h1) fun h1 => ⟨k _ _ h1.2 (N p h1.1).1, (N p h1.1).2⟩
theorem news_sub {h₀ h : Heap} {L : Addr} {big small : List (Addr × Obj)} (N : News h₀ L h big) (hs : ∀ p ∈ small, p ∈ big) : News h₀ L h small := fun p hp => N p (hs p hp)

theorem nd_of {full part : List Addr} (h : full.Nodup) (hc : ∀ x, part.count x ≤ full.count x) : part.Nodup :=
  List.nodup_iff_count.mpr fun x => Nat.le_trans (hc x) (List.nodup_iff_count.mp h x)
theorem off_of {full S T : List Addr} {x : Addr} (h : full.Nodup) (hx : x ∈ T) (hc : T.count x + S.count x ≤ full.count x) : x ∉ S := fun hS => by
  have h1 := List.nodup_iff_count.mp h x
  have h2 := List.count_pos_iff.mpr hx
  have h3 := List.count_pos_iff.mpr hS
  omega

theorem ra_old {prog : Program} {w : World} {p : Program} {loose : List Str} {mean : ExcName → Option Value} {mg mb : Str → Option Value}
  {dp un : Nat} {gd : Option (List Code)} {cn : Str} {cs : Scope} {a : Addr} {ccd : Value} {cl : List (Str × Addr)} {outer : List Env} {A₀ : Around} {base h₀ : Heap} {L : Addr} {m : Str → Option Value} {s : Shared} {Q E : Value → Shared → Prop}
  (B : Below A₀ base outer h₀) (F : Fr h₀ L s.heap m) (X : (hd.heap_39 w.params).In h₀) (T : Top p loose mean mg mb h₀) (hk : cs.kind = .function)
  (hdp : dp + 8 < recursionLimit) (hun : un + 60 < cLine)
  {q : Mt} {c dc cd : Addr} {o : Obj} {kvs : List (Int × Value)} {mx ac : Value} {n : Nd} {pre post : List Nd}
  (ND : (c :: dc :: cd :: addrs (pre ++ n :: post)).Nodup) (hd : o.IsDictOf (PySem.intKind prog w) kvs) (hv : ∀ x ∈ post, valueAt kvs x.k = some (.ref x.a))
  (N : News h₀ L s.heap (cacheLed c dc cd q o (pre ++ n :: post) mx ac))
  (ret : ∀ h' tk', Kp (dc :: addrs (pre ++ n :: post)) s.heap h' → News h₀ L h' (cacheLed c dc cd q o (n :: (pre ++ post)) mx ac) → Q .none { s with heap := h', toks := tk' }) :
  wpAny (model prog w) (ktrTop dp un gd cn cs L a ccd cl outer) (call (.ref 149) [.ref c, .ref n.a]) Q E s := by
  obtain ⟨kn, tn, n, dn, vn, qn⟩ := n
  dsimp only at *
  cases pre with
  | nil =>
    have z0 : ∀ y ∈ addrs post, y ∉ [dc] := fun y hy => off_of ND hy (by simp only [List.count_cons, List.count_append, List.count_nil, addrs, addrs_append, List.append_assoc, List.cons_append, List.nil_append, List.concat_eq_append]; omega)
    have zin : n ∉ [dc] ∧ dn ∉ [dc] := ⟨off_of (T := [n]) ND (by simp) (by simp only [List.count_cons, List.count_append, List.count_nil, addrs, addrs_append, List.append_assoc, List.cons_append, List.nil_append, List.concat_eq_append]; omega), off_of (T := [dn]) ND (by simp) (by simp only [List.count_cons, List.count_append, List.count_nil, addrs, addrs_append, List.append_assoc, List.cons_append, List.nil_append, List.concat_eq_append]; omega)⟩
    have zzc : c ∉ [dc] := off_of (T := [c]) ND (by simp) (by simp only [List.count_cons, List.count_append, List.count_nil, addrs, addrs_append, List.append_assoc, List.cons_append, List.nil_append, List.concat_eq_append]; omega)
    have zzcd : cd ∉ [dc] := off_of (T := [cd]) ND (by simp) (by simp only [List.count_cons, List.count_append, List.count_nil, addrs, addrs_append, List.append_assoc, List.cons_append, List.nil_append, List.concat_eq_append]; omega)
    refine ra_mru (q := q)  (c := c) (dc := dc) (cd := cd)   (o := o) (kvs := kvs) (mx := mx) (ac := ac) (n := n) (lru := lr .none (⟨kn, tn, n, dn, vn, qn⟩ :: post)) B F X T hk hdp hun (nd_of ND (fun x => by simp only [List.count_cons, List.count_append, List.count_nil, addrs, addrs_append, List.append_assoc, List.cons_append, List.nil_append, List.concat_eq_append]; omega))  (news_sub N (by (simp only [cacheLed, seg, seg_append, List.append_assoc, List.cons_append, List.nil_append, hdk_nil, hdk_cons, hr_nil, hr_cons, lr, lr_append, hdk_append, List.concat_eq_append]; repeat' (first | exact List.forall_mem_nil _ | refine List.forall_mem_cons.mpr ⟨by (simp only [List.mem_cons, List.mem_append, true_or, or_true]; done), ?_⟩)))) (fun h' tk' K U => ret h' tk' (K.mono (by simp)) (news_upd N K U ?_))
    simp only [cacheLed, seg, seg_append, List.append_assoc, List.cons_append, List.nil_append, hdk_nil, hdk_cons, hr_nil, hr_cons, lr, lr_append, hdk_append, List.concat_eq_append]
    repeat' (first | exact List.forall_mem_nil _ | (refine List.forall_mem_cons.mpr ⟨Or.inl ?x1, ?_⟩; (case x1 => (simp only [List.mem_cons, List.mem_append, true_or, or_true]; done))) | (refine List.forall_mem_cons.mpr ⟨Or.inr ⟨?x1, ?x2⟩, ?_⟩; (case x1 => (simp only [List.mem_cons, List.mem_append, true_or, or_true]; done)); (case x2 => first | exact zzc | exact zzcd | exact zin.1 | exact zin.2)) | refine List.forall_mem_append.mpr ⟨fun y hy => Or.inr ⟨by (simp only [List.mem_cons, List.mem_append, hy, true_or, or_true]; done), z0 _ (seg_mem hy)⟩, ?_⟩ | exact fun y hy => Or.inr ⟨by (simp only [List.mem_cons, List.mem_append, hy, true_or, or_true]; done), z0 _ (seg_mem hy)⟩)
  | cons u pre =>
    obtain ⟨ku, tu, u, du, vu, qu⟩ := u
    rcases List.eq_nil_or_concat pre with rfl | ⟨mid, b, rfl⟩
    · rcases post with _ | ⟨e, post⟩
      · have zzc : c ∉ [dc, dn, du] := off_of (T := [c]) ND (by simp) (by simp only [List.count_cons, List.count_append, List.count_nil, addrs, addrs_append, List.append_assoc, List.cons_append, List.nil_append, List.concat_eq_append]; omega)
        have zzcd : cd ∉ [dc, dn, du] := off_of (T := [cd]) ND (by simp) (by simp only [List.count_cons, List.count_append, List.count_nil, addrs, addrs_append, List.append_assoc, List.cons_append, List.nil_append, List.concat_eq_append]; omega)
        refine ra_lastM (q := q) (qn := qn) (qu := qu) (c := c) (dc := dc) (cd := cd) (n := n) (dn := dn) (u := u) (du := du) (kn := kn) (tn := tn) (vn := vn) (ku := ku) (tu := tu) (vu := vu) (o := o) (kvs := kvs) (mx := mx) (ac := ac)  B F X T hk hdp hun (nd_of ND (fun x => by simp only [List.count_cons, List.count_append, List.count_nil, addrs, addrs_append, List.append_assoc, List.cons_append, List.nil_append, List.concat_eq_append]; omega))  (news_sub N (by (simp only [cacheLed, seg, seg_append, List.append_assoc, List.cons_append, List.nil_append, hdk_nil, hdk_cons, hr_nil, hr_cons, lr, lr_append, hdk_append, List.concat_eq_append]; repeat' (first | exact List.forall_mem_nil _ | refine List.forall_mem_cons.mpr ⟨by (simp only [List.mem_cons, List.mem_append, true_or, or_true]; done), ?_⟩)))) (fun h' tk' K U => ret h' tk' (K.mono (by simp [addrs, addrs_append])) (news_upd N K U ?_))
        simp only [cacheLed, seg, seg_append, List.append_assoc, List.cons_append, List.nil_append, hdk_nil, hdk_cons, hr_nil, hr_cons, lr, lr_append, hdk_append, List.concat_eq_append]
        repeat' (first | exact List.forall_mem_nil _ | (refine List.forall_mem_cons.mpr ⟨Or.inl ?x1, ?_⟩; (case x1 => (simp only [List.mem_cons, List.mem_append, true_or, or_true]; done))) | (refine List.forall_mem_cons.mpr ⟨Or.inr ⟨?x1, ?x2⟩, ?_⟩; (case x1 => (simp only [List.mem_cons, List.mem_append, true_or, or_true]; done)); (case x2 => first | exact zzc | exact zzcd)))
      · obtain ⟨ke, te, e, de, ve, qe⟩ := e
        rcases List.eq_nil_or_concat post with rfl | ⟨mid2, l, rfl⟩
        · have zzc : c ∉ [dc, dn, du, de] := off_of (T := [c]) ND (by simp) (by simp only [List.count_cons, List.count_append, List.count_nil, addrs, addrs_append, List.append_assoc, List.cons_append, List.nil_append, List.concat_eq_append]; omega)
          have zzcd : cd ∉ [dc, dn, du, de] := off_of (T := [cd]) ND (by simp) (by simp only [List.count_cons, List.count_append, List.count_nil, addrs, addrs_append, List.append_assoc, List.cons_append, List.nil_append, List.concat_eq_append]; omega)
          refine ra_midUE (q := q) (qn := qn) (qu := qu) (qe := qe) (c := c) (dc := dc) (cd := cd) (n := n) (dn := dn) (u := u) (du := du) (e := e) (de := de) (kn := kn) (tn := tn) (vn := vn) (ku := ku) (tu := tu) (vu := vu) (ke := ke) (te := te) (ve := ve) (o := o) (kvs := kvs) (mx := mx) (ac := ac) (nxe := .none) B F X T hk hdp hun (nd_of ND (fun x => by simp only [List.count_cons, List.count_append, List.count_nil, addrs, addrs_append, List.append_assoc, List.cons_append, List.nil_append, List.concat_eq_append]; omega)) hd (hv ⟨ke, te, e, de, ve, qe⟩ (by simp)) (news_sub N (by (simp only [cacheLed, seg, seg_append, List.append_assoc, List.cons_append, List.nil_append, hdk_nil, hdk_cons, hr_nil, hr_cons, lr, lr_append, hdk_append, List.concat_eq_append]; repeat' (first | exact List.forall_mem_nil _ | refine List.forall_mem_cons.mpr ⟨by (simp only [List.mem_cons, List.mem_append, true_or, or_true]; done), ?_⟩)))) (fun h' tk' K U => ret h' tk' (K.mono (by simp [addrs, addrs_append])) (news_upd N K U ?_))
          simp only [cacheLed, seg, seg_append, List.append_assoc, List.cons_append, List.nil_append, hdk_nil, hdk_cons, hr_nil, hr_cons, lr, lr_append, hdk_append, List.concat_eq_append]
          repeat' (first | exact List.forall_mem_nil _ | (refine List.forall_mem_cons.mpr ⟨Or.inl ?x1, ?_⟩; (case x1 => (simp only [List.mem_cons, List.mem_append, true_or, or_true]; done))) | (refine List.forall_mem_cons.mpr ⟨Or.inr ⟨?x1, ?x2⟩, ?_⟩; (case x1 => (simp only [List.mem_cons, List.mem_append, true_or, or_true]; done)); (case x2 => first | exact zzc | exact zzcd)))
        · obtain ⟨kl, tl, l, dl, vl, ql⟩ := l
          have z0 : ∀ y ∈ addrs mid2, y ∉ [dc, dn, du, de] := fun y hy => off_of ND hy (by simp only [List.count_cons, List.count_append, List.count_nil, addrs, addrs_append, List.append_assoc, List.cons_append, List.nil_append, List.concat_eq_append]; omega)
          have zil : l ∉ [dc, dn, du, de] ∧ dl ∉ [dc, dn, du, de] := ⟨off_of (T := [l]) ND (by simp) (by simp only [List.count_cons, List.count_append, List.count_nil, addrs, addrs_append, List.append_assoc, List.cons_append, List.nil_append, List.concat_eq_append]; omega), off_of (T := [dl]) ND (by simp) (by simp only [List.count_cons, List.count_append, List.count_nil, addrs, addrs_append, List.append_assoc, List.cons_append, List.nil_append, List.concat_eq_append]; omega)⟩
          have zzc : c ∉ [dc, dn, du, de] := off_of (T := [c]) ND (by simp) (by simp only [List.count_cons, List.count_append, List.count_nil, addrs, addrs_append, List.append_assoc, List.cons_append, List.nil_append, List.concat_eq_append]; omega)
          have zzcd : cd ∉ [dc, dn, du, de] := off_of (T := [cd]) ND (by simp) (by simp only [List.count_cons, List.count_append, List.count_nil, addrs, addrs_append, List.append_assoc, List.cons_append, List.nil_append, List.concat_eq_append]; omega)
          refine ra_midUL (q := q) (qn := qn) (qu := qu) (qe := qe) (c := c) (dc := dc) (cd := cd) (n := n) (dn := dn) (u := u) (du := du) (e := e) (de := de) (l := l) (dl := dl) (kn := kn) (tn := tn) (vn := vn) (ku := ku) (tu := tu) (vu := vu) (ke := ke) (te := te) (ve := ve) (o := o) (kvs := kvs) (mx := mx) (ac := ac) (nxe := hdk (.int kl tl) mid2) B F X T hk hdp hun (nd_of ND (fun x => by simp only [List.count_cons, List.count_append, List.count_nil, addrs, addrs_append, List.append_assoc, List.cons_append, List.nil_append, List.concat_eq_append]; omega)) hd (hv ⟨ke, te, e, de, ve, qe⟩ (by simp)) (news_sub N (by (simp only [cacheLed, seg, seg_append, List.append_assoc, List.cons_append, List.nil_append, hdk_nil, hdk_cons, hr_nil, hr_cons, lr, lr_append, hdk_append, List.concat_eq_append]; repeat' (first | exact List.forall_mem_nil _ | refine List.forall_mem_cons.mpr ⟨by (simp only [List.mem_cons, List.mem_append, true_or, or_true]; done), ?_⟩)))) (fun h' tk' K U => ret h' tk' (K.mono (by simp [addrs, addrs_append])) (news_upd N K U ?_))
          simp only [cacheLed, seg, seg_append, List.append_assoc, List.cons_append, List.nil_append, hdk_nil, hdk_cons, hr_nil, hr_cons, lr, lr_append, hdk_append, List.concat_eq_append]
          repeat' (first | exact List.forall_mem_nil _ | (refine List.forall_mem_cons.mpr ⟨Or.inl ?x1, ?_⟩; (case x1 => (simp only [List.mem_cons, List.mem_append, true_or, or_true]; done))) | (refine List.forall_mem_cons.mpr ⟨Or.inr ⟨?x1, ?x2⟩, ?_⟩; (case x1 => (simp only [List.mem_cons, List.mem_append, true_or, or_true]; done)); (case x2 => first | exact zzc | exact zzcd | exact zil.1 | exact zil.2)) | refine List.forall_mem_append.mpr ⟨fun y hy => Or.inr ⟨by (simp only [List.mem_cons, List.mem_append, hy, true_or, or_true]; done), z0 _ (seg_mem hy)⟩, ?_⟩ | exact fun y hy => Or.inr ⟨by (simp only [List.mem_cons, List.mem_append, hy, true_or, or_true]; done), z0 _ (seg_mem hy)⟩)
    · obtain ⟨kb, tb, b, db, vb, qb⟩ := b
      rcases post with _ | ⟨e, post⟩
      · have z0 : ∀ y ∈ addrs mid, y ∉ [dc, dn, du, db] := fun y hy => off_of ND hy (by simp only [List.count_cons, List.count_append, List.count_nil, addrs, addrs_append, List.append_assoc, List.cons_append, List.nil_append, List.concat_eq_append]; omega)
        have zzc : c ∉ [dc, dn, du, db] := off_of (T := [c]) ND (by simp) (by simp only [List.count_cons, List.count_append, List.count_nil, addrs, addrs_append, List.append_assoc, List.cons_append, List.nil_append, List.concat_eq_append]; omega)
        have zzcd : cd ∉ [dc, dn, du, db] := off_of (T := [cd]) ND (by simp) (by simp only [List.count_cons, List.count_append, List.count_nil, addrs, addrs_append, List.append_assoc, List.cons_append, List.nil_append, List.concat_eq_append]; omega)
        refine ra_lastP (q := q) (qn := qn) (qu := qu) (qb := qb) (c := c) (dc := dc) (cd := cd) (n := n) (dn := dn) (u := u) (du := du) (b := b) (db := db) (kn := kn) (tn := tn) (vn := vn) (ku := ku) (tu := tu) (vu := vu) (kb := kb) (tb := tb) (vb := vb) (o := o) (kvs := kvs) (mx := mx) (ac := ac) (nxu := hdk (.int kb tb) mid) (prb := lr (.ref u) mid) B F X T hk hdp hun (nd_of ND (fun x => by simp only [List.count_cons, List.count_append, List.count_nil, addrs, addrs_append, List.append_assoc, List.cons_append, List.nil_append, List.concat_eq_append]; omega))  (news_sub N (by (simp only [cacheLed, seg, seg_append, List.append_assoc, List.cons_append, List.nil_append, hdk_nil, hdk_cons, hr_nil, hr_cons, lr, lr_append, hdk_append, List.concat_eq_append]; repeat' (first | exact List.forall_mem_nil _ | refine List.forall_mem_cons.mpr ⟨by (simp only [List.mem_cons, List.mem_append, true_or, or_true]; done), ?_⟩)))) (fun h' tk' K U => ret h' tk' (K.mono (by simp [addrs, addrs_append])) (news_upd N K U ?_))
        simp only [cacheLed, seg, seg_append, List.append_assoc, List.cons_append, List.nil_append, hdk_nil, hdk_cons, hr_nil, hr_cons, lr, lr_append, hdk_append, List.concat_eq_append]
        repeat' (first | exact List.forall_mem_nil _ | (refine List.forall_mem_cons.mpr ⟨Or.inl ?x1, ?_⟩; (case x1 => (simp only [List.mem_cons, List.mem_append, true_or, or_true]; done))) | (refine List.forall_mem_cons.mpr ⟨Or.inr ⟨?x1, ?x2⟩, ?_⟩; (case x1 => (simp only [List.mem_cons, List.mem_append, true_or, or_true]; done)); (case x2 => first | exact zzc | exact zzcd)) | refine List.forall_mem_append.mpr ⟨fun y hy => Or.inr ⟨by (simp only [List.mem_cons, List.mem_append, hy, true_or, or_true]; done), z0 _ (seg_mem hy)⟩, ?_⟩ | exact fun y hy => Or.inr ⟨by (simp only [List.mem_cons, List.mem_append, hy, true_or, or_true]; done), z0 _ (seg_mem hy)⟩)
      · obtain ⟨ke, te, e, de, ve, qe⟩ := e
        rcases List.eq_nil_or_concat post with rfl | ⟨mid2, l, rfl⟩
        · have z0 : ∀ y ∈ addrs mid, y ∉ [dc, dn, du, db, de] := fun y hy => off_of ND hy (by simp only [List.count_cons, List.count_append, List.count_nil, addrs, addrs_append, List.append_assoc, List.cons_append, List.nil_append, List.concat_eq_append]; omega)
          have zzc : c ∉ [dc, dn, du, db, de] := off_of (T := [c]) ND (by simp) (by simp only [List.count_cons, List.count_append, List.count_nil, addrs, addrs_append, List.append_assoc, List.cons_append, List.nil_append, List.concat_eq_append]; omega)
          have zzcd : cd ∉ [dc, dn, du, db, de] := off_of (T := [cd]) ND (by simp) (by simp only [List.count_cons, List.count_append, List.count_nil, addrs, addrs_append, List.append_assoc, List.cons_append, List.nil_append, List.concat_eq_append]; omega)
          refine ra_midBE (q := q) (qn := qn) (qu := qu) (qb := qb) (qe := qe) (c := c) (dc := dc) (cd := cd) (n := n) (dn := dn) (u := u) (du := du) (b := b) (db := db) (e := e) (de := de) (kn := kn) (tn := tn) (vn := vn) (ku := ku) (tu := tu) (vu := vu) (kb := kb) (tb := tb) (vb := vb) (ke := ke) (te := te) (ve := ve) (o := o) (kvs := kvs) (mx := mx) (ac := ac) (nxe := .none) (nxu := hdk (.int kb tb) mid) (prb := lr (.ref u) mid) B F X T hk hdp hun (nd_of ND (fun x => by simp only [List.count_cons, List.count_append, List.count_nil, addrs, addrs_append, List.append_assoc, List.cons_append, List.nil_append, List.concat_eq_append]; omega)) hd (hv ⟨ke, te, e, de, ve, qe⟩ (by simp)) (news_sub N (by (simp only [cacheLed, seg, seg_append, List.append_assoc, List.cons_append, List.nil_append, hdk_nil, hdk_cons, hr_nil, hr_cons, lr, lr_append, hdk_append, List.concat_eq_append]; repeat' (first | exact List.forall_mem_nil _ | refine List.forall_mem_cons.mpr ⟨by (simp only [List.mem_cons, List.mem_append, true_or, or_true]; done), ?_⟩)))) (fun h' tk' K U => ret h' tk' (K.mono (by simp [addrs, addrs_append])) (news_upd N K U ?_))
          simp only [cacheLed, seg, seg_append, List.append_assoc, List.cons_append, List.nil_append, hdk_nil, hdk_cons, hr_nil, hr_cons, lr, lr_append, hdk_append, List.concat_eq_append]
          repeat' (first | exact List.forall_mem_nil _ | (refine List.forall_mem_cons.mpr ⟨Or.inl ?x1, ?_⟩; (case x1 => (simp only [List.mem_cons, List.mem_append, true_or, or_true]; done))) | (refine List.forall_mem_cons.mpr ⟨Or.inr ⟨?x1, ?x2⟩, ?_⟩; (case x1 => (simp only [List.mem_cons, List.mem_append, true_or, or_true]; done)); (case x2 => first | exact zzc | exact zzcd)) | refine List.forall_mem_append.mpr ⟨fun y hy => Or.inr ⟨by (simp only [List.mem_cons, List.mem_append, hy, true_or, or_true]; done), z0 _ (seg_mem hy)⟩, ?_⟩ | exact fun y hy => Or.inr ⟨by (simp only [List.mem_cons, List.mem_append, hy, true_or, or_true]; done), z0 _ (seg_mem hy)⟩)
        · obtain ⟨kl, tl, l, dl, vl, ql⟩ := l
          have z0 : ∀ y ∈ addrs mid, y ∉ [dc, dn, du, db, de] := fun y hy => off_of ND hy (by simp only [List.count_cons, List.count_append, List.count_nil, addrs, addrs_append, List.append_assoc, List.cons_append, List.nil_append, List.concat_eq_append]; omega)
          have z1 : ∀ y ∈ addrs mid2, y ∉ [dc, dn, du, db, de] := fun y hy => off_of ND hy (by simp only [List.count_cons, List.count_append, List.count_nil, addrs, addrs_append, List.append_assoc, List.cons_append, List.nil_append, List.concat_eq_append]; omega)
          have zil : l ∉ [dc, dn, du, db, de] ∧ dl ∉ [dc, dn, du, db, de] := ⟨off_of (T := [l]) ND (by simp) (by simp only [List.count_cons, List.count_append, List.count_nil, addrs, addrs_append, List.append_assoc, List.cons_append, List.nil_append, List.concat_eq_append]; omega), off_of (T := [dl]) ND (by simp) (by simp only [List.count_cons, List.count_append, List.count_nil, addrs, addrs_append, List.append_assoc, List.cons_append, List.nil_append, List.concat_eq_append]; omega)⟩
          have zzc : c ∉ [dc, dn, du, db, de] := off_of (T := [c]) ND (by simp) (by simp only [List.count_cons, List.count_append, List.count_nil, addrs, addrs_append, List.append_assoc, List.cons_append, List.nil_append, List.concat_eq_append]; omega)
          have zzcd : cd ∉ [dc, dn, du, db, de] := off_of (T := [cd]) ND (by simp) (by simp only [List.count_cons, List.count_append, List.count_nil, addrs, addrs_append, List.append_assoc, List.cons_append, List.nil_append, List.concat_eq_append]; omega)
          refine ra_midBL (q := q) (qn := qn) (qu := qu) (qb := qb) (qe := qe) (c := c) (dc := dc) (cd := cd) (n := n) (dn := dn) (u := u) (du := du) (b := b) (db := db) (e := e) (de := de) (l := l) (dl := dl) (kn := kn) (tn := tn) (vn := vn) (ku := ku) (tu := tu) (vu := vu) (kb := kb) (tb := tb) (vb := vb) (ke := ke) (te := te) (ve := ve) (o := o) (kvs := kvs) (mx := mx) (ac := ac) (nxe := hdk (.int kl tl) mid2) (nxu := hdk (.int kb tb) mid) (prb := lr (.ref u) mid) B F X T hk hdp hun (nd_of ND (fun x => by simp only [List.count_cons, List.count_append, List.count_nil, addrs, addrs_append, List.append_assoc, List.cons_append, List.nil_append, List.concat_eq_append]; omega)) hd (hv ⟨ke, te, e, de, ve, qe⟩ (by simp)) (news_sub N (by (simp only [cacheLed, seg, seg_append, List.append_assoc, List.cons_append, List.nil_append, hdk_nil, hdk_cons, hr_nil, hr_cons, lr, lr_append, hdk_append, List.concat_eq_append]; repeat' (first | exact List.forall_mem_nil _ | refine List.forall_mem_cons.mpr ⟨by (simp only [List.mem_cons, List.mem_append, true_or, or_true]; done), ?_⟩)))) (fun h' tk' K U => ret h' tk' (K.mono (by simp [addrs, addrs_append])) (news_upd N K U ?_))
          simp only [cacheLed, seg, seg_append, List.append_assoc, List.cons_append, List.nil_append, hdk_nil, hdk_cons, hr_nil, hr_cons, lr, lr_append, hdk_append, List.concat_eq_append]
          repeat' (first | exact List.forall_mem_nil _ | (refine List.forall_mem_cons.mpr ⟨Or.inl ?x1, ?_⟩; (case x1 => (simp only [List.mem_cons, List.mem_append, true_or, or_true]; done))) | (refine List.forall_mem_cons.mpr ⟨Or.inr ⟨?x1, ?x2⟩, ?_⟩; (case x1 => (simp only [List.mem_cons, List.mem_append, true_or, or_true]; done)); (case x2 => first | exact zzc | exact zzcd | exact zil.1 | exact zil.2)) | refine List.forall_mem_append.mpr ⟨fun y hy => Or.inr ⟨by (simp only [List.mem_cons, List.mem_append, hy, true_or, or_true]; done), z0 _ (seg_mem hy)⟩, ?_⟩ | exact fun y hy => Or.inr ⟨by (simp only [List.mem_cons, List.mem_append, hy, true_or, or_true]; done), z0 _ (seg_mem hy)⟩ | refine List.forall_mem_append.mpr ⟨fun y hy => Or.inr ⟨by (simp only [List.mem_cons, List.mem_append, hy, true_or, or_true]; done), z1 _ (seg_mem hy)⟩, ?_⟩ | exact fun y hy => Or.inr ⟨by (simp only [List.mem_cons, List.mem_append, hy, true_or, or_true]; done), z1 _ (seg_mem hy)⟩)

theorem ra_new {prog : Program} {w : World} {p : Program} {loose : List Str} {mean : ExcName → Option Value} {mg mb : Str → Option Value}
  {dp un : Nat} {gd : Option (List Code)} {cn : Str} {cs : Scope} {a : Addr} {ccd : Value} {cl : List (Str × Addr)} {outer : List Env} {A₀ : Around} {base h₀ : Heap} {L : Addr} {m : Str → Option Value} {s : Shared} {Q E : Value → Shared → Prop}
  (B : Below A₀ base outer h₀) (F : Fr h₀ L s.heap m) (X : (hd.heap_39 w.params).In h₀) (T : Top p loose mean mg mb h₀) (hk : cs.kind = .function)
  (hdp : dp + 8 < recursionLimit) (hun : un + 60 < cLine)
  {q : Mt} {c dc cd : Addr} {o : Obj} {kvs : List (Int × Value)} {mx ac : Value} {n : Nd} {l : List Nd}
  (ND : (c :: dc :: cd :: addrs (n :: l)).Nodup)
  (N : News h₀ L s.heap ((n.a, instObj 53 n.d) :: (n.d, nodeD n.q .none .none (.int n.k n.kt) n.v) :: cacheLed c dc cd q o l mx ac))
  (ret : ∀ h' tk', Kp (dc :: addrs (n :: l)) s.heap h' → News h₀ L h' (cacheLed c dc cd q o (n :: l) mx ac) → Q .none { s with heap := h', toks := tk' }) :
  wpAny (model prog w) (ktrTop dp un gd cn cs L a ccd cl outer) (call (.ref 149) [.ref c, .ref n.a]) Q E s := by
  obtain ⟨kn, tn, n, dn, vn, qn⟩ := n
  dsimp only at *
  rcases l with _ | ⟨u, l⟩
  · have zzc : c ∉ [dc, dn] := off_of (T := [c]) ND (by simp) (by simp only [List.count_cons, List.count_append, List.count_nil, addrs, addrs_append, List.append_assoc, List.cons_append, List.nil_append, List.concat_eq_append]; omega)
    have zzcd : cd ∉ [dc, dn] := off_of (T := [cd]) ND (by simp) (by simp only [List.count_cons, List.count_append, List.count_nil, addrs, addrs_append, List.append_assoc, List.cons_append, List.nil_append, List.concat_eq_append]; omega)
    refine ra_first (q := q) (qn := qn) (c := c) (dc := dc) (cd := cd) (n := n) (dn := dn) (kn := kn) (tn := tn) (vn := vn) (o := o) (kvs := kvs) (mx := mx) (ac := ac) (lru := .none) B F X T hk hdp hun (nd_of ND (fun x => by simp only [List.count_cons, List.count_append, List.count_nil, addrs, addrs_append, List.append_assoc, List.cons_append, List.nil_append, List.concat_eq_append]; omega))  (news_sub N (by (simp only [cacheLed, seg, seg_append, List.append_assoc, List.cons_append, List.nil_append, hdk_nil, hdk_cons, hr_nil, hr_cons, lr, lr_append, hdk_append, List.concat_eq_append]; repeat' (first | exact List.forall_mem_nil _ | refine List.forall_mem_cons.mpr ⟨by (simp only [List.mem_cons, List.mem_append, true_or, or_true]; done), ?_⟩)))) (fun h' tk' K U => ret h' tk' (K.mono (by simp [addrs, addrs_append])) (news_upd N K U ?_))
    simp only [cacheLed, seg, seg_append, List.append_assoc, List.cons_append, List.nil_append, hdk_nil, hdk_cons, hr_nil, hr_cons, lr, lr_append, hdk_append, List.concat_eq_append]
    repeat' (first | exact List.forall_mem_nil _ | (refine List.forall_mem_cons.mpr ⟨Or.inl ?x1, ?_⟩; (case x1 => (simp only [List.mem_cons, List.mem_append, true_or, or_true]; done))) | (refine List.forall_mem_cons.mpr ⟨Or.inr ⟨?x1, ?x2⟩, ?_⟩; (case x1 => (simp only [List.mem_cons, List.mem_append, true_or, or_true]; done)); (case x2 => first | exact zzc | exact zzcd)))
  · obtain ⟨ku, tu, u, du, vu, qu⟩ := u
    rcases List.eq_nil_or_concat l with rfl | ⟨mid, l, rfl⟩
    · have zzc : c ∉ [dc, dn, du] := off_of (T := [c]) ND (by simp) (by simp only [List.count_cons, List.count_append, List.count_nil, addrs, addrs_append, List.append_assoc, List.cons_append, List.nil_append, List.concat_eq_append]; omega)
      have zzcd : cd ∉ [dc, dn, du] := off_of (T := [cd]) ND (by simp) (by simp only [List.count_cons, List.count_append, List.count_nil, addrs, addrs_append, List.append_assoc, List.cons_append, List.nil_append, List.concat_eq_append]; omega)
      refine ra_newM (q := q) (qn := qn) (qu := qu) (c := c) (dc := dc) (cd := cd) (n := n) (dn := dn) (u := u) (du := du) (kn := kn) (tn := tn) (vn := vn) (ku := ku) (tu := tu) (vu := vu) (o := o) (kvs := kvs) (mx := mx) (ac := ac) (nxu := .none) B F X T hk hdp hun (nd_of ND (fun x => by simp only [List.count_cons, List.count_append, List.count_nil, addrs, addrs_append, List.append_assoc, List.cons_append, List.nil_append, List.concat_eq_append]; omega))  (news_sub N (by (simp only [cacheLed, seg, seg_append, List.append_assoc, List.cons_append, List.nil_append, hdk_nil, hdk_cons, hr_nil, hr_cons, lr, lr_append, hdk_append, List.concat_eq_append]; repeat' (first | exact List.forall_mem_nil _ | refine List.forall_mem_cons.mpr ⟨by (simp only [List.mem_cons, List.mem_append, true_or, or_true]; done), ?_⟩)))) (fun h' tk' K U => ret h' tk' (K.mono (by simp [addrs, addrs_append])) (news_upd N K U ?_))
      simp only [cacheLed, seg, seg_append, List.append_assoc, List.cons_append, List.nil_append, hdk_nil, hdk_cons, hr_nil, hr_cons, lr, lr_append, hdk_append, List.concat_eq_append]
      repeat' (first | exact List.forall_mem_nil _ | (refine List.forall_mem_cons.mpr ⟨Or.inl ?x1, ?_⟩; (case x1 => (simp only [List.mem_cons, List.mem_append, true_or, or_true]; done))) | (refine List.forall_mem_cons.mpr ⟨Or.inr ⟨?x1, ?x2⟩, ?_⟩; (case x1 => (simp only [List.mem_cons, List.mem_append, true_or, or_true]; done)); (case x2 => first | exact zzc | exact zzcd)))
    · obtain ⟨kl, tl, l, dl, vl, ql⟩ := l
      have z0 : ∀ y ∈ addrs mid, y ∉ [dc, dn, du] := fun y hy => off_of ND hy (by simp only [List.count_cons, List.count_append, List.count_nil, addrs, addrs_append, List.append_assoc, List.cons_append, List.nil_append, List.concat_eq_append]; omega)
      have zil : l ∉ [dc, dn, du] ∧ dl ∉ [dc, dn, du] := ⟨off_of (T := [l]) ND (by simp) (by simp only [List.count_cons, List.count_append, List.count_nil, addrs, addrs_append, List.append_assoc, List.cons_append, List.nil_append, List.concat_eq_append]; omega), off_of (T := [dl]) ND (by simp) (by simp only [List.count_cons, List.count_append, List.count_nil, addrs, addrs_append, List.append_assoc, List.cons_append, List.nil_append, List.concat_eq_append]; omega)⟩
      have zzc : c ∉ [dc, dn, du] := off_of (T := [c]) ND (by simp) (by simp only [List.count_cons, List.count_append, List.count_nil, addrs, addrs_append, List.append_assoc, List.cons_append, List.nil_append, List.concat_eq_append]; omega)
      have zzcd : cd ∉ [dc, dn, du] := off_of (T := [cd]) ND (by simp) (by simp only [List.count_cons, List.count_append, List.count_nil, addrs, addrs_append, List.append_assoc, List.cons_append, List.nil_append, List.concat_eq_append]; omega)
      refine ra_newL (q := q) (qn := qn) (qu := qu) (c := c) (dc := dc) (cd := cd) (n := n) (dn := dn) (u := u) (du := du) (l := l) (dl := dl) (kn := kn) (tn := tn) (vn := vn) (ku := ku) (tu := tu) (vu := vu) (o := o) (kvs := kvs) (mx := mx) (ac := ac) (nxu := hdk (.int kl tl) mid) B F X T hk hdp hun (nd_of ND (fun x => by simp only [List.count_cons, List.count_append, List.count_nil, addrs, addrs_append, List.append_assoc, List.cons_append, List.nil_append, List.concat_eq_append]; omega))  (news_sub N (by (simp only [cacheLed, seg, seg_append, List.append_assoc, List.cons_append, List.nil_append, hdk_nil, hdk_cons, hr_nil, hr_cons, lr, lr_append, hdk_append, List.concat_eq_append]; repeat' (first | exact List.forall_mem_nil _ | refine List.forall_mem_cons.mpr ⟨by (simp only [List.mem_cons, List.mem_append, true_or, or_true]; done), ?_⟩)))) (fun h' tk' K U => ret h' tk' (K.mono (by simp [addrs, addrs_append])) (news_upd N K U ?_))
      simp only [cacheLed, seg, seg_append, List.append_assoc, List.cons_append, List.nil_append, hdk_nil, hdk_cons, hr_nil, hr_cons, lr, lr_append, hdk_append, List.concat_eq_append]
      repeat' (first | exact List.forall_mem_nil _ | (refine List.forall_mem_cons.mpr ⟨Or.inl ?x1, ?_⟩; (case x1 => (simp only [List.mem_cons, List.mem_append, true_or, or_true]; done))) | (refine List.forall_mem_cons.mpr ⟨Or.inr ⟨?x1, ?x2⟩, ?_⟩; (case x1 => (simp only [List.mem_cons, List.mem_append, true_or, or_true]; done)); (case x2 => first | exact zzc | exact zzcd | exact zil.1 | exact zil.2)) | refine List.forall_mem_append.mpr ⟨fun y hy => Or.inr ⟨by (simp only [List.mem_cons, List.mem_append, hy, true_or, or_true]; done), z0 _ (seg_mem hy)⟩, ?_⟩ | exact fun y hy => Or.inr ⟨by (simp only [List.mem_cons, List.mem_append, hy, true_or, or_true]; done), z0 _ (seg_mem hy)⟩)
end Mine
end


/-! AD -/
section
open PySem PySem.W PyProof.Rows PySem.Spec PySem.Calls
set_option maxRecDepth 100000
set_option maxHeartbeats 8000000
set_option linter.unusedVariables false
namespace Mine
example : (fun (_ : OpenLaw) (_ : Params → Frag) => True) PySem.Challenge.rw_ft5003_01 hd.heap_39 := by k_fill; trivial

local macro_rules | `(tactic| walk_at "getItem ref int") => `(tactic| (k_here; k_dflt (refine getItem_D (by k_asm) (by k_mem) (by k_asm) (by assumption) ?_)))
local macro_rules | `(tactic| k_ne) => `(tactic| (refine neN ?_; (try dsimp only); first | assumption | exact Ne.symm (by assumption)))
local macro_rules | `(tactic| walk_at "subscriptTail") => `(tactic| (k_here; (with_reducible show wpAny _ _ (subscriptTail _ _ (Value.ref _) (Value.int _ _)) _ _ _); k_dflt (refine kda_item (knd := PySem.intKind _ _) (by k_asm) (by k_mem) (by k_asm) (intKind_is _ _ _ _) (by assumption) ?_)))
local macro_rules | `(tactic| walk_at "compareOp Is ref ref") => `(tactic| (k_here; (with_reducible show wpAny _ _ (compareOp CmpOp.Is (Value.ref _) (Value.ref _)) _ _ _); first | refine wpAny_is_ref_self ?_ | k_dflt (refine' kto_is ?a ?b ?n ?c ?_; (case a => kto_obj); (case b => kto_obj); (case n => k_ne); (case c => kto_not); k_whole)))

local macro_rules | `(tactic| k_enter) => `(tactic| (refine' code_def ?k1 ?k2 ?k3 ?k4 ?k5 ?kA ?kF ?kK ?k6 ?k7 ?k8 ?k9 ?kB ?_ ?c2 ?c3 ?c4 ?c5; (case kA => exact rfl); (case kF => exact rfl); (case kK => first | exact rfl | assumption); (case k1 => k_asm); (case k2 => k_asm); (case k3 => k_asm); (case k4 => k_asm); (case k5 => k_asm); (case k6 => k_is); (case k7 => k_is); (case k8 => ktr_room); (case k9 => first | exact BindsTo.of_eq rfl | exact binds_K (by k_in) rfl (by k_is) rfl rfl rfl); (case c5 => decide); (case kB => exact locs rfl); (case c2 => exact rfl); (case c3 => exact rfl); (case c4 => exact rfl); k_whole; intro g' L' h' FG' F' N' B' X' T'; (try dsimp only); (try k_lift B'); (try k_fold)))

local macro_rules | `(tactic| k_all) => `(tactic| first | exact List.forall_mem_nil _ | (refine' List.forall_mem_cons.mpr ⟨?a, ?b⟩; (case a => k_ne); (case b => k_all)) | assumption | exact fun p hp => Nat.ne_of_lt (ktn_ltOf (by assumption) p hp))
local macro_rules | `(tactic| walk_at "getMethod ref") => `(tactic| (k_here; k_dflt (first | refine getMethod_Dget (by k_asm) (by k_mem) (by k_asm) ?_ | refine getMethod_Dpop (by k_asm) (by k_mem) (by k_asm) ?_)))
local macro_rules | `(tactic| walk_at "call builtin:dict.pop") => `(tactic| (k_here; k_dflt (refine' pop_D ?F ?N ?U ?d ?l ?z ?_; (case F => k_asm); (case N => k_asm); (case U => k_updF); (case d => k_asm); (case l => assumption); (case z => first | assumption | (rw [sizeLine_eq]; omega))); intro h' o' F' N' hd'; (try dsimp only at N'); (try k_sweep)))
local macro_rules | `(tactic| walk_at "call builtin:dict.get") => `(tactic| (k_here; k_dflt (first | refine get2_D (by k_asm) (by k_mem) (by k_asm) (by assumption) (by assumption) ?_ | refine get2_D0 (by k_asm) (by k_mem) (by k_asm) (by assumption) (by assumption) ?_)))
local macro_rules | `(tactic| walk_at "call builtin:len") => `(tactic| (k_here; (with_reducible show wpAny _ _ (call (Value.builtin "len") [Value.ref _]) _ _ _); k_dflt (refine kda_len (knd := PySem.intKind _ _) (by k_asm) (by k_mem) (by k_asm) (by assumption) (by omega) ?_)))
local macro_rules | `(tactic| walk_at "compareOp In int ref") => `(tactic| (k_here; k_dflt (refine kda_in (knd := PySem.intKind _ _) (by k_asm) (by k_mem) (by k_asm) (by assumption) (intKind_is _ _ _ _) _ (by assumption) ?_)))
local macro_rules | `(tactic| walk_at "setItem ref int") => `(tactic| (k_here; k_dflt (refine' kda_set (knd := PySem.intKind _ _) ?F ?N ?U ?d (intKind_is _ _ _ _) ?z ?_; (case F => k_asm); (case N => k_asm); (case U => k_updF); (case d => k_asm); (case z => first | assumption | (rw [sizeLine_eq]; omega))); intro h' o' F' N' hd'; (try dsimp only at N'); (try k_sweep)))
local macro_rules | `(tactic| walk_at "WhlIf") => `(tactic| (first | (refine WhlIf.yes (by simp only [decide_eq_true_eq]; omega) ?_) | (refine WhlIf.no (by simp only [decide_eq_false_iff_not]; omega) ?_)))
local macro_rules | `(tactic| k_units) => `(tactic| first | exact Nat.le_of_ble_eq_true rfl | ktr_units)


def Held (P : Prop) : Prop := P
theorem Held.in {P : Prop} (h : P) : Held P := h
theorem Held.out {P : Prop} (h : Held P) : P := h
local macro_rules | `(tactic| walk_at "call ref") => `(tactic| (k_here; (first | (with_reducible show wpAny _ _ (call (Value.ref 149) _ _) _ _ _) | (with_reducible show wpAny _ _ (call (Value.ref 135) _ _) _ _ _)); refine Held.out ?_))

def mtOf (h0 h1 h2 h3 h4 h5 : Int) (t0 t1 t2 t3 t4 t5 : Tok) : Mt :=
  ⟨fun i => match i with | 0 => h0 | 1 => h1 | 2 => h2 | 3 => h3 | 4 => h4 | _ => h5, fun i => match i with | 0 => t0 | 1 => t1 | 2 => t2 | 3 => t3 | 4 => t4 | _ => t5⟩

theorem asNode {h0 h1 h2 h3 h4 h5 : Int} {t0 t1 t2 t3 t4 t5 : Tok} {prev next key val : Value} :
    (dictOf [⟨h0, .str (Str.ofString "prev") t0, prev⟩, ⟨h1, .str (Str.ofString "next_key") t1, next⟩, ⟨h2, .str (Str.ofString "key") t2, key⟩, ⟨h3, .str (Str.ofString "value") t3, val⟩, ⟨h4, .str (Str.ofString "cleanup") t4, .none⟩, ⟨h5, .str (Str.ofString "size") t5, .none⟩] 6 : Obj)
      = nodeD (mtOf h0 h1 h2 h3 h4 h5 t0 t1 t2 t3 t4 t5) prev next key val := rfl
theorem news_lower {h₀ g h' : Heap} {L L' : Addr} {m : Str → Option Value} {led' : List (Addr × Obj)} (FG : Fr h₀ L g m) (N' : News g L' h' led') : News h₀ L h' led' := fun p hp => by
  refine ⟨(N' p hp).1, fun e => ?_, ?_⟩
  · obtain ⟨oL, es, ep, hL, r⟩ := FG.ns
    have := (N' p hp).2.2
    rw [e, hL] at this; cases this
  · cases q : h₀.get? p.1 with
    | none => rfl
    | some o => have := (N' p hp).2.2; rw [FG.keep _ _ q] at this; cases this
theorem nd_new {c dc cd x d : Nat} {l : List Nat} (h : (c :: dc :: cd :: l).Nodup) (hc : c < d) (hdc : dc < d) (hcd : cd < d) (hl : ∀ y ∈ l, y < d) (hdx : d < x) : (c :: dc :: cd :: x :: d :: l).Nodup := by
  have e : List.Perm (c :: dc :: cd :: x :: d :: l) (x :: d :: c :: dc :: cd :: l) := List.perm_iff_count.mpr fun y => by simp only [List.count_cons]; omega
  refine e.nodup_iff.mpr (List.nodup_cons.mpr ⟨fun hx => ?_, List.nodup_cons.mpr ⟨fun hx => ?_, h⟩⟩)
  · simp only [List.mem_cons] at hx
    rcases hx with hx | hx | hx | hx | hx
    · omega
    · omega
    · omega
    · omega
    · have := hl _ hx; omega
  · simp only [List.mem_cons] at hx
    rcases hx with hx | hx | hx | hx
    · omega
    · omega
    · omega
    · have := hl _ hx; omega
theorem nd_notmem {c dc cd x d : Addr} {A : List Addr} (h : (c :: dc :: cd :: x :: d :: A).Nodup) : x ∉ c :: dc :: cd :: A ∧ d ∉ c :: dc :: cd :: A := by
  have f : ∀ y, (c :: dc :: cd :: x :: d :: A).count y ≤ 1 := fun y => List.nodup_iff_count.mp h y
  refine ⟨fun hx => ?_, fun hx => ?_⟩
  · have h1 := List.count_pos_iff.mpr hx
    have h2 := f x
    simp only [List.count_cons, beq_self_eq_true, if_true] at h1 h2
    omega
  · have h1 := List.count_pos_iff.mpr hx
    have h2 := f d
    simp only [List.count_cons, beq_self_eq_true, if_true] at h1 h2
    omega
theorem fr_kp {g h h' : Heap} {L : Addr} {m : Str → Option Value} {led : List (Addr × Obj)} {S : List Addr} (F : Fr g L h m) (N : News g L h led) (K : Kp S h h') (hs : ∀ a ∈ S, a ∈ led.map (·.1)) : Fr g L h' m :=
  Kp.fr F K fun a ha => by
    obtain ⟨p, hp, e⟩ := List.mem_map.mp (hs a ha)
    exact e ▸ ⟨(N p hp).2.2, (N p hp).2.1⟩
theorem kp_end {h g h' : Heap} {L' : Addr} {m' : Str → Option Value} {S : List Addr} (gk : ∀ b o, b ∉ S → h.get? b = some o → g.get? b = some o) (F' : Fr g L' h' m') : Kp S h h' := fun b o hb e => F'.keep b o (gk b o hb e)
theorem fresh_old {h g h' : Heap} {L' x : Addr} {S : List Addr} {led' : List (Addr × Obj)} {o : Obj} (gk : ∀ b o, b ∉ S → h.get? b = some o → g.get? b = some o) (N' : News g L' h' led') (hm : (x, o) ∈ led') (hx : x ∉ S) : h.get? x = none := by
  cases q : h.get? x with
  | none => rfl
  | some o' => have := (N' _ hm).2.2; rw [gk x o' hx q] at this; cases this

theorem stored_len {kvs : List (Int × Value)} {k : Int} {v : Value} (h : valueAt kvs k = none) : (stored kvs k v).length = kvs.length + 1 := by
  have hn : ¬ (kvs.any fun kv => decide (kv.1 = k)) = true := by
    intro q
    obtain ⟨kv, hkv, e⟩ := List.any_eq_true.mp q
    unfold valueAt at h
    simp only [Option.map_eq_none_iff, List.find?_eq_none] at h
    exact h kv hkv e
  unfold stored
  rw [if_neg hn, List.length_append]
  rfl
theorem stored_lenD {prog : Program} {w : World} {o : Obj} {kvs : List (Int × Value)} {k : Int} {v : Value} (_ : o.IsDictOf (PySem.intKind prog w) (stored kvs k v)) (h : valueAt kvs k = none) : (stored kvs k v).length = kvs.length + 1 := stored_len h
theorem without_lenD {prog : Program} {w : World} {o : Obj} {kvs : List (Int × Value)} {k kz : Int} {x : Addr} (_ : o.IsDictOf (PySem.intKind prog w) (stored kvs k (.ref x))) (h : ∀ b, (without (stored kvs k (.ref b)) kz).length + 1 = (stored kvs k (.ref b)).length) : (without (stored kvs k (.ref x)) kz).length + 1 = (stored kvs k (.ref x)).length := h x

theorem cl_l {prog : Program} {w : World} {p : Program} {loose : List Str} {mean : ExcName → Option Value} {mg mb : Str → Option Value}
  {dp un : Nat} {gd : Option (List Code)} {cn : Str} {cs : Scope} {a : Addr} {ccd : Value} {cl : List (Str × Addr)} {outer : List Env} {A₀ : Around} {base h₀ : Heap} {L : Addr} {m : Str → Option Value} {s : Shared} {Q E : Value → Shared → Prop}
  (B : Below A₀ base outer h₀) (F : Fr h₀ L s.heap m) (X : (hd.heap_39 w.params).In h₀) (T : Top p loose mean mg mb h₀) (hk : cs.kind = .function)
  (hdp : dp + 8 < recursionLimit) (hun : un + 60 < cLine)
  {q : Mt} {c dc cd : Addr} {o : Obj} {kvs : List (Int × Value)} {mx : Value} {ac : Int} {tac : Tok} {l : List Nd} {z : Nd} {vn' : Value} (hne : l ≠ [])
  (ND : (c :: dc :: cd :: addrs (l ++ [z])).Nodup) (hd : o.IsDictOf (PySem.intKind prog w) kvs) (lo : (cd == sysModules) = false) (hz : kvs.length ≤ 64) (hle : (kvs.length : Int) = ac + 1)
  (hv : valueAt kvs z.k = some vn') (hlen : (without kvs z.k).length + 1 = kvs.length)
  (N : News h₀ L s.heap (cacheLed c dc cd q o (l ++ [z]) mx (.int ac tac)))
  (ret : ∀ h' tk' o', Kp (c :: dc :: cd :: addrs (l ++ [z])) s.heap h' → o'.IsDictOf (PySem.intKind prog w) (without kvs z.k) → News h₀ L h' (cacheLed c dc cd q o' l mx (.int ac tac)) → Q .none { s with heap := h', toks := tk' }) :
  wpAny (model prog w) (ktrTop dp un gd cn cs L a ccd cl outer) (call (.ref 135) [.ref c]) Q E s := by
  obtain ⟨kz, tz, z, dz, vz, qz⟩ := z
  dsimp only at *
  rcases List.eq_nil_or_concat l with rfl | ⟨mid, b, rfl⟩
  · exact absurd rfl hne
  obtain ⟨kb, tb, b, db, vb, qb⟩ := b
  have hz1 : kvs.length ≤ sizeLine := by rw [sizeLine_eq]; omega
  have hz2 : (without kvs kz).length ≤ sizeLine := by rw [sizeLine_eq]; omega
  have z0 : ∀ y ∈ addrs mid, y ∉ [dc, cd, dz, db] := fun y hy => off_of ND hy (by simp only [List.count_cons, List.count_append, List.count_nil, addrs, addrs_append, List.append_assoc, List.cons_append, List.nil_append, List.concat_eq_append]; omega)
  have zzc : c ∉ [dc, cd, dz, db] := off_of (T := [c]) ND (by simp) (by simp only [List.count_cons, List.count_append, List.count_nil, addrs, addrs_append, List.append_assoc, List.cons_append, List.nil_append, List.concat_eq_append]; omega)
  refine cl_one (q := q) (qn := qz) (qb := qb) (c := c) (dc := dc) (cd := cd) (n := z) (dn := dz) (b := b) (db := db) (mru := hr (mid ++ [⟨kb, tb, b, db, vb, qb⟩])) (mx := mx) (vn := vz) (vb := vb) (vn' := vn') (prb := lr .none mid) (kn := kz) (kb := kb) (ac := ac) (tac := tac) (tn := tz) (tb := tb) B F X T hk hdp hun (nd_of ND (fun x => by simp only [List.count_cons, List.count_append, List.count_nil, addrs, addrs_append, List.append_assoc, List.cons_append, List.nil_append, List.concat_eq_append]; omega)) hd lo hz1 hle hv hlen hz2 (news_sub N ?n1) (fun h' tk' o' K hd' U => ret h' tk' o' (K.mono (by simp [addrs, addrs_append])) hd' (news_upd N K U ?n2))
  case n1 =>
    cases mid <;> (simp only [cacheLed, seg, seg_append, List.append_assoc, List.cons_append, List.nil_append, hdk_nil, hdk_cons, hr_nil, hr_cons, lr, lr_append, hdk_append, List.concat_eq_append]; repeat' (first | exact List.forall_mem_nil _ | (refine List.forall_mem_cons.mpr ⟨?x1, ?_⟩; (case x1 => (simp only [List.mem_cons, List.mem_append, true_or, or_true]; done)))))
  case n2 =>
    cases mid <;> (simp only [cacheLed, seg, seg_append, List.append_assoc, List.cons_append, List.nil_append, hdk_nil, hdk_cons, hr_nil, hr_cons, lr, lr_append, hdk_append, List.concat_eq_append]; (try simp only [addrs, List.mem_cons, forall_eq_or_imp] at z0); repeat' (first
      | exact List.forall_mem_nil _
      | (refine List.forall_mem_cons.mpr ⟨Or.inl ?x1, ?_⟩; (case x1 => (simp only [List.mem_cons, List.mem_append, true_or, or_true]; done)))
      | (refine List.forall_mem_cons.mpr ⟨Or.inr ⟨?x1, ?x2⟩, ?_⟩; (case x1 => (simp only [List.mem_cons, List.mem_append, true_or, or_true]; done)); (case x2 => first | exact zzc | (simp only [List.mem_cons, not_or] at z0 ⊢; exact z0.1) | (simp only [List.mem_cons, not_or] at z0 ⊢; exact z0.2.1)))
      | (refine List.forall_mem_append.mpr ⟨fun y hy => Or.inr ⟨?x1, ?x2⟩, ?_⟩; (case x1 => (simp only [List.mem_cons, List.mem_append, hy, true_or, or_true]; done)); (case x2 => (simp only [List.mem_cons, not_or] at z0 ⊢; exact z0.2.2 _ (seg_mem hy))))))

theorem add_lt {prog : Program} {w : World} {p : Program} {loose : List Str} {mean : ExcName → Option Value} {mg mb : Str → Option Value}
  {dp un : Nat} {gd : Option (List Code)} {cn : Str} {cs : Scope} {a : Addr} {ccd : Value} {cl : List (Str × Addr)} {outer : List Env} {A₀ : Around} {base h₀ : Heap} {L : Addr} {m : Str → Option Value} {s : Shared} {Q E : Value → Shared → Prop}
  (B : Below A₀ base outer h₀) (F : Fr h₀ L s.heap m) (X : (hd.heap_39 w.params).In h₀) (T : Top p loose mean mg mb h₀) (hk : cs.kind = .function)
  (hdp : dp + 20 < recursionLimit) (hun : un + 200 < cLine)
  {q : Mt} {c dc cd : Addr} {o : Obj} {kvs : List (Int × Value)} {v : Value} {mx ac k : Int} {tmx tac tkk : Tok} {l : List Nd}
  (ND : (c :: dc :: cd :: addrs l).Nodup)
  (hd : o.IsDictOf (PySem.intKind prog w) kvs) (lo : (cd == sysModules) = false) (hz : kvs.length ≤ 60) (hv : valueAt kvs k = none) (hlt : (kvs.length : Int) < mx)
  (N : News h₀ L s.heap (cacheLed c dc cd q o l (.int mx tmx) (.int ac tac)))
  (ret : ∀ h' tkk' n o', n.k = k → n.kt = tkk → n.v = v → s.heap.get? n.a = none → s.heap.get? n.d = none → (c :: dc :: cd :: addrs (n :: l)).Nodup → o'.IsDictOf (PySem.intKind prog w) (stored kvs k (.ref n.a)) → Kp (c :: dc :: cd :: addrs l) s.heap h' →
     News h₀ L h' (cacheLed c dc cd q o' (n :: l) (.int mx tmx) (.int ac tac)) → Q .none { s with heap := h', toks := tkk' }) :
  wpAny (model prog w) (ktrTop dp un gd cn cs L a ccd cl outer) (call (.ref 101) [.ref c, .int k tkk, v]) Q E s := by
  have hv' : (valueAt kvs k).isSome = false := by rw [hv]; rfl
  have hsl : ∀ v, (stored kvs k v).length = kvs.length + 1 := fun v => stored_len hv
  have ND0 := ND
  have hS : ∀ p ∈ seg .none .none l, p.1 ∈ addrs l := fun p hp => seg_mem hp
  have hSm : (seg .none .none l).map (·.1) = addrs l := seg_addrs _ _ _
  have z1 : ∀ y ∈ addrs l, y ∉ [c, dc, cd] := fun y hy => off_of ND hy (by simp only [List.count_cons, List.count_append, List.count_nil, addrs, addrs_append, List.append_assoc, List.cons_append, List.nil_append, List.concat_eq_append]; omega)
  have ND3 : [c, dc, cd].Nodup := nd_of ND (fun x => by simp only [List.count_cons, List.count_append, List.count_nil, addrs, addrs_append, List.append_assoc, List.cons_append, List.nil_append, List.concat_eq_append]; omega)
  have hT1 : ∀ p ∈ seg .none .none l, p.1 ≠ c := fun p hp e => z1 _ (hS p hp) (by simp [e])
  have hT2 : ∀ p ∈ seg .none .none l, p.1 ≠ dc := fun p hp e => z1 _ (hS p hp) (by simp [e])
  have hT3 : ∀ p ∈ seg .none .none l, p.1 ≠ cd := fun p hp e => z1 _ (hS p hp) (by simp [e])
  unfold cacheLed at N
  generalize hT : seg .none .none l = T0 at N hS hSm hT1 hT2 hT3
  generalize hmru : hr l = mru at N
  generalize hlru : lr .none l = lru at N
  simp only [List.nodup_cons, List.mem_cons, List.not_mem_nil, or_false, not_or, List.nodup_nil, and_true, not_false_eq_true, not_or] at ND3
  obtain ⟨⟨ne0, ne1⟩, ne2⟩ := ND3
  refine wpAny_call ?_
  k_dflt (refine' enter_def ?k1 ?k2 ?k3 ?k4 ?k5 ?kA ?kF ?kK ?k6 ?k7 ?k8 ?k9 ?kB ?_ ?c2 ?c3 ?c4 ?c5; (case kA => exact rfl); (case kF => exact rfl); (case kK => assumption); (case k1 => k_asm); (case k2 => k_asm); (case k3 => k_asm); (case k4 => k_asm); (case k5 => k_asm); (case k6 => k_is); (case k7 => k_is); (case k8 => ktr_room); (case k9 => first | exact BindsTo.of_eq rfl | exact binds_K (by k_in) rfl (by k_is) rfl rfl rfl); (case c5 => decide); (case kB => exact locs rfl); (case c2 => exact rfl); (case c3 => exact rfl); (case c4 => exact rfl); k_whole; intro g' L' h' FG' F' N' B' X' T' gk' hL'; (try dsimp only); (try k_lift B'); (try k_fold))
  k_steps
  rename _ ∧ _ ∧ _ ∧ AllLt _ _ => ll1
  rename @LT.lt Nat _ _ _ => ll2
  rename News _ _ _ _ => N1
  rename Obj.IsDictOf _ _ (stored _ _ _) => hd1
  rename Fr g' _ _ _ => F1
  have ltA := tb_ltOf ll1.2.2.2
  have ltB : ∀ y ∈ addrs l, y < _ := fun y hy => by
    rw [← hSm] at hy
    obtain ⟨p, hp, e⟩ := List.mem_map.mp hy
    exact e ▸ ltA p hp
  subst hT hmru hlru
  rw [asNode] at N1
  refine Held.in ?_
  refine ra_new (l := l) (n := ⟨k, tkk, _, _, v, _⟩) (q := q) (c := c) (dc := dc) (cd := cd) (kvs := kvs) (by k_asm) (by k_asm) (by k_asm) (by k_asm) rfl ?q1 ?q2 ?q3 N1 ?q4
  case q1 => ktr_room
  case q2 => ktr_units
  case q3 => exact nd_new ND0 ll1.1 ll1.2.1 ll1.2.2.1 ltB ll2
  intro h2 tk2 K2 U2
  have F2 := fr_kp F1 N1 K2 (by simp only [cacheLed, addrs, List.map_cons, List.map_nil, seg_addrs, List.mem_cons]; intro y hy; rcases hy with hy | hy | hy | hy <;> simp [hy])
  have hl1 := stored_lenD hd1 hv
  have ndN := nd_new ND0 ll1.1 ll1.2.1 ll1.2.2.1 ltB ll2
  have gk2 : ∀ b o, b ∉ c :: dc :: cd :: addrs l → s.heap.get? b = some o → g'.get? b = some o := fun b o hb => gk' b o (by simpa [seg_addrs] using hb)
  have fx := fresh_old gk2 N1 (.head _) (nd_notmem ndN).1
  have fd := fresh_old gk2 N1 (.tail _ (.head _)) (nd_notmem ndN).2
  clear N1 F1
  have V2 := U2
  unfold cacheLed at U2
  generalize seg .none .none (_ :: l) = T2 at U2
  generalize hr (_ :: l) = mru2 at U2
  generalize lr .none (_ :: l) = lru2 at U2
  (try dsimp only)
  (try k_fold)
  k_steps
  exact ret _ _ ⟨k, tkk, _, _, v, _⟩ _ rfl rfl rfl fx fd ndN hd1 (kp_end gk2 F2) (news_lower FG' V2)

theorem add_full {prog : Program} {w : World} {p : Program} {loose : List Str} {mean : ExcName → Option Value} {mg mb : Str → Option Value}
  {dp un : Nat} {gd : Option (List Code)} {cn : Str} {cs : Scope} {a : Addr} {ccd : Value} {cl : List (Str × Addr)} {outer : List Env} {A₀ : Around} {base h₀ : Heap} {L : Addr} {m : Str → Option Value} {s : Shared} {Q E : Value → Shared → Prop}
  (B : Below A₀ base outer h₀) (F : Fr h₀ L s.heap m) (X : (hd.heap_39 w.params).In h₀) (T : Top p loose mean mg mb h₀) (hk : cs.kind = .function)
  (hdp : dp + 20 < recursionLimit) (hun : un + 200 < cLine)
  {q : Mt} {c dc cd : Addr} {o : Obj} {kvs : List (Int × Value)} {v : Value} {mx ac k : Int} {tmx tac tkk : Tok} {l : List Nd} {z : Nd}
  (ND : (c :: dc :: cd :: addrs (l ++ [z])).Nodup)
  (hd : o.IsDictOf (PySem.intKind prog w) kvs) (lo : (cd == sysModules) = false) (hz : kvs.length ≤ 60) (hv : valueAt kvs k = none) (hlt : (kvs.length : Int) = mx) (hac : mx = ac) (hvz : ∀ b, valueAt (stored kvs k (.ref b)) z.k = some (.ref z.a)) (hlz : ∀ b, (without (stored kvs k (.ref b)) z.k).length + 1 = (stored kvs k (.ref b)).length)
  (N : News h₀ L s.heap (cacheLed c dc cd q o (l ++ [z]) (.int mx tmx) (.int ac tac)))
  (ret : ∀ h' tkk' n o', n.k = k → n.kt = tkk → n.v = v → s.heap.get? n.a = none → s.heap.get? n.d = none → (c :: dc :: cd :: addrs (n :: l)).Nodup → o'.IsDictOf (PySem.intKind prog w) (without (stored kvs k (.ref n.a)) z.k) → Kp (c :: dc :: cd :: addrs (l ++ [z])) s.heap h' →
     News h₀ L h' (cacheLed c dc cd q o' (n :: l) (.int mx tmx) (.int ac tac)) → Q .none { s with heap := h', toks := tkk' }) :
  wpAny (model prog w) (ktrTop dp un gd cn cs L a ccd cl outer) (call (.ref 101) [.ref c, .int k tkk, v]) Q E s := by
  have hv' : (valueAt kvs k).isSome = false := by rw [hv]; rfl
  have hsl : ∀ v, (stored kvs k v).length = kvs.length + 1 := fun v => stored_len hv
  have ND0 := ND
  have hS : ∀ p ∈ seg .none .none (l ++ [z]), p.1 ∈ addrs (l ++ [z]) := fun p hp => seg_mem hp
  have hSm : (seg .none .none (l ++ [z])).map (·.1) = addrs (l ++ [z]) := seg_addrs _ _ _
  have z1 : ∀ y ∈ addrs (l ++ [z]), y ∉ [c, dc, cd] := fun y hy => off_of ND hy (by simp only [List.count_cons, List.count_append, List.count_nil, addrs, addrs_append, List.append_assoc, List.cons_append, List.nil_append, List.concat_eq_append]; omega)
  have ND3 : [c, dc, cd].Nodup := nd_of ND (fun x => by simp only [List.count_cons, List.count_append, List.count_nil, addrs, addrs_append, List.append_assoc, List.cons_append, List.nil_append, List.concat_eq_append]; omega)
  have hT1 : ∀ p ∈ seg .none .none (l ++ [z]), p.1 ≠ c := fun p hp e => z1 _ (hS p hp) (by simp [e])
  have hT2 : ∀ p ∈ seg .none .none (l ++ [z]), p.1 ≠ dc := fun p hp e => z1 _ (hS p hp) (by simp [e])
  have hT3 : ∀ p ∈ seg .none .none (l ++ [z]), p.1 ≠ cd := fun p hp e => z1 _ (hS p hp) (by simp [e])
  unfold cacheLed at N
  generalize hT : seg .none .none (l ++ [z]) = T0 at N hS hSm hT1 hT2 hT3
  generalize hmru : hr (l ++ [z]) = mru at N
  generalize hlru : lr .none (l ++ [z]) = lru at N
  simp only [List.nodup_cons, List.mem_cons, List.not_mem_nil, or_false, not_or, List.nodup_nil, and_true, not_false_eq_true, not_or] at ND3
  obtain ⟨⟨ne0, ne1⟩, ne2⟩ := ND3
  refine wpAny_call ?_
  k_dflt (refine' enter_def ?k1 ?k2 ?k3 ?k4 ?k5 ?kA ?kF ?kK ?k6 ?k7 ?k8 ?k9 ?kB ?_ ?c2 ?c3 ?c4 ?c5; (case kA => exact rfl); (case kF => exact rfl); (case kK => assumption); (case k1 => k_asm); (case k2 => k_asm); (case k3 => k_asm); (case k4 => k_asm); (case k5 => k_asm); (case k6 => k_is); (case k7 => k_is); (case k8 => ktr_room); (case k9 => first | exact BindsTo.of_eq rfl | exact binds_K (by k_in) rfl (by k_is) rfl rfl rfl); (case c5 => decide); (case kB => exact locs rfl); (case c2 => exact rfl); (case c3 => exact rfl); (case c4 => exact rfl); k_whole; intro g' L' h' FG' F' N' B' X' T' gk' hL'; (try dsimp only); (try k_lift B'); (try k_fold))
  k_steps
  rename _ ∧ _ ∧ _ ∧ AllLt _ _ => ll1
  rename @LT.lt Nat _ _ _ => ll2
  rename News _ _ _ _ => N1
  rename Obj.IsDictOf _ _ (stored _ _ _) => hd1
  rename Fr g' _ _ _ => F1
  have ltA := tb_ltOf ll1.2.2.2
  have ltB : ∀ y ∈ addrs (l ++ [z]), y < _ := fun y hy => by
    rw [← hSm] at hy
    obtain ⟨p, hp, e⟩ := List.mem_map.mp hy
    exact e ▸ ltA p hp
  subst hT hmru hlru
  rw [asNode] at N1
  refine Held.in ?_
  refine ra_new (l := (l ++ [z])) (n := ⟨k, tkk, _, _, v, _⟩) (q := q) (c := c) (dc := dc) (cd := cd) (kvs := kvs) (by k_asm) (by k_asm) (by k_asm) (by k_asm) rfl ?q1 ?q2 ?q3 N1 ?q4
  case q1 => ktr_room
  case q2 => ktr_units
  case q3 => exact nd_new ND0 ll1.1 ll1.2.1 ll1.2.2.1 ltB ll2
  intro h2 tk2 K2 U2
  have F2 := fr_kp F1 N1 K2 (by simp only [cacheLed, addrs, List.map_cons, List.map_nil, seg_addrs, List.mem_cons]; intro y hy; rcases hy with hy | hy | hy | hy <;> simp [hy])
  have hl1 := stored_lenD hd1 hv
  have ndN := nd_new ND0 ll1.1 ll1.2.1 ll1.2.2.1 ltB ll2
  have gk2 : ∀ b o, b ∉ c :: dc :: cd :: addrs (l ++ [z]) → s.heap.get? b = some o → g'.get? b = some o := fun b o hb => gk' b o (by simpa [seg_addrs] using hb)
  have fx := fresh_old gk2 N1 (.head _) (nd_notmem ndN).1
  have fd := fresh_old gk2 N1 (.tail _ (.head _)) (nd_notmem ndN).2
  clear N1 F1
  have V2 := U2
  unfold cacheLed at U2
  generalize seg .none .none (_ :: (l ++ [z])) = T2 at U2
  generalize hr (_ :: (l ++ [z])) = mru2 at U2
  generalize lr .none (_ :: (l ++ [z])) = lru2 at U2
  (try dsimp only)
  (try k_fold)
  k_steps
  have hlz1 := without_lenD hd1 hlz
  have hz8 := Nat.le_trans (Nat.le_of_eq hl1) (show kvs.length + 1 ≤ 64 by omega)
  have hz9 := (congrArg (fun n : Nat => (n : Int)) hl1).trans (show ((kvs.length + 1 : Nat) : Int) = ac + 1 by omega)
  refine Held.in ?_
  refine cl_l (l := ⟨k, tkk, _, _, v, _⟩ :: l) (z := z) (kvs := stored kvs k (.ref _)) (by k_asm) F2 (by k_asm) (by k_asm) rfl ?r1 ?r2 (by simp) ndN hd1 lo hz8 hz9 (hvz _) hlz1 V2 ?r4
  case r1 => ktr_room
  case r2 => ktr_units
  intro h3 tk3 o3 K3 hd3 U3
  have F3 := fr_kp F2 V2 K3 (by simp only [cacheLed, List.map_cons, seg_addrs]; exact fun y hy => hy)
  clear V2 U2 F2
  have V3 := U3
  unfold cacheLed at U3
  generalize seg .none .none (_ :: l) = T3 at U3
  generalize hr (_ :: l) = mru3 at U3
  generalize lr .none (_ :: l) = lru3 at U3
  (try dsimp only)
  (try k_fold)
  k_steps
  exact ret _ _ ⟨k, tkk, _, _, v, _⟩ _ rfl rfl rfl fx fd (nd_of ndN (fun y => by simp only [List.count_cons, List.count_append, List.count_nil, addrs, addrs_append, List.append_assoc, List.cons_append, List.nil_append, List.concat_eq_append]; omega)) hd3 (kp_end gk2 F3) (news_lower FG' V3)
end Mine
end


/-! GT -/
section
open PySem PySem.W PyProof.Rows PySem.Spec PySem.Calls
set_option maxRecDepth 100000
set_option maxHeartbeats 8000000
set_option linter.unusedVariables false
set_option linter.unusedSimpArgs false
namespace Mine
example : (fun (_ : OpenLaw) (_ : Params → Frag) => True) PySem.Challenge.rw_ft5003_01 hd.heap_39 := by k_fill; trivial

local macro_rules | `(tactic| walk_at "getItem ref int") => `(tactic| (k_here; k_dflt (refine getItem_D (by k_asm) (by k_mem) (by k_asm) (by assumption) ?_)))
local macro_rules | `(tactic| k_ne) => `(tactic| (refine neN ?_; (try dsimp only); first | assumption | exact Ne.symm (by assumption)))
local macro_rules | `(tactic| walk_at "subscriptTail") => `(tactic| (k_here; (with_reducible show wpAny _ _ (subscriptTail _ _ (Value.ref _) (Value.int _ _)) _ _ _); k_dflt (refine kda_item (knd := PySem.intKind _ _) (by k_asm) (by k_mem) (by k_asm) (intKind_is _ _ _ _) (by assumption) ?_)))
local macro_rules | `(tactic| walk_at "compareOp Is ref ref") => `(tactic| (k_here; (with_reducible show wpAny _ _ (compareOp CmpOp.Is (Value.ref _) (Value.ref _)) _ _ _); first | refine wpAny_is_ref_self ?_ | k_dflt (refine' kto_is ?a ?b ?n ?c ?_; (case a => kto_obj); (case b => kto_obj); (case n => k_ne); (case c => kto_not); k_whole)))

local macro_rules | `(tactic| k_enter) => `(tactic| (refine' code_def ?k1 ?k2 ?k3 ?k4 ?k5 ?kA ?kF ?kK ?k6 ?k7 ?k8 ?k9 ?kB ?_ ?c2 ?c3 ?c4 ?c5; (case kA => exact rfl); (case kF => exact rfl); (case kK => first | exact rfl | assumption); (case k1 => k_asm); (case k2 => k_asm); (case k3 => k_asm); (case k4 => k_asm); (case k5 => k_asm); (case k6 => k_is); (case k7 => k_is); (case k8 => ktr_room); (case k9 => first | exact BindsTo.of_eq rfl | exact binds_K (by k_in) rfl (by k_is) rfl rfl rfl); (case c5 => decide); (case kB => exact locs rfl); (case c2 => exact rfl); (case c3 => exact rfl); (case c4 => exact rfl); k_whole; intro g' L' h' FG' F' N' B' X' T'; (try dsimp only); (try k_lift B'); (try k_fold)))

local macro_rules | `(tactic| k_all) => `(tactic| first | exact List.forall_mem_nil _ | (refine' List.forall_mem_cons.mpr ⟨?a, ?b⟩; (case a => k_ne); (case b => k_all)) | assumption | exact fun p hp => Nat.ne_of_lt (ktn_ltOf (by assumption) p hp))
local macro_rules | `(tactic| walk_at "getMethod ref") => `(tactic| (k_here; k_dflt (first | refine getMethod_Dget (by k_asm) (by k_mem) (by k_asm) ?_ | refine getMethod_Dpop (by k_asm) (by k_mem) (by k_asm) ?_)))
local macro_rules | `(tactic| walk_at "call builtin:dict.pop") => `(tactic| (k_here; k_dflt (refine' pop_D ?F ?N ?U ?d ?l ?z ?_; (case F => k_asm); (case N => k_asm); (case U => k_updF); (case d => k_asm); (case l => assumption); (case z => first | assumption | (rw [sizeLine_eq]; omega))); intro h' o' F' N' hd'; (try dsimp only at N'); (try k_sweep)))
local macro_rules | `(tactic| walk_at "call builtin:dict.get") => `(tactic| (k_here; k_dflt (first | refine get2_D (by k_asm) (by k_mem) (by k_asm) (by assumption) (by assumption) ?_ | refine get2_D0 (by k_asm) (by k_mem) (by k_asm) (by assumption) (by assumption) ?_)))
local macro_rules | `(tactic| walk_at "call builtin:len") => `(tactic| (k_here; (with_reducible show wpAny _ _ (call (Value.builtin "len") [Value.ref _]) _ _ _); k_dflt (refine kda_len (knd := PySem.intKind _ _) (by k_asm) (by k_mem) (by k_asm) (by assumption) (by omega) ?_)))
local macro_rules | `(tactic| walk_at "compareOp In int ref") => `(tactic| (k_here; k_dflt (refine kda_in (knd := PySem.intKind _ _) (by k_asm) (by k_mem) (by k_asm) (by assumption) (intKind_is _ _ _ _) _ (by assumption) ?_)))
local macro_rules | `(tactic| walk_at "setItem ref int") => `(tactic| (k_here; k_dflt (refine' kda_set (knd := PySem.intKind _ _) ?F ?N ?U ?d (intKind_is _ _ _ _) ?z ?_; (case F => k_asm); (case N => k_asm); (case U => k_updF); (case d => k_asm); (case z => first | assumption | (rw [sizeLine_eq]; omega))); intro h' o' F' N' hd'; (try dsimp only at N'); (try k_sweep)))
local macro_rules | `(tactic| walk_at "WhlIf") => `(tactic| (first | (refine WhlIf.yes (by simp only [decide_eq_true_eq]; omega) ?_) | (refine WhlIf.no (by simp only [decide_eq_false_iff_not]; omega) ?_)))
local macro_rules | `(tactic| k_units) => `(tactic| first | exact Nat.le_of_ble_eq_true rfl | ktr_units)


local macro_rules | `(tactic| k_handed) => `(tactic| assumption)
local macro_rules | `(tactic| walk_at "call ref") => `(tactic| (k_here; (first | (with_reducible show wpAny _ _ (call (Value.ref 149) _ _) _ _ _) | (with_reducible show wpAny _ _ (call (Value.ref 135) _ _) _ _ _)); refine Held.out ?_))

theorem get_miss {prog : Program} {w : World} {p : Program} {loose : List Str} {mean : ExcName → Option Value} {mg mb : Str → Option Value}
  {dp un : Nat} {gd : Option (List Code)} {cn : Str} {cs : Scope} {a : Addr} {ccd : Value} {cl : List (Str × Addr)} {outer : List Env} {A₀ : Around} {base h₀ : Heap} {L : Addr} {m : Str → Option Value} {s : Shared} {Q E : Value → Shared → Prop}
  (B : Below A₀ base outer h₀) (F : Fr h₀ L s.heap m) (X : (hd.heap_39 w.params).In h₀) (T : Top p loose mean mg mb h₀) (hk : cs.kind = .function)
  (hdp : dp + 20 < recursionLimit) (hun : un + 200 < cLine)
  {q : Mt} {c dc cd : Addr} {o : Obj} {kvs : List (Int × Value)} {mru lru mx ac : Value} {k : Int} {tkk : Tok}
  (ND : [c, dc, cd].Nodup) (hd : o.IsDictOf (PySem.intKind prog w) kvs) (lo : (cd == sysModules) = false) (hv : valueAt kvs k = none)
  (N : News h₀ L s.heap [(c, instObj 189 dc), (dc, cacheD q cd mru lru mx ac), (cd, o)])
  (ret : ∀ h' tk', Kp [] s.heap h' → Q .none { s with heap := h', toks := tk' }) :
  wpAny (model prog w) (ktrTop dp un gd cn cs L a ccd cl outer) (call (.ref 116) [.ref c, .int k tkk]) Q E s := by
  simp only [List.nodup_cons, List.mem_cons, List.not_mem_nil, or_false, not_or, List.nodup_nil, and_true, not_false_eq_true, not_or] at ND
  obtain ⟨⟨ne0, ne1⟩, ne2⟩ := ND
  refine wpAny_call ?_
  k_dflt (refine' enter_def ?k1 ?k2 ?k3 ?k4 ?k5 ?kA ?kF ?kK ?k6 ?k7 ?k8 ?k9 ?kB ?_ ?c2 ?c3 ?c4 ?c5; (case kA => exact rfl); (case kF => exact rfl); (case kK => assumption); (case k1 => k_asm); (case k2 => k_asm); (case k3 => k_asm); (case k4 => k_asm); (case k5 => k_asm); (case k6 => k_is); (case k7 => k_is); (case k8 => ktr_room); (case k9 => first | exact BindsTo.of_eq rfl | exact binds_K (by k_in) rfl (by k_is) rfl rfl rfl); (case c5 => decide); (case kB => exact locs rfl); (case c2 => exact rfl); (case c3 => exact rfl); (case c4 => exact rfl); k_whole; intro g' L' h' FG' F' N' B' X' T' gk' hL'; (try dsimp only); (try k_lift B'); (try k_fold))
  k_steps
  all_goals (
    refine (fun z => ret _ _ z.1) (call_fin [] [] N gk' (by k_asm) (by k_asm) ?e3 ?e4)
    (case e3 => (repeat' (first | exact List.forall_mem_nil _ | refine List.forall_mem_cons.mpr ⟨⟨by k_mem, by (dsimp only [List.map_cons, List.map_nil]; k_mem)⟩, ?_⟩)))
    (case e4 => (repeat' (first | exact List.forall_mem_nil _ | refine List.forall_mem_cons.mpr ⟨Or.inr (by k_mem), ?_⟩ | refine List.forall_mem_cons.mpr ⟨Or.inl (by k_mem), ?_⟩))))

theorem get_hit {prog : Program} {w : World} {p : Program} {loose : List Str} {mean : ExcName → Option Value} {mg mb : Str → Option Value}
  {dp un : Nat} {gd : Option (List Code)} {cn : Str} {cs : Scope} {a : Addr} {ccd : Value} {cl : List (Str × Addr)} {outer : List Env} {A₀ : Around} {base h₀ : Heap} {L : Addr} {m : Str → Option Value} {s : Shared} {Q E : Value → Shared → Prop}
  (B : Below A₀ base outer h₀) (F : Fr h₀ L s.heap m) (X : (hd.heap_39 w.params).In h₀) (T : Top p loose mean mg mb h₀) (hk : cs.kind = .function)
  (hdp : dp + 20 < recursionLimit) (hun : un + 200 < cLine)
  {q : Mt} {c dc cd : Addr} {o : Obj} {kvs : List (Int × Value)} {mx ac : Value} {k : Int} {tkk : Tok} {pr po : List Nd} {n : Nd}
  (ND : (c :: dc :: cd :: addrs (pr ++ n :: po)).Nodup) (hd : o.IsDictOf (PySem.intKind prog w) kvs) (lo : (cd == sysModules) = false) (hv : valueAt kvs k = some (.ref n.a)) (hvs : ∀ x ∈ po, valueAt kvs x.k = some (.ref x.a)) (hnv : handedIn n.v = true)
  (N : News h₀ L s.heap (cacheLed c dc cd q o (pr ++ n :: po) mx ac))
  (ret : ∀ h' tk', Kp (c :: dc :: cd :: addrs (pr ++ n :: po)) s.heap h' → News h₀ L h' (cacheLed c dc cd q o (n :: (pr ++ po)) mx ac) → Q n.v { s with heap := h', toks := tk' }) :
  wpAny (model prog w) (ktrTop dp un gd cn cs L a ccd cl outer) (call (.ref 116) [.ref c, .int k tkk]) Q E s := by
  have ND0 := ND
  have NV := N
  unfold cacheLed at N
  generalize hT : seg .none .none (pr ++ n :: po) = T0 at N
  generalize hmru : hr (pr ++ n :: po) = mru at N
  generalize hlru : lr .none (pr ++ n :: po) = lru at N
  refine wpAny_call ?_
  k_dflt (refine' enter_def ?k1 ?k2 ?k3 ?k4 ?k5 ?kA ?kF ?kK ?k6 ?k7 ?k8 ?k9 ?kB ?_ ?c2 ?c3 ?c4 ?c5; (case kA => exact rfl); (case kF => exact rfl); (case kK => assumption); (case k1 => k_asm); (case k2 => k_asm); (case k3 => k_asm); (case k4 => k_asm); (case k5 => k_asm); (case k6 => k_is); (case k7 => k_is); (case k8 => ktr_room); (case k9 => first | exact BindsTo.of_eq rfl | exact binds_K (by k_in) rfl (by k_is) rfl rfl rfl); (case c5 => decide); (case kB => exact locs rfl); (case c2 => exact rfl); (case c3 => exact rfl); (case c4 => exact rfl); k_whole; intro g' L' h' FG' F' N' B' X' T' gk' hL'; (try dsimp only); (try k_lift B'); (try k_fold))
  k_steps
  rename News g' _ _ _ => N1
  rename Fr g' _ _ _ => F1
  subst hT hmru hlru
  have gk2 : ∀ b o, b ∉ c :: dc :: cd :: addrs (pr ++ n :: po) → s.heap.get? b = some o → g'.get? b = some o := fun b o hb => gk' b o (by simpa [seg_addrs] using hb)
  refine Held.in ?_
  refine ra_old (pre := pr) (post := po) (n := n) (q := q) (c := c) (dc := dc) (cd := cd) (kvs := kvs) (by k_asm) (by k_asm) (by k_asm) (by k_asm) rfl ?q1 ?q2 ND0 hd hvs N1 ?q4
  case q1 => ktr_room
  case q2 => ktr_units
  intro h2 tk2 K2 U2
  have F2 := fr_kp F1 N1 K2 (by simp only [cacheLed, List.map_cons, seg_addrs, List.mem_cons]; intro y hy; rcases hy with hy | hy <;> simp [hy])
  clear N1 F1
  have V2 := U2
  simp only [cacheLed, seg] at U2
  generalize seg (.ref n.a) .none (pr ++ po) = T2 at U2
  generalize hr (_ :: (pr ++ po)) = mru2 at U2
  generalize lr .none (_ :: (pr ++ po)) = lru2 at U2
  (try dsimp only)
  (try k_fold)
  k_steps
  exact ret _ _ (kp_end gk2 F2) (news_lower FG' V2)
end Mine
end


/-! LN -/
section
open PySem PySem.W PyProof.Rows PySem.Spec PySem.Calls
set_option maxRecDepth 100000
set_option maxHeartbeats 8000000
set_option linter.unusedVariables false
set_option linter.unusedSimpArgs false
namespace Mine
example : (fun (_ : OpenLaw) (_ : Params → Frag) => True) PySem.Challenge.rw_ft5003_01 hd.heap_39 := by k_fill; trivial


example : True := by
  w_top off
  trivial
theorem law_numbers {prog : Program} {w : World} {p : Program} {loose : List Str} {mean : ExcName → Option Value} {mg mb : Str → Option Value}
  {dp un : Nat} {gd : Option (List Code)} {cn : Str} {cs : Scope} {a : Addr} {ccd : Value} {cl : List (Str × Addr)} {outer : List Env} {A₀ : Around} {base h₀ : Heap} {L : Addr} {m : Str → Option Value} {s : Shared} {Q E : Value → Shared → Prop}
  (B : Below A₀ base outer h₀) (F : Fr h₀ L s.heap m) (X : (hd.heap_39 w.params).In h₀) (T : Top p loose mean mg mb h₀) (hk : cs.kind = .function)
  (hdp : dp + 20 < recursionLimit) (hun : un + 200 < cLine)
  {l : Addr} {vs : List Value} {ns : List Int} {tkk : Tok}
  (hl : base.IsList l vs.toArray) (hi : IntsAre vs ns) (hlen : ns.length ≤ 63) (N : News h₀ L s.heap [])
  (ret : ∀ (h' : Heap) (tk' : Nat) (r : Addr) (vs' : List Value) (ns' : List Int) (n : Nat), Kp [] s.heap h' → News h₀ L h' [(r, listOf vs'.toArray n)] → IntsAre vs' ns' → ns'.length = 13 → s.heap.get? r = none → Q (.ref r) { s with heap := h', toks := tk' }) :
  wpAny (model prog w) (ktrTop dp un gd cn cs L a ccd cl outer) (call (.ref 198) [.ref l, .int 13 tkk]) Q E s := by
  refine wpAny_call ?_
  k_dflt (refine' enter_def ?k1 ?k2 ?k3 ?k4 ?k5 ?kA ?kF ?kK ?k6 ?k7 ?k8 ?k9 ?kB ?_ ?c2 ?c3 ?c4 ?c5; (case kA => exact rfl); (case kF => exact rfl); (case kK => assumption); (case k1 => k_asm); (case k2 => k_asm); (case k3 => k_asm); (case k4 => k_asm); (case k5 => k_asm); (case k6 => k_is); (case k7 => k_is); (case k8 => ktr_room); (case k9 => first | exact BindsTo.of_eq rfl | exact binds_K (by k_in) rfl (by k_is) rfl rfl rfl); (case c5 => decide); (case kB => exact locs rfl); (case c2 => exact rfl); (case c3 => exact rfl); (case c4 => exact rfl); k_whole; intro g' L' h' FG' F' N' B' X' T' gk' hL'; (try dsimp only); (try k_lift B'); (try k_fold))
  k_with "exec While Compare cons nil" => k_while (fun _ (last : Int) (found : List Int) => found.length ≤ 13) (fun _ (last : Int) (found : List Int) => 13 - found.length) "last" "found"
  k_steps
  exact ret _ _ _ _ _ _ (kp_end (S := []) gk' kFr) (news_sub (news_lower FG' kNews) (fun p hp => by rw [List.mem_singleton.mp hp]; exact .head _)) kFacts (by omega) (fresh_old (S := []) gk' kNews (.head _) (by simp))
example : True := by
  w_top on
  trivial
end Mine
end


/-! DI -/
section
open PySem PySem.W PyProof.Rows PySem.Spec PySem.Calls
set_option maxRecDepth 100000
set_option maxHeartbeats 8000000
set_option linter.unusedVariables false
set_option linter.unusedSimpArgs false
namespace Mine

/-! A dict's items and keys, walked over its bare entries: whatever its keys are. -/
section
variable {prog : Program} {w : World} {A : Around} {E : Value → Shared → Prop} {s : Shared} {d it : Addr} {od : Obj} {es : Array DictEntry} {ep i : Nat}

theorem typeIsD (ho : s.heap.get? d = some od) (hc : od.ExactDict) : s.TypeIs (.ref d) "dict" := ⟨od, ho, hc.1⟩

theorem items_call {Q : Value → Shared → Prop} (lo : (d == sysModules) = false) (ho : s.heap.get? d = some od) (hc : od.ExactDict)
    (h : Q (.ref s.heap.objs.size) { s with heap := s.heap.push { cls := .type "dict_items", data := .fields #[.ref d] } }) :
    wpAny (model prog w) A (call (.builtin "dict.items") [.ref d]) Q E s := by
  have hT := typeIsD ho hc
  have body : MeetsIn prog w (Builtin.«dict.items» ⟨[.ref d], []⟩) (fun _ R s => s.TypeIs (.ref d) "dict" ∧ R (.ok (.ret (.ref s.heap.objs.size))) { s with heap := s.heap.push { cls := .type "dict_items", data := .fields #[.ref d] } }) :=
    .of_wp fun A R s ⟨hT, h⟩ => by
      unfold Builtin.«dict.items» Builtin.Dict.noArgs
      refine wpAny_bind (wpAny_bind (wpAny_notOrdered_dict hT ?_))
      show wpAny _ _ (pure d) _ _ s
      refine wpAny_pure ?_
      show wpAny _ _ (Builtin.Dict.showsAll d >>= _) _ _ s
      unfold Builtin.Dict.showsAll
      rw [if_neg (by rw [lo]; exact Bool.false_ne_true)]
      exact wpAny_bind (wpAny_pure (wpAny_bind (wpAny_newObj_type (wpAny_pure ⟨_, rfl, h⟩))))
  exact call_meetsIn PySem.F.slot_dict_items hT PySem.F.entry_dict_items (PySem.F.args_dict_items_1 _) body ⟨hT, h⟩

theorem getMethod_items {pl : Sem Bool} {Q : Value × List Value → Shared → Prop} (ho : s.heap.get? d = some od) (hc : od.ExactDict) (h : Q (.builtin "dict.items", [.ref d]) s) :
    wpAny (model prog w) A (getMethod (.ref d) (Str.ofString "items") pl) Q E s :=
  getMethod_builtin (typeIsD ho hc) PySem.F.plainAttrs_dict PySem.F.slot_dict_items PySem.F.type_dict_items (fun b e => by cases e; exact ⟨od, ho, hc.2.1⟩) h

theorem iter_items {v : Addr} {Q : Value → Shared → Prop} (hv : s.heap.IsItemsView v d) (ho : s.heap.get? d = some od) (hd : od.data = .dict es ep)
    (hQ : Q (.ref s.heap.objs.size) { s with heap := s.heap.push { cls := .type "dict_itemiterator", data := .fields #[.none, .bool false, .ref d, .int 0 0, .int es.size 0, .int ep 0, .none, .none] } }) :
    wpAny (model prog w) A (pyIter (.ref v)) Q E s := by
  obtain ⟨ov, hov, hcv, hdv⟩ := id hv
  refine wpAny_pyIter_slot hv.typeIs PySem.F.slot_dict_items_iter (wpAny_call_entry PySem.F.slot_dict_items_iter hv.typeIs PySem.F.entry_dict_items_iter ?_ (PySem.F.args_dict_items_iter_1 _))
  unfold Builtin.«dict_items.__iter__» Builtin.Dict_items.dictOf Builtin.Dict_items.newIterator
  refine wpAny_bind (wpAny_pure (wpAny_bind (wpAny_bind (wpAny_field hov hdv (x := .ref d) rfl (wpAny_pure (wpAny_bind (wpAny_bind (wpAny_dictEntries ho hd (wpAny_bind (wpAny_dictEpoch ho hd ?_))))))))))
  have hown : Builtin.Dict_items.ownsTuple "dict_itemiterator" = true := by decide
  simp only [hown, if_true]
  refine wpAny_newObj_type (wpAny_pure ⟨_, rfl, "dict_itemiterator", _, ⟨_, Heap.get?_push_size _ rfl, rfl⟩, PySem.F.slot_dict_itemiterator_next.lookup, ?_⟩)
    (by simp only [sizeOk, Builtin.Dict_items.ownedTupleFields, List.size_toArray, List.length_append, List.length_cons, List.length_nil, sizeLine_eq]; omega)
  simpa [rawInt, Builtin.Dict_items.ownedTupleFields] using hQ


/-- the road into an item iterator's step: to where the entries are looked at -/
theorem next_items {ok ov : Value} {Q : Option Value → Shared → Prop} (hit : IsItemIter s.heap it d i es.size ep ok ov) (ho : s.heap.get? d = some od) (hd : od.data = .dict es ep) {e : DictEntry} (hx : es[i]? = some e)
    (hQ : ∀ h', IsItemIterOut h' it d (i + 1) es.size ep e.key e.val s.heap.objs.size → h'.get? s.heap.objs.size = some { cls := .type "tuple", data := .seq #[e.key, e.val] } → h'.objs.size = s.heap.objs.size + 1 →
      (∀ b o, b ≠ it → s.heap.get? b = some o → h'.get? b = some o) → Q (some (.ref s.heap.objs.size)) { s with heap := h' }) :
    wpAny (model prog w) A (pyNext (.ref it)) Q E s := by
  obtain ⟨hp, gg, dr, tk, os⟩ := s
  have hT : Shared.TypeIs ⟨hp, gg, dr, tk, os⟩ (.ref it) "dict_itemiterator" := ⟨_, hit, rfl⟩
  obtain ⟨hlt, rfl⟩ := Array.getElem?_eq_some_iff.mp hx
  have hown : Builtin.Dict_items.ownsTuple "dict_itemiterator" = true := by decide
  unfold pyNext
  refine wpAny_bind (wpAny_attempt (wpAny_callSpecial?_slot (name := Str.ofString "__next__") hT PySem.F.slot_dict_itemiterator_next
    (wpAny_call_entry PySem.F.slot_dict_itemiterator_next hT PySem.F.entry_dict_itemiterator_next ?_ (PySem.F.args_dict_itemiterator_next_1 _))))
  refine wpAny_bind (wpAny_pure (wpAny_bind (wpAny_bind (wpAny_bind (wpAny_typeNameOfWhole_itemiter hT (wpAny_pure ?_))))))
  refine wpAny_bind (wpAny_fieldsOf hit rfl ?_)
  simp only [hown, if_true]
  show wpAny _ _ (if (Value.ref d == Value.none) = true then _ else _) _ _ _
  rw [if_neg (show ¬ ((Value.ref d == Value.none) = true) from Bool.false_ne_true)]
  refine wpAny_bind (wpAny_pure (wpAny_bind (wpAny_dictEntries ho hd ?_)))
  rw [if_neg (by simp)]
  refine wpAny_bind (wpAny_pure (wpAny_bind (wpAny_dictEpoch ho hd ?_)))
  rw [if_neg (by simp)]
  refine wpAny_pure ?_
  simp only [show ¬ ((i : Int) < 0) from by omega, if_false, Int.toNat_natCast, Array.getElem?_eq_getElem hlt]
  refine wpAny_bind (wpAny_bind (wpAny_typeNameOfWhole_itemiter hT (wpAny_pure ?_)))
  refine wpAny_bind (wpAny_isOneOf_itemiter hT ?_)
  show wpAny _ _ (setField (.ref it) 3 (rawInt ((i : Int) + 1)) >>= _) _ _ ⟨hp, gg, dr, tk, os⟩
  refine wpAny_bind (wpAny_setField_rec hit (by simp) fun h₁ he₁ hs₁ => ?_)
  replace hs₁ : Heap.SameBut it hp h₁ := hs₁
  replace he₁ : IsItemIter h₁ it d (i + 1) es.size ep ok ov := by
    unfold IsItemIter; rw [show ((i + 1 : Nat) : Int) = (i : Int) + 1 by omega]; simpa [rawInt] using he₁
  have hT₁ : Shared.TypeIs ⟨h₁, gg, dr, tk, os⟩ (.ref it) "dict_itemiterator" := ⟨_, he₁, rfl⟩
  refine wpAny_bind (wpAny_holding (wpAny_bind (wpAny_isOneOf_itemiter hT₁ (wpAny_bind (wpAny_isOneOf_itemiter hT₁ ?_)))))
  show wpAny _ _ (Builtin.Dict_items.pairFromOwner (.ref it) 6 es[i].key es[i].val) _ _ ⟨h₁, gg, dr, tk, os⟩
  unfold Builtin.Dict_items.pairFromOwner
  refine wpAny_bind (wpAny_newTuple ?_)
  have hz₁ : h₁.objs.size = hp.objs.size := hs₁.1
  have hil : it < hp.objs.size := Heap.lt_size hit
  have hne : hp.objs.size ≠ it := Nat.ne_of_gt hil
  obtain ⟨h₂, hh₂⟩ : ∃ h₂, h₂ = h₁.push { cls := .type "tuple", data := .seq #[es[i].key, es[i].val] } := ⟨_, rfl⟩
  have he₂ : IsItemIter h₂ it d (i + 1) es.size ep ok ov := hh₂ ▸ Heap.get?_push_of_some _ he₁
  have ht₂ : h₂.get? hp.objs.size = some { cls := .type "tuple", data := .seq #[es[i].key, es[i].val] } := by rw [hh₂, ← hz₁]; exact Heap.get?_push_size _ rfl
  have hz₂ : h₂.objs.size = hp.objs.size + 1 := by rw [hh₂, Heap.size_push, hz₁]
  have hk₂ : ∀ b o, b ≠ it → hp.get? b = some o → h₂.get? b = some o := fun b o hb e => by rw [hh₂]; exact Heap.get?_push_of_some _ (hs₁.extBut b o hb e)
  show wpAny _ _ (Builtin.Dict_items.ownedTupleIsFree (.ref it) >>= _) _ _ ⟨h₁.push { cls := .type "tuple", data := .seq #[es[i].key, es[i].val] }, gg, dr, tk, os⟩
  rw [← hh₂, hz₁]
  unfold Builtin.Dict_items.ownedTupleIsFree
  refine wpAny_bind (wpAny_bind (wpAny_field he₂ rfl (x := .none) rfl (wpAny_pure ?_)))
  simp only [if_true]
  refine wpAny_bind (wpAny_field he₂ rfl (x := ok) rfl (wpAny_bind (wpAny_field he₂ rfl (x := ov) rfl ?_)))
  refine wpAny_bind (wpAny_setField_rec he₂ (by simp) fun h₃ he₃ hs₃ => ?_)
  replace hs₃ : Heap.SameBut it h₂ h₃ := hs₃
  replace he₃ : IsItemIter h₃ it d (i + 1) es.size ep es[i].key ov := he₃
  refine wpAny_bind (wpAny_setField_rec he₃ (by simp) fun h₄ he₄ hs₄ => ?_)
  replace hs₄ : Heap.SameBut it h₃ h₄ := hs₄
  replace he₄ : IsItemIter h₄ it d (i + 1) es.size ep es[i].key es[i].val := he₄
  refine wpAny_bind (wpAny_setField_rec he₄ (by simp) fun h₅ he₅ hs₅ => ?_)
  replace hs₅ : Heap.SameBut it h₄ h₅ := hs₅
  replace he₅ : IsItemIterOut h₅ it d (i + 1) es.size ep es[i].key es[i].val hp.objs.size := he₅
  refine wpAny_bind (wpAny_setField_rec he₅ (by simp) fun h₆ he₆ hs₆ => ?_)
  replace hs₆ : Heap.SameBut it h₅ h₆ := hs₆
  replace he₆ : IsItemIterOut h₆ it d (i + 1) es.size ep es[i].key es[i].val hp.objs.size := he₆
  have S : Heap.SameBut it h₂ h₆ := ((hs₃.trans hs₄).trans hs₅).trans hs₆
  exact wpAny_bind (wpAny_letGo (wpAny_pure (wpAny_pure ⟨_, rfl, wpAny_pure (hQ h₆ he₆ ((S.2 _ hne).trans ht₂) (S.1.trans hz₂) fun b o hb e => S.extBut b o hb (hk₂ b o hb e))⟩)))

theorem stop_raised {Q : Option Value → Shared → Prop} (hh : A.handled = none) (hQ : ∀ h', Heap.ExtBut it s.heap h' → Q none { s with heap := h' }) :
    wpAny (model prog w) A.in1 (newExc (.type "StopIteration") [] >>= fun e => (raiseNew e : Sem PySem.Fin)) (fun _ _ => False)
      (fun e s' => wpAny (model prog w) A (do if ← isInstance e (.type "StopIteration") then pure none else throw e) Q E s') s := by
  refine wpAny_bind ?_
  simp only [newExc, newTuple]
  refine wpAny_bind (wpAny_newObj_type ?_ (by size_fits))
  refine wpAny_bind (m := firstArgMember _ _) (wpAny_of_eq (a := Value.none) (by first | rfl | (simp only [firstArgMember]; rfl)) ?_)
  refine wpAny_newObj_type ?_ (by size_fits)
  simp only [raiseNew]
  refine wpAny_bind (wpAny_handled ?_)
  rw [show A.in1.handled = none from hh]
  refine wpAny_bind (wpAny_pure (wpAny_throw ?_))
  refine wpAny_bind (wpAny_isInstance (T := "StopIteration") (b := true) ⟨_, Heap.get?_push_size _ rfl, rfl⟩ isSubtype_stop ?_)
  exact wpAny_pure (hQ _ (((Heap.SameBut.refl _ _).extBut.push _).push _))


theorem next_items_end {ok ov : Value} {Q : Option Value → Shared → Prop} (hh : A.handled = none) (hit : IsItemIter s.heap it d es.size es.size ep ok ov) (ho : s.heap.get? d = some od) (hd : od.data = .dict es ep)
    (hQ : ∀ h', Heap.ExtBut it s.heap h' → Q none { s with heap := h' }) : wpAny (model prog w) A (pyNext (.ref it)) Q E s := by
  have hT : s.TypeIs (.ref it) "dict_itemiterator" := ⟨_, hit, rfl⟩
  have hown : Builtin.Dict_items.ownsTuple "dict_itemiterator" = true := by decide
  unfold pyNext
  refine wpAny_bind (wpAny_attempt (wpAny_callSpecial?_slot (name := Str.ofString "__next__") hT PySem.F.slot_dict_itemiterator_next
    (wpAny_call_entry PySem.F.slot_dict_itemiterator_next hT PySem.F.entry_dict_itemiterator_next ?_ (PySem.F.args_dict_itemiterator_next_1 _))))
  refine wpAny_bind (wpAny_pure (wpAny_bind (wpAny_bind (wpAny_bind (wpAny_typeNameOfWhole_itemiter hT (wpAny_pure ?_))))))
  refine wpAny_bind (wpAny_fieldsOf hit rfl ?_)
  simp only [hown, if_true]
  show wpAny _ _ (if (Value.ref d == Value.none) = true then _ else _) _ _ s
  rw [if_neg (show ¬ ((Value.ref d == Value.none) = true) from Bool.false_ne_true)]
  refine wpAny_bind (wpAny_pure (wpAny_bind (wpAny_dictEntries ho hd ?_)))
  rw [if_neg (by simp)]
  refine wpAny_bind (wpAny_pure (wpAny_bind (wpAny_dictEpoch ho hd ?_)))
  rw [if_neg (by simp)]
  refine wpAny_pure ?_
  simp only [show ¬ ((es.size : Int) < 0) from by omega, if_false, Int.toNat_natCast, Array.getElem?_eq_none (Nat.le_refl es.size)]
  refine wpAny_bind (wpAny_bind (wpAny_typeNameOfWhole_itemiter hT (wpAny_pure ?_)))
  show wpAny _ _ (setField (.ref it) 2 .none >>= _) _ _ s
  refine wpAny_bind (wpAny_setField hit rfl (by simp) ?_)
  exact wpAny_mono (stop_raised (it := it) (E := E) hh fun h' e => hQ h' fun b o hb x => e b o hb ((Heap.SameBut.update ..).extBut b o hb x)) (fun _ _ x => x.elim) fun _ _ x => x

theorem iter_dict {Q : Value → Shared → Prop} (lo : (d == sysModules) = false) (ho : s.heap.get? d = some od) (hc : od.ExactDict) (hd : od.data = .dict es ep)
    (hQ : Q (.ref s.heap.objs.size) { s with heap := s.heap.push { cls := .type "dict_keyiterator", data := .fields #[.ref d, .int 0 0, .int es.size 0, .int ep 0] } }) :
    wpAny (model prog w) A (pyIter (.ref d)) Q E s := by
  have hT := typeIsD ho hc
  refine wpAny_pyIter_slot hT PySem.F.slot_dict_iter (wpAny_call_entry PySem.F.slot_dict_iter hT PySem.F.entry_dict_iter ?_ (PySem.F.args_dict_iter_1 _))
  unfold Builtin.«dict.__iter__» Builtin.Dict.dictSlotNone
  refine wpAny_bind (wpAny_bind (wpAny_notOrdered_dict hT ?_))
  show wpAny _ _ (pure (Value.ref d)) _ _ s
  refine wpAny_pure ?_
  show wpAny _ _ (Builtin.Dict.showsAll d >>= _) _ _ s
  unfold Builtin.Dict.showsAll
  rw [if_neg (by rw [lo]; exact Bool.false_ne_true)]
  refine wpAny_bind (wpAny_pure (wpAny_bind (wpAny_dictEntries ho hd (wpAny_bind (wpAny_dictEpoch ho hd ?_)))))
  exact wpAny_bind (wpAny_newObj_type (wpAny_pure ⟨_, rfl, "dict_keyiterator", _, ⟨_, Heap.get?_push_size _ rfl, rfl⟩, PySem.F.slot_dict_keyiterator_next.lookup, by simpa [rawInt] using hQ⟩))

theorem next_key {Q : Option Value → Shared → Prop} (hit : s.heap.IsKeyIter it d i es.size ep) (ho : s.heap.get? d = some od) (hd : od.data = .dict es ep) {e : DictEntry} (hx : es[i]? = some e)
    (hQ : ∀ h', h'.IsKeyIter it d (i + 1) es.size ep → Heap.SameBut it s.heap h' → Q (some e.key) { s with heap := h' }) :
    wpAny (model prog w) A (pyNext (.ref it)) Q E s := by
  obtain ⟨o, hio, hic, hid⟩ := id hit
  obtain ⟨hlt, rfl⟩ := Array.getElem?_eq_some_iff.mp hx
  have hown : Builtin.Dict_items.ownsTuple "dict_keyiterator" = false := by decide
  unfold pyNext
  refine wpAny_bind (wpAny_attempt (wpAny_callSpecial?_slot (name := Str.ofString "__next__") hit.typeIs PySem.F.slot_dict_keyiterator_next
    (wpAny_call_entry PySem.F.slot_dict_keyiterator_next hit.typeIs PySem.F.entry_dict_keyiterator_next ?_ (PySem.F.args_dict_keyiterator_next_1 _))))
  refine wpAny_bind (wpAny_pure (wpAny_bind (wpAny_bind (wpAny_bind (wpAny_typeNameOfWhole_keyiter hit.typeIs (wpAny_pure ?_))))))
  refine wpAny_bind (wpAny_fieldsOf hio hid ?_)
  simp only [hown, Bool.false_eq_true, if_false]
  show wpAny _ _ (if (Value.ref d == Value.none) = true then _ else _) _ _ s
  rw [if_neg (show ¬ ((Value.ref d == Value.none) = true) from Bool.false_ne_true)]
  refine wpAny_bind (wpAny_pure (wpAny_bind (wpAny_dictEntries ho hd ?_)))
  rw [if_neg (by simp)]
  refine wpAny_bind (wpAny_pure (wpAny_bind (wpAny_dictEpoch ho hd ?_)))
  rw [if_neg (by simp)]
  refine wpAny_pure ?_
  simp only [show ¬ ((i : Int) < 0) from by omega, if_false, Int.toNat_natCast, Array.getElem?_eq_getElem hlt]
  refine wpAny_bind (wpAny_bind (wpAny_typeNameOfWhole_keyiter hit.typeIs (wpAny_pure ?_)))
  refine wpAny_bind (wpAny_isOneOf_keyiter hit.typeIs ?_)
  show wpAny _ _ (setField (.ref it) 1 (rawInt ((i : Int) + 1)) >>= _) _ _ s
  refine wpAny_bind (wpAny_setField hio hid (by simp) ?_)
  have hit' : (s.heap.update it (Obj.mapFields (·.setIfInBounds 1 (rawInt ((i : Int) + 1))))).IsKeyIter it d (i + 1) es.size ep :=
    ⟨_, Heap.get?_update_self _ hio (Obj.isFreed_of_fields (Obj.data_mapFields hid _)), (Obj.cls_mapFields ..).trans hic, by rw [Obj.data_mapFields hid]; simp [rawInt]⟩
  refine wpAny_bind (wpAny_holding (wpAny_bind (wpAny_isOneOf_keyiter (s := { s with heap := s.heap.update it (Obj.mapFields (·.setIfInBounds 1 (rawInt ((i : Int) + 1)))) }) hit'.typeIs ?_)))
  show wpAny _ _ (pure es[i].key) _ _ _
  exact wpAny_pure (wpAny_pure ⟨_, rfl, wpAny_pure (hQ _ hit' (Heap.SameBut.update ..))⟩)

theorem next_key_end {Q : Option Value → Shared → Prop} (hh : A.handled = none) (hit : s.heap.IsKeyIter it d es.size es.size ep) (ho : s.heap.get? d = some od) (hd : od.data = .dict es ep)
    (hQ : ∀ h', Heap.ExtBut it s.heap h' → Q none { s with heap := h' }) : wpAny (model prog w) A (pyNext (.ref it)) Q E s := by
  obtain ⟨o, hio, hic, hid⟩ := id hit
  have hown : Builtin.Dict_items.ownsTuple "dict_keyiterator" = false := by decide
  unfold pyNext
  refine wpAny_bind (wpAny_attempt (wpAny_callSpecial?_slot (name := Str.ofString "__next__") hit.typeIs PySem.F.slot_dict_keyiterator_next
    (wpAny_call_entry PySem.F.slot_dict_keyiterator_next hit.typeIs PySem.F.entry_dict_keyiterator_next ?_ (PySem.F.args_dict_keyiterator_next_1 _))))
  refine wpAny_bind (wpAny_pure (wpAny_bind (wpAny_bind (wpAny_bind (wpAny_typeNameOfWhole_keyiter hit.typeIs (wpAny_pure ?_))))))
  refine wpAny_bind (wpAny_fieldsOf hio hid ?_)
  simp only [hown, Bool.false_eq_true, if_false]
  show wpAny _ _ (if (Value.ref d == Value.none) = true then _ else _) _ _ s
  rw [if_neg (show ¬ ((Value.ref d == Value.none) = true) from Bool.false_ne_true)]
  refine wpAny_bind (wpAny_pure (wpAny_bind (wpAny_dictEntries ho hd ?_)))
  rw [if_neg (by simp)]
  refine wpAny_bind (wpAny_pure (wpAny_bind (wpAny_dictEpoch ho hd ?_)))
  rw [if_neg (by simp)]
  refine wpAny_pure ?_
  simp only [show ¬ ((es.size : Int) < 0) from by omega, if_false, Int.toNat_natCast, Array.getElem?_eq_none (Nat.le_refl es.size)]
  refine wpAny_bind (wpAny_bind (wpAny_typeNameOfWhole_keyiter hit.typeIs (wpAny_pure ?_)))
  show wpAny _ _ (setField (.ref it) 0 .none >>= _) _ _ s
  refine wpAny_bind (wpAny_setField hio hid (by simp) ?_)
  exact wpAny_mono (stop_raised (it := it) (E := E) hh fun h' e => hQ h' fun b o hb x => e b o hb ((Heap.SameBut.update ..).extBut b o hb x)) (fun _ _ x => x.elim) fun _ _ x => x

end
end Mine
end


/-! LP -/
section
open PySem PySem.W PyProof.Rows PySem.Spec PySem.Calls
set_option maxRecDepth 100000
set_option maxHeartbeats 8000000
set_option linter.unusedVariables false
set_option linter.unusedSimpArgs false
namespace Mine

/-- a turn of a loop has ended: the frame, the ledger with the loop's own iterator, and the word for the next turn -/
def TurnEnd (h₀ : Heap) (L : Addr) (Inv : (Str → Option Value) → List (Addr × Obj) → Prop) (I : Addr) (oi : Obj) (s : Shared) (f : Flow) (s₃ : Shared) : Prop :=
  f = .next ∧ ∃ h' tk' m' nx', s₃ = { s with heap := h', toks := tk' } ∧ Fr h₀ L h' m' ∧ News h₀ L h' ((I, oi) :: nx') ∧ (∀ p ∈ nx', p.1 ≠ I) ∧ Inv m' nx'
theorem TurnEnd.intro {h₀ : Heap} {L : Addr} {Inv : (Str → Option Value) → List (Addr × Obj) → Prop} {I : Addr} {oi : Obj} {s : Shared} {h' : Heap} {tk' : Nat} {m' : Str → Option Value} {nx' : List (Addr × Obj)}
    (F : Fr h₀ L h' m') (N : News h₀ L h' ((I, oi) :: nx')) (a : ∀ p ∈ nx', p.1 ≠ I) (j : Inv m' nx') : TurnEnd h₀ L Inv I oi s .next { s with heap := h', toks := tk' } := ⟨rfl, h', tk', m', nx', rfl, F, N, a, j⟩

section
variable {prog : Program} {w : World} {A : Around} {E : Value → Shared → Prop} {s : Shared} {env : Env} {h₀ : Heap} {m₀ : Str → Option Value} {news : List (Addr × Obj)} {R : Result → Shared → Prop} {body : List Stmt}

theorem fresh_base {h : Heap} {L : Addr} {m : Str → Option Value} (F : Fr h₀ L h m) {a : Addr} (ha : h.get? a = none) : h₀.get? a = none := by
  cases q : h₀.get? a with
  | none => rfl
  | some o => rw [F.keep a o q] at ha; cases ha
theorem size_none (h : Heap) : h.get? h.objs.size = none := by
  cases q : h.get? h.objs.size with
  | none => rfl
  | some o => exact absurd (Heap.lt_size q) (Nat.lt_irrefl _)
theorem off_size {L : Addr} {h : Heap} (N : News h₀ L h news) : ∀ p ∈ news, p.1 ≠ h.objs.size := fun p hp e => absurd (Heap.lt_size (N p hp).1) (by rw [e]; exact Nat.lt_irrefl _)

theorem loop_list {target : Expr} {l : Addr} {items : Array Value} (Inv : Nat → (Str → Option Value) → List (Addr × Obj) → Prop)
    (hh : A.handled = none) (F : Fr h₀ env.locals s.heap m₀) (N : News h₀ env.locals s.heap news) (h0 : Inv 0 m₀ news)
    (hl : ∀ i m nx h, Inv i m nx → Fr h₀ env.locals h m → News h₀ env.locals h nx → h.IsList l items)
    (turn : ∀ i v m₁ nx h tk I oi (E : Value → Shared → Prop), items[i]? = some v → Inv i m₁ nx → Fr h₀ env.locals h m₁ → News h₀ env.locals h ((I, oi) :: nx) → (∀ p ∈ nx, p.1 ≠ I) →
      wpAny (model prog w) A (assign target env v) (fun _ s₂ => wpAny (model prog w) A (execs body env) (TurnEnd h₀ env.locals (Inv (i + 1)) I oi { s with heap := h, toks := tk }) E s₂) E { s with heap := h, toks := tk })
    (done : ∀ m₁ nx h tk, Inv items.size m₁ nx → Fr h₀ env.locals h m₁ → News h₀ env.locals h nx → R (.ok .next) { s with heap := h, toks := tk })
    (ht : ∀ it v, letOwnedTupleGo target it v = pure () := by intro _ _; rfl) :
    wpAny (model prog w) A (pyIter (.ref l)) (fun it s₂ => codeAny (model prog w) A (.forLoop target it body [] env) R s₂) E s := by
  refine wpAny_pyIter_list (hl 0 m₀ news _ h0 F N) ?_
  have hI0 : s.heap.objs.size ≠ env.locals := Nat.ne_of_gt F.ns.lt
  have hIn : h₀.get? s.heap.objs.size = none := fresh_base F (size_none _)
  refine codeAny_forLoop (fun k s' => ∃ h' tk' m' nx i, s' = { s with heap := h', toks := tk' } ∧ i ≤ items.size ∧ k = items.size - i ∧ Inv i m' nx ∧ Fr h₀ env.locals h' m' ∧ News h₀ env.locals h' nx ∧ (∀ p ∈ nx, p.1 ≠ s.heap.objs.size) ∧ h'.IsListIter s.heap.objs.size l i) ?_ items.size
    ⟨_, s.toks, m₀, news, 0, rfl, Nat.zero_le _, rfl, h0, F.push _, fun p hp => ⟨Heap.get?_push_of_some _ (N p hp).1, (N p hp).2⟩, off_size N, ⟨_, Heap.get?_push_size _ rfl, rfl, rfl⟩⟩ (ht _)
  rintro k s' ⟨h', tk', m', nx, i, rfl, hi, rfl, hJ, F', N', off, hit⟩
  have hL := hl i m' nx h' hJ F' N'
  have keepF : ∀ h'' : Heap, (∀ b o, b ≠ s.heap.objs.size → h'.get? b = some o → h''.get? b = some o) → Fr h₀ env.locals h'' m' ∧ News h₀ env.locals h'' nx := fun h'' hk =>
    ⟨⟨F'.ns.at' fun o e => hk _ o (Ne.symm hI0) e, fun b o e => hk b o (fun q => by rw [q, hIn] at e; cases e) (F'.keep b o e), F'.above⟩, fun p hp => ⟨hk _ _ (off p hp) (N' p hp).1, (N' p hp).2⟩⟩
  by_cases hlt : i < items.size
  · refine wpAny_pyNext_list_item hit hL (x := items[i]) (by simp [hlt]) fun h'' hit'' hs => ?_
    obtain ⟨F'', N''⟩ := keepF h'' fun b o hb e => hs.extBut b o hb e
    obtain ⟨oi, hoi, hci, hdi⟩ := id hit''
    refine wpAny_mono (turn i items[i] m' nx h'' tk' _ oi _ (by simp [hlt]) hJ F'' (fun p hp => ?_) off) (fun _ s₂ h₂ => wpAny_mono h₂ (fun f s₃ h₃ => ?_) fun _ _ e => e) fun _ _ e => e
    · rcases List.mem_cons.mp hp with rfl | hp
      · exact ⟨hoi, hI0, hIn⟩
      · exact N'' p hp
    · obtain ⟨rfl, h3, tk3, m3, nx3, rfl, F3, N3, off3, J3⟩ := h₃
      exact ⟨_, Nat.sub_lt_sub_left hlt (Nat.lt_succ_self i), h3, tk3, m3, nx3, i + 1, rfl, hlt, rfl, J3, F3, fun p hp => N3 p (.tail _ hp), off3, ⟨oi, (N3 _ (.head _)).1, hci, hdi⟩⟩
  · have hin : i = items.size := by omega
    subst hin
    refine wpAny_pyNext_list_end hh hit hL (by simp) fun h'' hs => wpAny_execs_nil ?_
    obtain ⟨F'', N''⟩ := keepF h'' hs
    exact done m' nx h'' tk' hJ F'' N''

theorem loop_items {xk xv : Str} {pk pv pt : Pos} {x1 : Nat} {v d : Addr} {od : Obj} {es : Array DictEntry} {ep : Nat} (Inv : Nat → (Str → Option Value) → List (Addr × Obj) → Prop)
    (hh : A.handled = none) (hdat : od.data = .dict es ep) (F : Fr h₀ env.locals s.heap m₀) (N : News h₀ env.locals s.heap news) (h0 : Inv 0 m₀ news) (hd : ∀ i m nx, Inv i m nx → (d, od) ∈ nx) (hv : s.heap.IsItemsView v d)
    (turn : ∀ i e m₁ nx h tk I oi (E : Value → Shared → Prop), es[i]? = some e → Inv i m₁ nx → Fr h₀ env.locals h m₁ → News h₀ env.locals h ((I, oi) :: nx) → (∀ p ∈ nx, p.1 ≠ I) →
      wpAny (model prog w) A (assign (.Name xk pk) env e.key) (fun _ s₁ => wpAny (model prog w) A (assign (.Name xv pv) env e.val) (fun _ s₂ => wpAny (model prog w) A (execs body env) (TurnEnd h₀ env.locals (Inv (i + 1)) I oi { s with heap := h, toks := tk }) E s₂) E s₁) E { s with heap := h, toks := tk })
    (done : ∀ m₁ nx h tk, Inv es.size m₁ nx → Fr h₀ env.locals h m₁ → News h₀ env.locals h nx → R (.ok .next) { s with heap := h, toks := tk }) :
    wpAny (model prog w) A (pyIter (.ref v)) (fun it s₂ => codeAny (model prog w) A (.forLoop (.Tuple [.Name xk pk, .Name xv pv] x1 pt) it body [] env) R s₂) E s := by
  have hod : ∀ i m nx h, Inv i m nx → News h₀ env.locals h nx → h.get? d = some od := fun i m nx h j n => (n _ (hd i m nx j)).1
  refine iter_items hv (hod 0 m₀ news _ h0 N) hdat ?_
  have hI0 : s.heap.objs.size ≠ env.locals := Nat.ne_of_gt F.ns.lt
  have hIn : h₀.get? s.heap.objs.size = none := fresh_base F (size_none _)
  refine codeAny_forLoop_any (fun k s' => ∃ h' tk' m' nx i ok ov, s' = { s with heap := h', toks := tk' } ∧ i ≤ es.size ∧ k = es.size - i ∧ Inv i m' nx ∧ Fr h₀ env.locals h' m' ∧ News h₀ env.locals h' nx ∧ (∀ p ∈ nx, p.1 ≠ s.heap.objs.size) ∧ IsItemIter h' s.heap.objs.size d i es.size ep ok ov) ?_ es.size
    ⟨_, s.toks, m₀, news, 0, .none, .none, rfl, Nat.zero_le _, rfl, h0, F.push _, fun p hp => ⟨Heap.get?_push_of_some _ (N p hp).1, (N p hp).2⟩, off_size N, Heap.get?_push_size _ rfl⟩
  rintro k s' ⟨h', tk', m', nx, i, ok, ov, rfl, hi, rfl, hJ, F', N', off, hit⟩
  have hD := hod i m' nx h' hJ N'
  have keepF : ∀ h'' : Heap, (∀ b o, b ≠ s.heap.objs.size → h'.get? b = some o → h''.get? b = some o) → Fr h₀ env.locals h'' m' ∧ News h₀ env.locals h'' nx := fun h'' hk =>
    ⟨⟨F'.ns.at' fun o e => hk _ o (Ne.symm hI0) e, fun b o e => hk b o (fun q => by rw [q, hIn] at e; cases e) (F'.keep b o e), F'.above⟩, fun p hp => ⟨hk _ _ (off p hp) (N' p hp).1, (N' p hp).2⟩⟩
  by_cases hlt : i < es.size
  · refine next_items hit hD hdat (e := es[i]) (by simp [hlt]) fun h₁ heo ht₁ hz₁ hk₁ => ?_
    refine wpAny_letOwnedTupleGo_items heo fun h₂ he₂ hs₂ => ?_
    replace hs₂ : Heap.SameBut s.heap.objs.size h₁ h₂ := hs₂
    have hiH : s.heap.objs.size < h'.objs.size := Heap.lt_size hit
    have ht₂ : h₂.IsTuple h'.objs.size #[es[i].key, es[i].val] := ⟨_, (hs₂.2 _ (Nat.ne_of_gt hiH)).trans ht₁, rfl, _, rfl⟩
    have hz₂ : h₂.objs.size = h'.objs.size + 1 := hs₂.1.trans hz₁
    refine wpAny_assign_Tuple hh ht₂ rfl rfl fun h₃ hx₃ => ?_
    replace hx₃ : Heap.ExtBut h₂.objs.size h₂ h₃ := hx₃
    have old : ∀ b o, b ≠ s.heap.objs.size → h'.get? b = some o → h₃.get? b = some o := fun b o hb e =>
      hx₃ b o (by rw [hz₂]; exact Nat.ne_of_lt (Nat.lt_succ_of_lt (Heap.lt_size e))) (hs₂.extBut b o hb (hk₁ b o hb e))
    have hit₃ : h₃.get? s.heap.objs.size = some { cls := .type "dict_itemiterator", dict := none, data := .fields #[.none, .bool false, .ref d, .int (i + 1 : Nat) 0, .int es.size 0, .int ep 0, es[i].key, es[i].val], slots := #[] } :=
      hx₃ _ _ (by rw [hz₂]; exact Nat.ne_of_lt (Nat.lt_succ_of_lt hiH)) he₂
    obtain ⟨F₃, N₃⟩ := keepF h₃ old
    have T := turn i es[i] m' nx h₃ tk' _ _ (notedBy (model prog w) A env fun e s' => R (.error e) s') (by simp [hlt]) hJ F₃ (fun p hp => by
      rcases List.mem_cons.mp hp with rfl | hp
      · exact ⟨hit₃, hI0, hIn⟩
      · exact N₃ p hp) off
    show wpAny _ _ (do holding [es[i].val] (assign (.Name xk pk) env es[i].key); do holding [] (assign (.Name xv pv) env es[i].val); pure ()) _ _ _
    refine wpAny_bind (wpAny_holding (wpAny_mono T (fun _ s₁ h1 => wpAny_bind (wpAny_holding (wpAny_mono h1 (fun _ s₂ h2 => wpAny_pure (wpAny_mono h2 (fun f s₃ h3 => ?_) fun _ _ e => e)) fun _ _ e => e))) fun _ _ e => e))
    obtain ⟨rfl, h3, tk3, m3, nx3, rfl, F3, N3, off3, J3⟩ := h3
    exact ⟨_, Nat.sub_lt_sub_left hlt (Nat.lt_succ_self i), h3, tk3, m3, nx3, i + 1, _, _, rfl, hlt, rfl, J3, F3, fun p hp => N3 p (.tail _ hp), off3, (N3 _ (.head _)).1⟩
  · have hin : i = es.size := by omega
    subst hin
    refine next_items_end hh hit hD hdat fun h'' hs => wpAny_execs_nil ?_
    obtain ⟨F'', N''⟩ := keepF h'' hs
    exact done m' nx h'' tk' hJ F'' N''
end
end Mine
end


/-! TD -/
section
open PySem PySem.W PyProof.Rows PySem.Spec PySem.Calls
set_option maxRecDepth 100000
set_option maxHeartbeats 8000000
set_option linter.unusedVariables false
set_option linter.unusedSimpArgs false
namespace Mine

/-! ## the plain reckoning of _law_least -/
abbrev SS := List (List Int × Int)
def srt (l : List Int) : List Int := l.mergeSort
def getS (a : SS) (k : List Int) : Option Int := (a.find? fun x => decide (x.1 = k)).map (·.2)
def putS (a : SS) (k : List Int) (v : Int) : SS := if (getS a k).isSome then a.map (fun x => if x.1 = k then (x.1, v) else x) else a ++ [(k, v)]
def relax (much : Int) (a : SS) (ch : List Int) : SS := match getS a ch with
  | none => putS a ch much
  | some v => if v > much then putS a ch much else a
def chs (p : Int) (key : Int) (st : List Int) : List (List Int) :=
  if key ∈ st then [st] else if (st.length : Int) = p then st.map (fun g => srt (st.filter (fun o => decide (o ≠ g)) ++ [key])) else [srt (st ++ [key])]
def cost (key : Int) (st : List Int) (m : Int) : Int := if key ∈ st then m else m + 1
def turn1 (p key : Int) (a : SS) (x : List Int × Int) : SS := (chs p key x.1).foldl (relax (cost key x.1 x.2)) a
def stepS (p key : Int) (states : SS) : SS := states.foldl (turn1 p key) []
def finalS (p : Int) (rs : List Int) : SS := rs.foldl (fun s key => stepS p key s) [([], 0)]

theorem srt_perm (l : List Int) : (srt l).Perm l := List.mergeSort_perm l _
theorem srt_sorted (l : List Int) : (srt l).Pairwise (· ≤ ·) := by
  have := List.pairwise_mergeSort (le := fun a b : Int => decide (a ≤ b)) (fun a b c => by simp; omega) (fun a b => by simp; omega) l
  exact this.imp (by simp)
theorem srt_uniq {a b : List Int} (p : a.Perm b) (o : a.Pairwise (· ≤ ·)) : a = srt b := lks_uniq (p.trans (srt_perm b).symm) o (srt_sorted b)

/-! ## a dict whose keys are tuples of ints, by the ledger -/
section
variable {prog : Program} {w : World} {A : Around} {E : Value → Shared → Prop} {s : Shared} {h₀ h : Heap} {L d a : Addr} {m : Str → Option Value} {news T : List (Addr × Obj)} {g : Obj → List (Addr × Obj)} {o ot : Obj}
  {xs : List (List Int × Addr × Value)} {k : List Int} {v : Value}

abbrev TObj (prog : Program) (w : World) (k : List Int) (o : Obj) : Prop := TupKeyObj (PySem.intKind prog w) k o
def DT (prog : Program) (w : World) (T : List (Addr × Obj)) (o : Obj) (xs : List (List Int × Addr × Value)) : Prop :=
  o.ExactDict ∧ (∃ es ep, o.data = .dict es ep ∧ es.toList = xs.map (entryOfKey (tupleKind (PySem.intKind prog w)))) ∧ (xs.map (·.1)).Nodup ∧ ∀ x ∈ xs, ∃ ot, (x.2.1, ot) ∈ T ∧ TObj prog w x.1 ot

theorem DT.at (D : DT prog w T o xs) (N : News h₀ L h news) (hT : ∀ p ∈ T, p ∈ news) (hm : (d, o) ∈ news) : h.DictOfH (tupleKind (PySem.intKind prog w)) d xs := by
  obtain ⟨hc, ⟨es, ep, hd, he⟩, hn, hk⟩ := D
  exact ⟨o, es, ep, (N _ hm).1, hc, hd, he, fun x hx => let ⟨ot, h1, h2⟩ := hk x hx; h2.key (N _ (hT _ h1)).1, hn⟩
theorem DT.mono {T' : List (Addr × Obj)} (D : DT prog w T o xs) (hs : ∀ p ∈ T, p ∈ T') : DT prog w T' o xs := by
  obtain ⟨hc, he, hn, hk⟩ := D
  exact ⟨hc, he, hn, fun x hx => let ⟨ot, h1, h2⟩ := hk x hx; ⟨ot, hs _ h1, h2⟩⟩

theorem dt_notin0 {Q : Value → Shared → Prop} (hu : A.units + 1 < cLine) (N : News h₀ L s.heap news) (D : DT prog w T o xs) (hT : ∀ p ∈ T, p ∈ news) (hm : (d, o) ∈ news) (lo : (d == sysModules) = false) (ha : (a, ot) ∈ news) (hk : TObj prog w k ot)
    (hv : atKey xs k = none) (hq : Q (.bool true) { s with toks := s.toks + (k.length + 1) }) : wpAny (model prog w) A (compareOp .NotIn (.ref a) (.ref d)) Q E s :=
  wpAny_notIn_heap (knd := tupleKind (PySem.intKind prog w)) hu (hk.key (N _ ha).1) lo (D.at N hT hm) (by rw [hv]; exact hq)
theorem dt_notin1 {Q : Value → Shared → Prop} {p : Addr × Value} (hu : A.units + 1 < cLine) (N : News h₀ L s.heap news) (D : DT prog w T o xs) (hT : ∀ p ∈ T, p ∈ news) (hm : (d, o) ∈ news) (lo : (d == sysModules) = false) (ha : (a, ot) ∈ news) (hk : TObj prog w k ot)
    (hv : atKey xs k = some p) (hq : Q (.bool false) { s with toks := s.toks + (k.length + 1) }) : wpAny (model prog w) A (compareOp .NotIn (.ref a) (.ref d)) Q E s :=
  wpAny_notIn_heap (knd := tupleKind (PySem.intKind prog w)) hu (hk.key (N _ ha).1) lo (D.at N hT hm) (by rw [hv]; exact hq)
theorem dt_item {value slice : Expr} {Q : Value → Shared → Prop} {p : Addr × Value} (hu : A.units + 1 < cLine) (N : News h₀ L s.heap news) (D : DT prog w T o xs) (hT : ∀ p ∈ T, p ∈ news) (hm : (d, o) ∈ news) (ha : (a, ot) ∈ news) (hk : TObj prog w k ot)
    (hv : atKey xs k = some p) (hq : Q p.2 { s with toks := s.toks + (k.length + 1) })
    (hs : subscripted slice false (.ref d) (.ref a) = operate [.ref d, .ref a] (getItem (.ref d) (.ref a)) := by with_unfolding_all rfl) (hg : ∀ r, letTemporaryGo value (.ref d) r = pure () := by intro _; with_unfolding_all rfl) :
    wpAny (model prog w) A (subscriptTail value slice (.ref d) (.ref a)) Q E s :=
  have hD := D.at N hT hm
  subscriptTail_builtin hD.typeIs slot_dict_getitem.lookup (wpAny_getItem_heap (knd := tupleKind (PySem.intKind prog w)) hu (hk.key (N _ ha).1) hD hv hq) hs hg
theorem dt_set {Q : Unit → Shared → Prop} (hu : A.units + 1 < cLine) (F : Fr h₀ L s.heap m) (N : News h₀ L s.heap news) (U : UpdF d o news g) (D : DT prog w T o xs) (hT : ∀ p ∈ T, p ∈ news) (hTd : ∀ p ∈ T, p.1 ≠ d) (ha : (a, ot) ∈ T) (hk : TObj prog w k ot) (hz : xs.length ≤ 10000000)
    (hq : ∀ h' o', Fr h₀ L h' m → News h₀ L h' (g o') → DT prog w T o' (storedH xs k a v) → Q () { s with heap := h', toks := s.toks + (k.length + 1) }) : wpAny (model prog w) A (setItem (.ref d) (.ref a) v) Q E s := by
  obtain ⟨pre, post, rfl, hg, h1, h2⟩ := U.split
  have hm := N (d, o) (List.mem_append_right _ (.head _))
  have hD := D.at N hT (List.mem_append_right _ (.head _))
  refine wpAny_setItem_heap (knd := tupleKind (PySem.intKind prog w)) (hsz := by rw [sizeLine_eq]; omega) hu (hk.key (N _ (hT _ ha)).1) hD fun h' hm' hs => ?_
  obtain ⟨o', es', ep', ho', hc', hd', he', his', hn'⟩ := hm'
  refine hq h' o' (F.change hs hm.2.1 hm.2.2) (hg o' ▸ N.setIn h1 h2 hs ho') ⟨hc', ⟨es', ep', hd', he'⟩, hn', fun x hx => ?_⟩
  rcases mem_storedH hx with ⟨y, hy, e1, e2⟩ | ⟨e1, e2⟩
  · obtain ⟨oky, hmk, t⟩ := D.2.2.2 y hy
    exact ⟨oky, e2 ▸ hmk, e1 ▸ t⟩
  · exact ⟨ot, e2 ▸ ha, e1 ▸ hk⟩
end

inductive VA : List (List Int × Addr × Value) → SS → Prop
  | nil : VA [] []
  | cons {k : List Int} {a : Addr} {i : Int} {t : Tok} {xs : List (List Int × Addr × Value)} {ss : SS} : VA xs ss → VA ((k, a, .int i t) :: xs) ((k, i) :: ss)
theorem VA.none {xs : List (List Int × Addr × Value)} {ss : SS} (h : VA xs ss) {k : List Int} (e : getS ss k = none) : atKey xs k = none := by
  induction h with
  | nil => rfl
  | @cons k' a i t xs ss _ ih =>
    unfold getS at e; unfold atKey
    rw [List.find?_cons] at e ⊢
    by_cases q : k' = k
    · simp [q] at e
    · simp only [q, decide_false] at e ⊢; exact ih e
theorem VA.some {xs : List (List Int × Addr × Value)} {ss : SS} (h : VA xs ss) {k : List Int} {v : Int} (e : getS ss k = some v) : ∃ a t, atKey xs k = some (a, .int v t) := by
  induction h with
  | nil => cases e
  | @cons k' a i t xs ss _ ih =>
    unfold getS at e; unfold atKey
    rw [List.find?_cons] at e ⊢
    by_cases q : k' = k
    · simp only [q, decide_true, Option.map_some, Option.some.injEq] at e ⊢
      exact ⟨a, t, by rw [e]⟩
    · simp only [q, decide_false] at e ⊢; exact ih e
theorem VA.map {xs : List (List Int × Addr × Value)} {ss : SS} (h : VA xs ss) (k : List Int) (v : Int) (t : Tok) : VA (xs.map (putAt k (.int v t))) (ss.map fun x => if x.1 = k then (x.1, v) else x) := by
  induction h with
  | nil => exact .nil
  | @cons k' a i t' xs ss _ ih =>
    simp only [List.map_cons, putAt]
    by_cases q : k' = k
    · simp only [q, if_true]; exact .cons ih
    · simp only [q, if_false]; exact .cons ih
theorem VA.snoc {xs : List (List Int × Addr × Value)} {ss : SS} (h : VA xs ss) (k : List Int) (a : Addr) (v : Int) (t : Tok) : VA (xs ++ [(k, a, .int v t)]) (ss ++ [(k, v)]) := by
  induction h with
  | nil => exact .cons .nil
  | cons _ ih => exact .cons ih
theorem VA.put {xs : List (List Int × Addr × Value)} {ss : SS} (h : VA xs ss) (k : List Int) (a : Addr) (v : Int) (t : Tok) : VA (storedH xs k a (.int v t)) (putS ss k v) := by
  unfold storedH putS
  cases e : getS ss k with
  | none => rw [h.none e]; exact h.snoc k a v t
  | some u => obtain ⟨b, t', e'⟩ := h.some e; rw [e']; exact h.map k v t
theorem VA.length {xs : List (List Int × Addr × Value)} {ss : SS} (h : VA xs ss) : xs.length = ss.length := by
  induction h with
  | nil => rfl
  | cons _ ih => simp [ih]
theorem VA.at {xs : List (List Int × Addr × Value)} {ss : SS} (h : VA xs ss) : ∀ {i : Nat} {x : List Int × Addr × Value}, xs[i]? = Option.some x → ∃ v t, x.2.2 = .int v t ∧ ss[i]? = Option.some (x.1, v) := by
  induction h with
  | nil => intro i x e; simp at e
  | @cons k a v t xs ss _ ih =>
    intro i x e
    cases i with
    | zero => simp only [List.getElem?_cons_zero, Option.some.injEq] at e; subst e; exact ⟨v, t, rfl, rfl⟩
    | succ j => simp only [List.getElem?_cons_succ] at e ⊢; exact ih e

section
variable {prog : Program} {w : World} {A : Around} {E : Value → Shared → Prop} {s : Shared} {h₀ h : Heap} {L d a : Addr} {m : Str → Option Value} {news T : List (Addr × Obj)} {o ot : Obj} {env : Env}
theorem DT.ofEmpty (hd : o.IsDictOf (PySem.intKind prog w) []) : DT prog w T o [] := by
  obtain ⟨es, ep, hc, hdat, hk, hp, hn⟩ := hd
  have e0 : es.toList.length = 0 := hp.length
  exact ⟨hc, ⟨es, ep, hdat, by rw [List.length_eq_zero_iff.mp e0]; rfl⟩, List.nodup_nil, fun x hx => nomatch hx⟩

theorem dict_unit {k0 : Nat} {i : Int} {j : Nat} {p1 p2 p3 : Pos} {Q : Value → Shared → Prop} (hu : A.units < cLine) (F : Fr h₀ L s.heap m) (N : News h₀ L s.heap news) (hbig : sysModules < h₀.objs.size)
    (hq : ∀ h' tk' d od ta ot t, Fr h₀ L h' m → News h₀ L h' ((d, od) :: (ta, ot) :: news) → (∀ p ∈ news, p.1 < d) → d < ta → (d == sysModules) = false → TObj prog w [] ot → DT prog w [(ta, ot)] od [([], ta, .int i t)] → Q (.ref d) { s with heap := h', toks := tk' }) :
    wpAny (model prog w) A (eval (.Dict [some (.Tuple [] k0 p1)] [.Constant (.int i) j p2] p3) env) Q E s := by
  have lo := F.notModules hbig
  refine wpAny_Dict_any rfl rfl (by simp) (by simp) ?_
  have F1 := F.push { cls := .type "dict", data := .dict #[] }
  have N1 := News.push F N { cls := .type "dict", data := .dict #[] }
  have D1 : DT prog w [] ({ cls := .type "dict", data := .dict #[] } : Obj) [] := ⟨⟨rfl, rfl, rfl⟩, ⟨#[], 0, rfl, rfl⟩, List.nodup_nil, fun x hx => nomatch hx⟩
  have hlt : ∀ p ∈ news, p.1 < s.heap.objs.size := fun p hp => Heap.lt_size (N p hp).1
  show wpAny _ _ (do let kv ← eval (.Tuple [] k0 p1) env; let vv ← holding [kv] (do let x ← eval (.Constant (.int i) j p2) env; standAt p3; pure x); return (kv, vv) :: (← holding [kv, vv] (evalPairs []))) _ _ _
  refine wpAny_bind (Tuple_ (Calls.spliced_nil (newTuple_N F1 N1 (fun h2 F2 N2 => ?_) (by simp [sizeLine_eq]))))
  refine wpAny_bind (wpAny_holding (wpAny_bind (wpAny_Constant_int (wpAny_bind (wpAny_standAt (wpAny_pure (wpAny_bind (wpAny_holding (wpAny_pure (wpAny_pure ?_))))))))))
  have hTo : TObj prog w [] ({ cls := .type "tuple", data := .seq ([] : List Value).toArray } : Obj) := TupKeyObj.made .nil
  unfold storeAll
  rw [List.forIn_cons]
  have hne : s.heap.objs.size ≠ (s.heap.push { cls := .type "dict", data := .dict #[] }).objs.size := by rw [Heap.size_push]; omega
  have hm := N2 (s.heap.objs.size, _) (.tail _ (.head _))
  have hD := D1.at N2 (fun p hp => nomatch hp) (.tail _ (.head _))
  refine wpAny_bind (wpAny_bind (wpAny_dictSet_heap (knd := tupleKind (PySem.intKind prog w)) hu (hTo.key (N2 _ (.head _)).1) hD (fun h' hm' hs => wpAny_pure ?_) (by simp)))
  dsimp only
  rw [List.forIn_nil]
  refine wpAny_pure ?_
  obtain ⟨o', es', ep', ho', hc', hd', he', his', hn'⟩ := hm'
  refine hq h' _ s.heap.objs.size o' _ _ _ (F2.change hs hm.2.1 hm.2.2) ?_ hlt (show s.heap.objs.size < (s.heap.push { cls := .type "dict", data := .dict #[] }).objs.size by rw [Heap.size_push]; exact Nat.lt_succ_self _) lo hTo ⟨hc', ⟨es', ep', hd', he'⟩, hn', fun x hx => ?_⟩
  · intro p hp
    rcases List.mem_cons.mp hp with rfl | hp
    · exact ⟨ho', hm.2⟩
    · have hq2 : p ∈ ((s.heap.push { cls := .type "dict", data := .dict #[] }).objs.size, ({ cls := .type "tuple", data := .seq ([] : List Value).toArray } : Obj)) :: (s.heap.objs.size, { cls := .type "dict", data := .dict #[] }) :: news := by
        rcases List.mem_cons.mp hp with rfl | hp
        · exact .head _
        · exact .tail _ (.tail _ hp)
      have hpd : p.1 ≠ s.heap.objs.size := by
        rcases List.mem_cons.mp hp with rfl | hp
        · exact Ne.symm hne
        · exact Nat.ne_of_lt (hlt p hp)
      exact ⟨(hs.2 _ hpd).trans (N2 p hq2).1, (N2 p hq2).2⟩
  · rw [List.mem_singleton.mp hx]
    exact ⟨_, .head _, hTo⟩
end
end Mine
end


/-! TC -/
section
open PySem PySem.W PyProof.Rows PySem.Spec PySem.Calls
set_option maxRecDepth 100000
set_option maxHeartbeats 8000000
set_option linter.unusedVariables false
set_option linter.unusedSimpArgs false
namespace Mine

/-- choices: references to tuples of the ledger, with their keys -/
inductive CA (prog : Program) (w : World) (T : List (Addr × Obj)) : List Value → List (List Int) → Prop
  | nil : CA prog w T [] []
  | cons {a : Addr} {o : Obj} {k : List Int} {zs : List Value} {ks : List (List Int)} : (a, o) ∈ T → TObj prog w k o → CA prog w T zs ks → CA prog w T (.ref a :: zs) (k :: ks)
theorem CA.mono {prog : Program} {w : World} {T T' : List (Addr × Obj)} {zs : List Value} {ks : List (List Int)} (h : CA prog w T zs ks) (s : ∀ p ∈ T, p ∈ T') : CA prog w T' zs ks := by
  induction h with
  | nil => exact .nil
  | cons a b _ ih => exact .cons (s _ a) b ih
theorem CA.snoc {prog : Program} {w : World} {T : List (Addr × Obj)} {zs : List Value} {ks : List (List Int)} {a : Addr} {o : Obj} {k : List Int} (h : CA prog w T zs ks) (ha : (a, o) ∈ T) (ho : TObj prog w k o) : CA prog w T (zs ++ [.ref a]) (ks ++ [k]) := by
  induction h with
  | nil => exact .cons ha ho .nil
  | cons a b _ ih => exact .cons a b ih
theorem CA.length {prog : Program} {w : World} {T : List (Addr × Obj)} {zs : List Value} {ks : List (List Int)} (h : CA prog w T zs ks) : zs.length = ks.length := by
  induction h with
  | nil => rfl
  | cons _ _ _ ih => simp [ih]
theorem CA.at {prog : Program} {w : World} {T : List (Addr × Obj)} {zs : List Value} {ks : List (List Int)} (h : CA prog w T zs ks) : ∀ {i : Nat} {v : Value}, zs[i]? = some v → ∃ a o k, v = .ref a ∧ (a, o) ∈ T ∧ TObj prog w k o ∧ ks[i]? = some k := by
  induction h with
  | nil => intro i v e; simp at e
  | @cons a o k zs ks h1 h2 _ ih =>
    intro i v e
    cases i with
    | zero => simp only [List.getElem?_cons_zero, Option.some.injEq] at e; exact ⟨a, o, k, e.symm, h1, h2, rfl⟩
    | succ j => simp only [List.getElem?_cons_succ] at e ⊢; exact ih e

section
variable {prog : Program} {w : World} {A : Around} {E : Value → Shared → Prop} {s : Shared} {h₀ : Heap} {L : Addr} {m : Str → Option Value} {nx : List (Addr × Obj)} {env : Env}

theorem frn_new {h h' : Heap} {D : Addr} {o : Obj} (F : Fr h₀ L h m) (N : News h₀ L h nx) (k : ∀ b o, h.get? b = some o → h'.get? b = some o) (hn : h.get? D = none) (hD : h'.get? D = some o) :
    Fr h₀ L h' m ∧ News h₀ L h' ((D, o) :: nx) ∧ ∀ p ∈ nx, p.1 ≠ D := by
  have ne : ∀ b o', h.get? b = some o' → b ≠ D := fun b o' e q => by rw [q, hn] at e; cases e
  obtain ⟨oL, _, _, hL, _⟩ := F.ns
  refine ⟨F.keeps k, fun p hp => ?_, fun p hp => ne _ _ (N p hp).1⟩
  rcases List.mem_cons.mp hp with rfl | hp
  · refine ⟨hD, Ne.symm (ne _ _ hL), ?_⟩
    cases q : h₀.get? D with
    | none => rfl
    | some o' => have := F.keep D o' q; rw [hn] at this; cases this
  · exact ⟨k _ _ (N p hp).1, (N p hp).2⟩
theorem news_same {h h' : Heap} {a : Addr} (N : News h₀ L h nx) (hs : Heap.SameBut a h h') (off : ∀ p ∈ nx, p.1 ≠ a) : News h₀ L h' nx := fun p hp => ⟨hs.extBut _ _ (off p hp) (N p hp).1, (N p hp).2⟩

theorem sorted_S {it : Addr} {T : String} {o : Obj} {items : Array Value} {n : Nat} {ns : List Int} {Q : Value → Shared → Prop} (hT : T = "list" ∨ T = "tuple") (ho : s.heap.get? it = some o) (hc : o.cls = .type T)
    (hd : o.data = .seq items n) (hI : IntsAre items.toList ns) (h64 : items.size < 64)
    (h : ∀ D h' vs' c, (∀ b o, s.heap.get? b = some o → h'.get? b = some o) → s.heap.get? D = none → h'.get? D = some (listOf (List.toArray vs') c) → IntsAre vs' (srt ns) → Q (.ref D) { s with heap := h' }) :
    wpAny (model prog w) A (call (.builtin "sorted") [.ref it]) Q E s := by
  refine Calls.call_function_entry kind_sorted plain_sorted entry_sorted (args_sorted1 _) ?_
  unfold Builtin.«sorted»
  refine wpAny_bind (m := checkCount "sorted" 1 1 _) (wpAny_pure ?_)
  refine wpAny_bind (wpAny_collect_seq it hT ho hc hd (fun h1 k1 => ?_) (by rw [sizeLine_eq]; omega))
  refine wpAny_bind (wpAny_newList ?_ (by rw [Array.length_toList, sizeLine_eq]; omega))
  have hoL : (h1.push (seqObj "list" items.toList.toArray 0)).get? h1.objs.size = some (seqObj "list" items.toList.toArray 0) := Heap.get?_push_size _ rfl
  have hnone : s.heap.get? h1.objs.size = none := by
    cases q : s.heap.get? h1.objs.size with
    | none => rfl
    | some o' => exact absurd (Heap.lt_size (k1 _ _ q)) (Nat.lt_irrefl _)
  refine wpAny_bind (wpAny_holding (wpAny_call_entry slot_list_sort ⟨_, hoL, rfl⟩ entry_list_sort (list_sort_tree hoL hI (by rw [Array.length_toList]; exact h64) fun out ns' a1 a2 a3 => ⟨_, rfl, ?_⟩) (args_list_sort _)))
  refine wpAny_pure ⟨_, rfl, ?_⟩
  obtain ⟨e, he⟩ := sortedHeap_at (out := out) hoL
  refine h _ _ out.toList e (fun b o e => ?_) hnone he (srt_uniq a2 a3 ▸ a1)
  have hb := k1 b o e
  have hl : b < h1.objs.size := Heap.lt_size hb
  rw [sortedHeap_old (Nat.ne_of_lt hl) (by rw [size_push']; exact Nat.lt_succ_of_lt hl)]
  exact Heap.get?_push_of_some _ hb

theorem sorted_L {it : Addr} {T : String} {o : Obj} {items : Array Value} {n : Nat} {ns : List Int} {Q : Value → Shared → Prop} (F : Fr h₀ L s.heap m) (N : News h₀ L s.heap nx) (hm : (it, o) ∈ nx) (hT : T = "list" ∨ T = "tuple") (hc : o.cls = .type T)
    (hd : o.data = .seq items n) (hI : IntsAre items.toList ns) (h64 : items.size < 64)
    (h : ∀ D h' vs' c, Fr h₀ L h' m → News h₀ L h' ((D, listOf (List.toArray vs') c) :: nx) → (∀ p ∈ nx, p.1 ≠ D) → IntsAre vs' (srt ns) → Q (.ref D) { s with heap := h' }) :
    wpAny (model prog w) A (call (.builtin "sorted") [.ref it]) Q E s :=
  sorted_S hT (N _ hm).1 hc hd hI h64 fun D h' vs' c k e1 e2 i => let ⟨a, b, d⟩ := frn_new F N k e1 e2; h D h' vs' c a b d i

/-- the frame of a comprehension with cells -/
theorem newFunctionEnv_comp {scope : Scope} {cl : List (Str × Addr)} {Q : Env → Shared → Prop}
    (h : Q { scope := scope, locals := s.heap.objs.size, globals := env.globals, cells := cellsFrom (s.heap.objs.size + 1) scope.names cl, qual := env.qual, func := none, code := env.code, frame := env.frame, builtins := env.builtins }
      { s with heap := pushCells (s.heap.push { cls := .type "dict", data := .dict #[] }) scope.names }) :
    wpAny (model prog w) A (newFunctionEnv scope env.globals cl [] env.qual none .none (some env)) Q E s := by
  simp only [newFunctionEnv, Option.isSome_some, if_true]
  refine wpAny_bind (wpAny_alloc ?_)
  refine wpAny_bind (wpAny_layCells _ (fun name kind cells => by cases hkc : kind == NameKind.cell <;> simp [hkc]) _ _ _ _ ?_)
  rw [show ({ s with heap := s.heap.push { cls := .type "dict", data := .dict #[] } } : Shared).heap.objs.size = s.heap.objs.size + 1 from Heap.size_push ..]
  rw [List.forIn_nil]
  exact wpAny_bind (wpAny_pure (wpAny_pure h))


def EltEnd (prog : Program) (w : World) (h₀ : Heap) (L : Addr) (m : Str → Option Value) (f : List Int → Prop) (R : List (Addr × Obj)) (s : Shared) (y : Value) (s' : Shared) : Prop :=
  ∃ T oT h' tk' k, s' = { s with heap := h', toks := tk' } ∧ y = .ref T ∧ Fr h₀ L h' m ∧ News h₀ L h' ((T, oT) :: R) ∧ (∀ p ∈ R, p.1 ≠ T) ∧ f k ∧ TObj prog w k oT
theorem EltEnd.intro {f : List Int → Prop} {R big : List (Addr × Obj)} {T : Addr} {oT : Obj} {h' : Heap} {tk' : Nat} {k : List Int} (F : Fr h₀ L h' m) (N : News h₀ L h' big) (hs : ∀ p ∈ (T, oT) :: R, p ∈ big) (off : ∀ p ∈ R, p.1 ≠ T) (hf : f k) (hT : TObj prog w k oT) :
    EltEnd prog w h₀ L m f R s (.ref T) { s with heap := h', toks := tk' } := ⟨T, oT, h', tk', k, rfl, rfl, F, fun p hp => N p (hs p hp), off, hf, hT⟩
theorem cell_of {h : Heap} {c : Addr} {v : Option Value} (x : h.IsCell c v) : ∃ o, h.get? c = some o ∧ o.data = .cell v := x

theorem block_cellT {elt iter : Expr} {x : Str} {px : Pos} {scope : Scope} {cl : List (Str × Addr)} {pos : Pos} {RR : Value → Addr → Result → Shared → Prop} {t : Addr} {ot : Obj} {vs : List Value} {n : Nat} (f : Value → List Int → Prop)
    (hh : A.handled = none) (hkind : scope.kind = .function) (hnames : ∀ y ∈ scope.names, y.2 = .local → scope.names.lookup y.1 = some .local)
    (hcf : ∀ n acc, cellsFrom n scope.names acc = (x, n) :: acc) (hpc : ∀ h, pushCells h scope.names = h.push { cls := .type "cell", data := .cell none })
    (hx : (relabel scope env).names.lookup x = some .cell)
    (F : Fr h₀ L s.heap m) (N : News h₀ L s.heap nx) (ht : (t, ot) ∈ nx) (htc : ot.cls = .type "tuple") (htd : ot.data = .seq vs.toArray n) (hsz : vs.length ≤ 1000)
    (helt : ∀ C cg ocg v R h tk (E' : Value → Shared → Prop), v ∈ vs → ocg.data = .cell (some v) → Fr h₀ L h m → News h₀ L h ((cg, ocg) :: R) → (∀ p ∈ nx, p ∈ R) →
      wpAny (model prog w) A (eval elt (compEnvC scope ((x, cg) :: cl) C env)) (EltEnd prog w h₀ L m (f v) ((cg, ocg) :: R) s) E' { s with heap := h, toks := tk })
    (hq : ∀ h' tk D C oC c ts zs ks, Fr h₀ L h' m → News h₀ L h' ((C, oC) :: (D, listOf (List.toArray zs) c) :: (ts ++ nx)) → oC.data = .dict #[] → (∀ p ∈ (D, listOf (List.toArray zs) c) :: (ts ++ nx), p.1 ≠ C) → (∀ p ∈ ts ++ nx, p.1 ≠ D) → (∀ q ∈ ts, ∀ p ∈ nx, p.1 ≠ q.1) → CA prog w ts zs ks → Paired f vs ks → RR (.ref D) C (.ok .next) { s with heap := h', toks := tk }) :
    wpAny (model prog w) A (pyIter (.ref t)) (fun it s₂ => wpAny (model prog w) A (newList []) (fun acc s₃ => wpAny (model prog w) A (newFunctionEnv scope env.globals cl [] env.qual none .none (some env)) (fun cenv s₄ =>
      codeAny (model prog w) A (.compStart (.ListComp elt [⟨.Name x px, iter, [], 0⟩] scope pos) 0 it acc { cenv with scope := relabel scope env }) (RR acc cenv.locals) s₄) E s₃) E s₂) E s := by
  have hT : s.heap.IsTuple t vs.toArray := ⟨ot, (N _ ht).1, htc, n, htd⟩
  refine wpAny_pyIter_tuple hT (wpAny_newList (newFunctionEnv_comp ?_))
  rw [hcf, hpc]
  dsimp only
  have F1 := F.push { cls := .type "tuple_iterator", data := .fields #[.ref t, .int 0 0] }
  have N1 := News.push F N { cls := .type "tuple_iterator", data := .fields #[.ref t, .int 0 0] }
  generalize hH1 : s.heap.push { cls := .type "tuple_iterator", data := .fields #[.ref t, .int 0 0] } = H1 at F1 N1 ⊢
  have F2 := F1.push (listOf ([] : List Value).toArray 0)
  have N2 := News.push F1 N1 (listOf ([] : List Value).toArray 0)
  show codeAny _ _ _ _ { s with heap := ((H1.push (listOf ([] : List Value).toArray 0)).push _).push _, toks := _ }
  generalize hH2 : H1.push (listOf ([] : List Value).toArray 0) = H2 at F2 N2 ⊢
  have F3 := F2.push { cls := .type "dict", data := .dict #[] }
  have N3 := News.push F2 N2 { cls := .type "dict", data := .dict #[] }
  generalize hH3 : H2.push { cls := .type "dict", data := .dict #[] } = H3 at F3 N3 ⊢
  have F4 := F3.push { cls := .type "cell", data := .cell none }
  have N4 := News.push F3 N3 { cls := .type "cell", data := .cell none }
  have z1 : H1.objs.size = s.heap.objs.size + 1 := by rw [← hH1, Heap.size_push]
  have z2 : H2.objs.size = s.heap.objs.size + 1 + 1 := by rw [← hH2, Heap.size_push, z1]
  have z3 : H3.objs.size = s.heap.objs.size + 1 + 1 + 1 := by rw [← hH3, Heap.size_push, z2]
  rw [show H2.objs.size + 1 = H3.objs.size by rw [z3, z2]]
  generalize H3.push { cls := .type "cell", data := .cell none } = H4 at F4 N4 ⊢
  have old : ∀ p ∈ nx, p.1 < s.heap.objs.size := fun p hp => Heap.lt_size (N p hp).1
  generalize hI : s.heap.objs.size = I at *
  generalize hD : H1.objs.size = D at *
  generalize hC : H2.objs.size = C at *
  generalize hg : H3.objs.size = cg at *
  obtain ⟨d1, d2, d3, d4, d5, d6⟩ : (I ≠ D ∧ I ≠ C ∧ I ≠ cg ∧ D ≠ C ∧ D ≠ cg ∧ C ≠ cg) := by
    have a1 : @Eq Nat D (I + 1) := z1
    have a2 : @Eq Nat C (I + 1 + 1) := z2
    have a3 : @Eq Nat cg (I + 1 + 1 + 1) := z3
    refine ⟨?_, ?_, ?_, ?_, ?_, ?_⟩ <;> (intro q; have q' : @Eq Nat _ _ := q; omega)
  have off0 : ∀ p ∈ nx, p.1 ≠ I ∧ p.1 ≠ D ∧ p.1 ≠ C ∧ p.1 ≠ cg := fun p hp => by
    have b : Nat.lt p.1 I := old p hp
    have b' : @LT.lt Nat _ p.1 I := b
    have a1 : @Eq Nat D (I + 1) := z1
    have a2 : @Eq Nat C (I + 1 + 1) := z2
    have a3 : @Eq Nat cg (I + 1 + 1 + 1) := z3
    refine ⟨?_, ?_, ?_, ?_⟩ <;> (intro q; have q' : @Eq Nat _ _ := q; omega)
  have loop : codeAny (model prog w) A (.compLoop (.ListComp elt [⟨.Name x px, iter, [], 0⟩] scope pos) 0 (.ref I) (.ref D) (compEnvC scope ((x, cg) :: cl) C env)) (RR (.ref D) C) { s with heap := H4, toks := s.toks } := by
    refine codeAny_compLoop_tests
      (fun k s' => ∃ h' tk i ys c ks ts ocg oI, s' = { s with heap := h', toks := tk } ∧ i ≤ vs.length ∧ k = vs.length - i ∧ Fr h₀ L h' m ∧
        News h₀ L h' ((cg, ocg) :: (C, { cls := .type "dict", data := .dict #[] }) :: (I, oI) :: (D, listOf (List.toArray ys) c) :: (ts ++ nx)) ∧ (oI.cls = .type "tuple_iterator" ∧ oI.data = .fields #[.ref t, .int i 0]) ∧
        (∃ v, ocg.data = .cell v) ∧ (∀ p ∈ ts, p.1 ≠ I ∧ p.1 ≠ D ∧ p.1 ≠ C ∧ p.1 ≠ cg) ∧ (∀ q ∈ ts, ∀ p ∈ nx, p.1 ≠ q.1) ∧ CA prog w ts ys ks ∧ Paired f (vs.take i) ks ∧ ys.length = i) ?turn vs.length ?start
    case start =>
      refine ⟨H4, s.toks, 0, [], 0, [], [], { cls := .type "cell", data := .cell none }, { cls := .type "tuple_iterator", data := .fields #[.ref t, .int 0 0] }, rfl, Nat.zero_le _, rfl, F4, fun p hp => ?_, ⟨rfl, rfl⟩, ⟨none, rfl⟩, (fun p hp => nomatch hp), (fun q hq => nomatch hq), CA.nil, (by rw [List.take_zero]; exact .nil), rfl⟩
      refine N4 p ?_
      rcases List.mem_cons.mp hp with rfl | hp
      · exact .head _
      · rcases List.mem_cons.mp hp with rfl | hp
        · exact .tail _ (.head _)
        · rcases List.mem_cons.mp hp with rfl | hp
          · exact .tail _ (.tail _ (.tail _ (.head _)))
          · rcases List.mem_cons.mp hp with rfl | hp
            · exact .tail _ (.tail _ (.head _))
            · exact .tail _ (.tail _ (.tail _ (.tail _ hp)))
    rintro k s' ⟨h', tk, i, ys, c, ks, ts, ocg, oI, rfl, hi, rfl, F', N', ⟨hIc, hId⟩, ⟨vc, hvc⟩, offt, offn, hca, hpa, hyl⟩
    have offAll : ∀ p ∈ ts ++ nx, p.1 ≠ I ∧ p.1 ≠ D ∧ p.1 ≠ C ∧ p.1 ≠ cg := fun p hp => by
      rcases List.mem_append.mp hp with hp | hp
      · exact offt p hp
      · exact off0 p hp
    have hit : h'.IsTupleIter I t i := ⟨_, (N' (I, _) (.tail _ (.tail _ (.head _)))).1, hIc, hId⟩
    have hT' : h'.IsTuple t vs.toArray := ⟨ot, (N' (t, ot) (.tail _ (.tail _ (.tail _ (.tail _ (List.mem_append_right _ ht)))))).1, htc, n, htd⟩
    have zI := N' (I, _) (.tail _ (.tail _ (.head _)))
    have zg := N' (cg, _) (.head _)
    have zC := N' (C, _) (.tail _ (.head _))
    have zD := N' (D, _) (.tail _ (.tail _ (.tail _ (.head _))))
    by_cases hlt : i < vs.length
    · refine wpAny_pyNext_tuple_item hit hT' (x := vs[i]) (by simp [hlt]) fun h1 hit1 hs1 => ?_
      obtain ⟨oi1, hoi1, hci1, hdi1⟩ := hit1
      have F1' := F'.change hs1 zI.2.1 zI.2.2
      refine wpAny_assign_Name (wpAny_storeName_cell (c := cg) (v₀ := vc) (by simp [compEnvC, relabel, hkind]) hx (by simp [compEnvC]) ⟨ocg, hs1.extBut _ _ (Ne.symm d3) zg.1, hvc⟩ fun h2 hc2 hs2 => ?_)
      obtain ⟨oc2, hoc2, hdc2⟩ := hc2
      have F2' := F1'.change hs2 zg.2.1 zg.2.2
      refine wpAny_tests_nil ?_
      simp only [if_true]
      have N2' : News h₀ L h2 ((cg, oc2) :: (C, { cls := .type "dict", data := .dict #[] }) :: (I, oi1) :: (D, listOf (List.toArray ys) c) :: (ts ++ nx)) := fun p hp => by
        rcases List.mem_cons.mp hp with rfl | hp
        · exact ⟨hoc2, zg.2⟩
        · rcases List.mem_cons.mp hp with rfl | hp
          · exact ⟨hs2.extBut _ _ d6 (hs1.extBut _ _ (Ne.symm d2) zC.1), zC.2⟩
          · rcases List.mem_cons.mp hp with rfl | hp
            · exact ⟨hs2.extBut _ _ d3 hoi1, zI.2⟩
            · rcases List.mem_cons.mp hp with rfl | hp
              · exact ⟨hs2.extBut _ _ d5 (hs1.extBut _ _ (Ne.symm d1) zD.1), zD.2⟩
              · have z := N' p (.tail _ (.tail _ (.tail _ (.tail _ hp))))
                exact ⟨hs2.extBut _ _ (offAll p hp).2.2.2 (hs1.extBut _ _ (offAll p hp).1 z.1), z.2⟩
      refine wpAny_mono (helt C cg oc2 vs[i] _ h2 tk _ (List.getElem_mem _) hdc2 F2' N2' (fun p hp => .tail _ (.tail _ (.tail _ (List.mem_append_right _ hp))))) (fun y s4 h4 => ?_) fun _ _ e => e
      obtain ⟨T, oT, h4, tk4, k4, rfl, rfl, F4', N4', offT, hfk, hTo⟩ := h4
      simp only [List.forall_mem_cons] at offT
      obtain ⟨o1, o2, o3, o4, o5⟩ := offT
      have yD := N4' (D, _) (.tail _ (.tail _ (.tail _ (.tail _ (.head _)))))
      refine append_at (hsz := by show (List.toArray ys).size ≤ sizeLine; rw [List.size_toArray, sizeLine_eq]; omega) yD.1 fun h5 hs5 hD5 => ?_
      refine ⟨vs.length - (i + 1), by omega, h5, tk4, i + 1, ys ++ [.ref T], c + 1, ks ++ [k4], (T, oT) :: ts, oc2, oi1, rfl, hlt, rfl, F4'.change hs5 yD.2.1 yD.2.2, fun p hp => ?_, ⟨hci1, hdi1⟩, ⟨_, hdc2⟩, fun p hp => ?_, fun q hq => ?_, ?_, ?_, by rw [List.length_append, hyl]; rfl⟩
      · rcases List.mem_cons.mp hp with rfl | hp
        · have z := N4' (cg, oc2) (.tail _ (.head _)); exact ⟨hs5.extBut _ _ (Ne.symm d5) z.1, z.2⟩
        · rcases List.mem_cons.mp hp with rfl | hp
          · have z := N4' (C, _) (.tail _ (.tail _ (.head _))); exact ⟨hs5.extBut _ _ (Ne.symm d4) z.1, z.2⟩
          · rcases List.mem_cons.mp hp with rfl | hp
            · have z := N4' (I, _) (.tail _ (.tail _ (.tail _ (.head _)))); exact ⟨hs5.extBut _ _ d1 z.1, z.2⟩
            · rcases List.mem_cons.mp hp with rfl | hp
              · refine ⟨hD5.trans (congrArg some ?_), yD.2⟩
                show listOf ((List.toArray ys).push (.ref T)) (c + 1) = _
                rw [List.push_toArray]
              · rcases List.mem_cons.mp hp with rfl | hp
                · have z := N4' (T, oT) (.head _); exact ⟨hs5.extBut _ _ (Ne.symm o4) z.1, z.2⟩
                · have z := N4' p (.tail _ (.tail _ (.tail _ (.tail _ (.tail _ hp))))); exact ⟨hs5.extBut _ _ (offAll p hp).2.1 z.1, z.2⟩
      · rcases List.mem_cons.mp hp with rfl | hp
        · exact ⟨Ne.symm o3, Ne.symm o4, Ne.symm o2, Ne.symm o1⟩
        · exact offt p hp
      · rcases List.mem_cons.mp hq with rfl | hq
        · exact fun p hp => o5 p (List.mem_append_right _ hp)
        · exact offn q hq
      · exact (hca.mono fun p hp => .tail _ hp).snoc (.head _) hTo
      · rw [List.take_add_one, List.getElem?_eq_getElem hlt]
        exact hpa.snoc hfk
    · have hin : i = vs.length := by omega
      subst hin
      refine wpAny_pyNext_tuple_end hh hit hT' (by simp) fun h1 hx1 => ?_
      have F1' : Fr h₀ L h1 m := ⟨F'.ns.at' fun o e => hx1 L o (Ne.symm zI.2.1) e, fun b o e => hx1 b o (fun q => by rw [q, zI.2.2] at e; cases e) (F'.keep b o e), F'.above⟩
      have N1' : ∀ p, p ∈ ((cg, ocg) :: (C, ({ cls := .type "dict", data := .dict #[] } : Obj)) :: (D, listOf (List.toArray ys) c) :: (ts ++ nx)) → h1.get? p.1 = some p.2 ∧ p.1 ≠ L ∧ h₀.get? p.1 = none := fun p hp => by
        rcases List.mem_cons.mp hp with rfl | hp
        · exact ⟨hx1 _ _ (Ne.symm d3) zg.1, zg.2⟩
        · rcases List.mem_cons.mp hp with rfl | hp
          · exact ⟨hx1 _ _ (Ne.symm d2) zC.1, zC.2⟩
          · rcases List.mem_cons.mp hp with rfl | hp
            · exact ⟨hx1 _ _ (Ne.symm d1) zD.1, zD.2⟩
            · have z := N' p (.tail _ (.tail _ (.tail _ (.tail _ hp))))
              exact ⟨hx1 _ _ (offAll p hp).1 z.1, z.2⟩
      refine hq h1 _ D C _ c ts ys ks F1' (fun p hp => N1' p (.tail _ hp)) rfl (fun p hp => ?_) (fun p hp => (offAll p hp).2.1) offn hca (by simpa using hpa)
      rcases List.mem_cons.mp hp with rfl | hp
      · exact d4
      · exact (offAll p hp).2.2.1
  exact codeAny_compStart_list loop (wpAny_pyIter_tupleiter (i := 0) (t := t) ⟨_, (N4 (I, _) (.tail _ (.tail _ (.tail _ (.head _))))).1, rfl, rfl⟩ loop)

theorem Assign_ListComp_cellT {elt iter : Expr} {x y : Str} {px py : Pos} {scope : Scope} {cl : List (Str × Addr)} {pos spos : Pos} {Q : Flow → Shared → Prop} {t : Addr} {ot : Obj} {vs : List Value} {n : Nat} (f : Value → List Int → Prop) (hLe : env.locals = L)
    (hsw : swapsWith (.ListComp elt [⟨.Name x px, iter, [], 0⟩] scope pos) (some (.Name y py)) spos.line env = pure true)
    (hh : A.handled = none) (hclos : closureFor scope env = pure cl) (hkind : scope.kind = .function) (hnames : ∀ y ∈ scope.names, y.2 = .local → scope.names.lookup y.1 = some .local)
    (hcf : ∀ n acc, cellsFrom n scope.names acc = (x, n) :: acc) (hpc : ∀ h, pushCells h scope.names = h.push { cls := .type "cell", data := .cell none })
    (hx : (relabel scope env).names.lookup x = some .cell) (hy : env.kindOf y = some .local) (hp : (env.scope.kind == .class || (env.scope.kind == .module && env.locals != env.globals)) = false)
    (F : Fr h₀ L s.heap m) (N : News h₀ L s.heap nx) (ht : (t, ot) ∈ nx) (htc : ot.cls = .type "tuple") (htd : ot.data = .seq vs.toArray n) (hsz : vs.length ≤ 1000)
    (hiter : ∀ Q' : Value → Shared → Prop, Q' (.ref t) s → wpAny (model prog w) A (eval iter env) Q' E s)
    (helt : ∀ C cg ocg v R h tk (E' : Value → Shared → Prop), v ∈ vs → ocg.data = .cell (some v) → Fr h₀ L h m → News h₀ L h ((cg, ocg) :: R) → (∀ p ∈ nx, p ∈ R) →
      wpAny (model prog w) A (eval elt (compEnvC scope ((x, cg) :: cl) C env)) (EltEnd prog w h₀ L m (f v) ((cg, ocg) :: R) s) E' { s with heap := h, toks := tk })
    (hq : ∀ h' tk D c ts zs ks, Fr h₀ L h' (fun z => if z = y then some (.ref D) else m z) → News h₀ L h' ((D, listOf (List.toArray zs) c) :: (ts ++ nx)) → (∀ p ∈ ts ++ nx, p.1 ≠ D) → (∀ q ∈ ts, ∀ p ∈ nx, p.1 ≠ q.1) → CA prog w ts zs ks → Paired f vs ks → Q .next { s with heap := h', toks := tk })
    (hs : ∀ x, foldedSetIterable iter env x = pure x := by intro _; rfl) :
    wpAny (model prog w) A (exec (.Assign [.Name y py] (.ListComp elt [⟨.Name x px, iter, [], 0⟩] scope pos) spos) env) Q E s := by
  subst hLe
  rw [exec_Assign_Name_used _ _ _ _ hsw]
  refine wpAny_bind (wpAny_standAt (wpAny_bind ?_))
  show wpAny _ A (do let _ ← comprehension (.ListComp elt [⟨.Name x px, iter, [], 0⟩] scope pos) scope env _ (newList []) false (eval iter env) (some (assign (.Name y py) env))) _ _ s
  refine wpAny_bind (wpAny_mono (wpAny_comprehension_free (use := some (assign (.Name y py) env)) (Q := fun _ s' => Q .next s') rfl hs hclos hkind hnames (hiter _ ?_)) (fun _ s' hq => wpAny_pure (wpAny_pure hq)) fun _ _ e => e)
  refine block_cellT (RR := fun acc C => compPost (model prog w) A E (some (assign (.Name y py) env)) (fun _ s' => Q .next s') acc C) f hh hkind hnames hcf hpc hx F N ht htc htd hsz helt ?_
  intro h' tk D C oC c ts zs ks F' N' hoC offC offD offn hca hpa
  have zC := N' (C, oC) (.head _)
  show wpAny _ A (assign (.Name y py) env (.ref D)) _ _ _
  have hL₀ : h₀.get? env.locals = none := Heap.get?_none_of_le F'.above
  refine wpAny_assign_Name (wpAny_storeName_local hy F'.ns (fun h₂ hn₂ hs₂ => ?_) hp)
  have F₂ : Fr h₀ env.locals h₂ (fun z => if z = y then some (.ref D) else m z) := ⟨hn₂, fun b o e => hs₂.extBut b o (fun q => by rw [q, hL₀] at e; cases e) (F'.keep b o e), F'.above⟩
  have N₂ := news_same N' hs₂ fun p hp => (N' p hp).2.1
  refine ⟨fun _ => none, ⟨oC, #[], 0, (N₂ (C, oC) (.head _)).1, hoC, (by intro e he; simp at he), fun _ => rfl⟩, fun h'' hs'' => ?_⟩
  exact hq h'' _ D c ts zs ks (F₂.change hs'' zC.2.1 zC.2.2) (news_same (fun p hp => N₂ p (.tail _ hp)) hs'' offC) offD offn hca hpa
end
end Mine
end


/-! TE -/
section
open PySem PySem.W PyProof.Rows PySem.Spec PySem.Calls
set_option maxRecDepth 100000
set_option maxHeartbeats 8000000
set_option linter.unusedVariables false
set_option linter.unusedSimpArgs false
namespace Mine
section
variable {prog : Program} {w : World} {A : Around} {E : Value → Shared → Prop} {s : Shared} {h₀ : Heap} {L : Addr} {m : Str → Option Value} {nx : List (Addr × Obj)} {env : Env}

theorem ints_items : ∀ {k : List Int} {vs : List Value}, ItemsAre (PySem.intKind prog w) k vs → IntsAre vs k
  | _, _, .nil => .nil
  | _, _, .cons h t => by obtain ⟨u, rfl⟩ := Value.isInt_shape h; exact .cons _ u (ints_items t)
theorem items_ints : ∀ {k : List Int} {vs : List Value}, IntsAre vs k → ItemsAre (PySem.intKind prog w) k vs
  | _, _, .nil => .nil
  | _, _, .cons n t r => .cons (intKind_is _ _ n t) (items_ints r)
theorem TObj.split {k : List Int} {o : Obj} (h : TObj prog w k o) : ∃ vs n, o.cls = .type "tuple" ∧ o.data = .seq (List.toArray vs) n ∧ IntsAre vs k := by
  obtain ⟨hc, items, n, hd, hi⟩ := h
  exact ⟨items.toList, n, hc, by rw [Array.toArray_toList]; exact hd, ints_items hi⟩
theorem TObj.mk {vs : List Value} {k : List Int} (hi : IntsAre vs k) : TObj prog w k ({ cls := .type "tuple", data := .seq vs.toArray } : Obj) := TupKeyObj.made (items_ints hi)
theorem TObj.uniq {k k' : List Int} {o : Obj} (h : TObj prog w k o) (h' : TObj prog w k' o) : k = k' := by
  obtain ⟨vs, n, _, hd, hi⟩ := h.split
  obtain ⟨vs', n', _, hd', hi'⟩ := h'.split
  have e : vs = vs' := by
    have := hd.symm.trans hd'
    injection this with a b
    exact congrArg Array.toList a
  subst e
  rw [← IntsAre.nums hi, ← IntsAre.nums hi']

theorem atKey_mem {xs : List (List Int × Addr × Value)} (hn : (xs.map (·.1)).Nodup) {x : List Int × Addr × Value} (hx : x ∈ xs) : atKey xs x.1 = some x.2 := by
  induction xs with
  | nil => cases hx
  | cons y r ih =>
    unfold atKey
    rw [List.map_cons, List.nodup_cons] at hn
    rw [List.find?_cons]
    rcases List.mem_cons.mp hx with rfl | hx'
    · simp
    · have : ¬ y.1 = x.1 := fun q => hn.1 (q ▸ List.mem_map_of_mem hx')
      simp only [this, decide_false]
      exact ih hn.2 hx'

theorem walks_keys (hh : A.handled = none) (I d : Addr) (hne : d ≠ I) {od : Obj} {es : Array DictEntry} {ep : Nat} (hdat : od.data = .dict es ep) :
    Walks prog w A I [I, d] [I] es.size (fun i v => ∃ e, es[i]? = some e ∧ v = e.key) (fun i h => h.IsKeyIter I d i es.size ep ∧ h.get? d = some od) where
  sub := fun b hb => by simp at hb; simp [hb]
  frame := fun _ _ _ st hk => ⟨st.1.at fun o e => hk I (by simp) o e, hk d (by simp) _ st.2⟩
  item := fun i s Q E hi st hQ => by
    refine next_key st.1 st.2 hdat (e := es[i]) (by simp [hi]) fun h' hit' hs' => ?_
    exact hQ _ h' s.toks ⟨es[i], by simp [hi], rfl⟩ ⟨hit', hs'.extBut _ _ hne st.2⟩ fun b o hb e => hs'.extBut b o (fun h => hb (by simp [h])) e
  done := fun s Q E st hQ => next_key_end hh st.1 st.2 hdat fun h' he' => hQ h' s.toks fun b o hb e => he' b o (fun h => hb (by simp [h])) e
  self := fun _ _ _ _ st hQ => wpAny_pyIter_keyiter st.1 hQ

theorem pair_filter {p : Value → Bool} {P : Int → Bool} (hp : ∀ n t, p (.int n t) = P n) : ∀ {vs : List Value} {ns : List Int} {ys : List Value}, IntsAre vs ns → Paired (fun v y => y = v) (vs.filter p) ys → IntsAre ys (ns.filter P)
  | _, _, ys, .nil, h => by cases h; exact .nil
  | _, _, ys, .cons (vs := vs) (ns := ns) n t r, h => by
    simp only [List.filter_cons, hp n t] at h ⊢
    cases q : P n with
    | false => simp only [q, Bool.false_eq_true, if_false] at h ⊢; exact pair_filter hp r h
    | true =>
      simp only [q, if_true] at h ⊢
      cases h with
      | cons a b => subst a; exact .cons n t (pair_filter hp r b)

def numIs (g : Int) : Value → Bool
  | .int n _ => decide (n ≠ g)
  | _ => false

theorem ListComp_other {iter : Expr} {x gone : Str} {p0 p1 p2 p3 px : Pos} {scope : Scope} {cl : List (Str × Addr)} {pos : Pos} {Q : Value → Shared → Prop} {cg t : Addr} {ocg ot : Obj} {g : Int} {tg : Tok} {vs : List Value} {n : Nat} {ns : List Int}
    (hh : A.handled = none) (hclos : closureFor scope env = pure cl) (hcell : ∀ y ∈ scope.names, y.2 ≠ .cell) (hkind : scope.kind = .function) (hnames : ∀ y ∈ scope.names, y.2 = .local → scope.names.lookup y.1 = some .local)
    (hx : scope.names.lookup x = some .local) (hgk : (relabel scope env).names.lookup gone = some .cell) (hgc : cl.lookup gone = some cg) (hxd : (x == ("__debug__" : Str)) = false) (hgd' : (gone == ("__debug__" : Str)) = false)
    (F : Fr h₀ L s.heap m) (N : News h₀ L s.heap nx) (ht : (t, ot) ∈ nx) (htc : ot.cls = .type "tuple") (htd : ot.data = .seq vs.toArray n) (hI : IntsAre vs ns) (hsz : vs.length ≤ 1000) (hg : (cg, ocg) ∈ nx) (hgd : ocg.data = .cell (some (.int g tg)))
    (hiter : ∀ Q' : Value → Shared → Prop, Q' (.ref t) s → wpAny (model prog w) A (eval iter env) Q' E s)
    (hq : ∀ h' tk D c zs, Fr h₀ L h' m → News h₀ L h' ((D, listOf (List.toArray zs) c) :: nx) → (∀ p ∈ nx, p.1 ≠ D) → IntsAre zs (ns.filter fun o => decide (o ≠ g)) → Q (.ref D) { s with heap := h', toks := tk })
    (hs : ∀ x, foldedSetIterable iter env x = pure x := by intro _; rfl) :
    wpAny (model prog w) A (eval (.ListComp (.Name x p0) [⟨.Name x px, iter, [.Compare (.Name x p1) [.NotEq] [.Name gone p2] p3], 0⟩] scope pos) env) Q E s := by
  have hT : s.heap.IsTuple t vs.toArray := ⟨ot, (N _ ht).1, htc, n, htd⟩
  have hlt : t < s.heap.objs.size := Heap.lt_size (N _ ht).1
  have hxk : (relabel scope env).names.lookup x = some .local := lookup_relabel_local hx
  refine wpAny_ListComp_free (numIs g) (fun v y => y = v) hclos hcell hkind hnames hx (hiter _ ?_) hs
  refine wpAny_pyIter_tuple hT ?_
  have up : ∀ b o, s.heap.get? b = some o → (s.heap.push { cls := .type "tuple_iterator", data := .fields #[.ref t, .int 0 0] }).get? b = some o := fun b o e => Heap.get?_push_of_some _ e
  have nI : ∀ b o, s.heap.get? b = some o → b ∉ [s.heap.objs.size] := fun b o e q => absurd (Heap.lt_size e) (by rw [List.mem_singleton.mp q]; exact Nat.lt_irrefl _)
  refine ⟨_, [s.heap.objs.size, t], [s.heap.objs.size], _, _, _, rfl, Walks.tuple hh s.heap.objs.size t (Nat.ne_of_lt hlt) vs.toArray, by rw [List.size_toArray, sizeLine_eq]; omega, ⟨⟨_, Heap.get?_push_size _ rfl, rfl, rfl⟩, ⟨ot, up _ _ (N _ ht).1, htc, n, htd⟩⟩, fun b hb => ?_, ⟨?_, ?_⟩, ?_⟩
  · show b < (s.heap.push _).objs.size
    rw [Heap.size_push]
    rcases List.mem_cons.mp hb with rfl | hb
    · exact Nat.lt_succ_self _
    · rw [List.mem_singleton.mp hb]; exact Nat.lt_succ_of_lt hlt
  · intro C i v s₃ m₃ E' hC hP hns hm hk _
    obtain ⟨nn, tt, rfl, _⟩ := IntsAre.at hI i v (by simpa using hP)
    refine wpAny_tests_one (wpAny_isTrue_Compare1 (wpAny_Name (wpAny_loadName_local hkind hxk hns hm (wpAny_Name (wpAny_loadName_cell hkind hgk hgc ⟨ocg, hk _ _ (nI _ _ (N _ hg).1) (up _ _ (N _ hg).1), hgd⟩ (ne_int (wpAny_truthy_bool ⟨?_, ?_⟩))) hgd')) hxd))
    · show (nn != g) = decide (nn ≠ g)
      by_cases q : nn = g <;> simp [q]
    · exact ⟨_, _, rfl, fun _ _ e => e⟩
  · intro C i v s₃ m₃ E' hC hP hpv hns hm hk _
    exact wpAny_Name (wpAny_loadName_local hkind hxk hns hm ⟨rfl, ⟨_, _, rfl, fun _ _ e => e⟩⟩) hxd
  · intro D h' tk ys vs' hD _ hpl hlen hP hF hk
    obtain ⟨c, hD'⟩ := hpl
    have evs : vs' = vs := by
      refine List.ext_getElem? fun j => ?_
      rw [List.size_toArray] at hlen
      rcases Nat.lt_or_ge j vs'.length with q | q
      · have := hP j vs'[j] (by simp [q])
        rw [List.getElem?_eq_getElem q, ← this]; simp
      · rw [List.getElem?_eq_none q, List.getElem?_eq_none (by omega)]
    subst evs
    have k' : ∀ b o, s.heap.get? b = some o → h'.get? b = some o := fun b o e => hk b o (nI _ _ e) (up _ _ e)
    have hD0 : s.heap.get? D = none := by
      cases q : s.heap.get? D with
      | none => rfl
      | some o => rw [up _ _ q] at hD; cases hD
    obtain ⟨F', N', off⟩ := frn_new (o := listOf (List.toArray ys.toList) c) F N k' hD0 (by rw [Array.toArray_toList]; exact hD')
    exact hq h' tk D c ys.toList F' N' off (pair_filter (p := numIs g) (P := fun o => decide (o ≠ g)) (fun _ _ => rfl) hI hF)

theorem pair_vals {xs : List (List Int × Addr × Value)} {ss : SS} (hV : VA xs ss) : ∀ {vs ys : List Value}, Paired (fun v y => ∃ x ∈ xs, v = .ref x.2.1 ∧ y = x.2.2 ∧ ∀ x' ∈ xs, v = .ref x'.2.1 → y = x'.2.2) vs ys →
    ∃ ns, IntsAre ys ns ∧ (∀ a ∈ ns, a ∈ ss.map (·.2)) ∧ (∀ x' ∈ xs, Value.ref x'.2.1 ∈ vs → ∀ v t, x'.2.2 = .int v t → v ∈ ns) := by
  have at' : ∀ x ∈ xs, ∃ v t, x.2.2 = .int v t ∧ (x.1, v) ∈ ss := fun x hx => by
    obtain ⟨i, hi⟩ := List.getElem?_of_mem hx
    obtain ⟨v, t, e, e2⟩ := hV.at hi
    exact ⟨v, t, e, List.mem_of_getElem? e2⟩
  intro vs ys h
  induction h with
  | nil => exact ⟨[], .nil, (fun a h => by cases h), (fun _ _ h => by cases h)⟩
  | @cons v y vs ys h1 _ ih =>
    obtain ⟨ns, i1, i2, i3⟩ := ih
    obtain ⟨x, hx, rfl, rfl, hu⟩ := h1
    obtain ⟨n, t, e, hm⟩ := at' x hx
    refine ⟨n :: ns, e ▸ .cons n t i1, fun a ha => ?_, fun x' hx' hv' v' t' e' => ?_⟩
    · rcases List.mem_cons.mp ha with rfl | ha
      · exact List.mem_map_of_mem (f := (·.2)) hm
      · exact i2 a ha
    · rcases List.mem_cons.mp hv' with q | q
      · have := hu x' hx' q.symm
        rw [e, e'] at this
        injection this with a b
        exact a ▸ .head _
      · exact .tail _ (i3 x' hx' q v' t' e')

theorem ListComp_states {states x : Str} {q1 q2 q3 q4 px : Pos} {scope : Scope} {cl : List (Str × Addr)} {pos : Pos} {Q : Value → Shared → Prop} {cg d : Addr} {ocg od : Obj} {xs : List (List Int × Addr × Value)} {ss : SS} {T : List (Addr × Obj)}
    (hh : A.handled = none) (hu : A.units + 1 < cLine) (hclos : closureFor scope env = pure cl) (hcell : ∀ y ∈ scope.names, y.2 ≠ .cell) (hkind : scope.kind = .function) (hnames : ∀ y ∈ scope.names, y.2 = .local → scope.names.lookup y.1 = some .local)
    (hx : scope.names.lookup x = some .local) (hgk : (relabel scope env).names.lookup states = some .cell) (hgc : cl.lookup states = some cg) (hxd : (x == ("__debug__" : Str)) = false) (hgd' : (states == ("__debug__" : Str)) = false)
    (F : Fr h₀ L s.heap m) (N : News h₀ L s.heap nx) (hd : (d, od) ∈ nx) (lo : (d == sysModules) = false) (hD : DT prog w T od xs) (hV : VA xs ss) (hT : ∀ p ∈ T, p ∈ nx) (hsz : xs.length ≤ 10000000) (hg : (cg, ocg) ∈ nx) (hgd : ocg.data = .cell (some (.ref d)))
    (hiter : ∀ Q' : Value → Shared → Prop, Q' (.ref d) s → wpAny (model prog w) A (eval (.Name states q3) env) Q' E s)
    (hq : ∀ h' tk D c zs ns, Fr h₀ L h' m → News h₀ L h' ((D, listOf (List.toArray zs) c) :: nx) → (∀ p ∈ nx, p.1 ≠ D) → IntsAre zs ns → ns.length = ss.length → (∀ a ∈ ns, a ∈ ss.map (·.2)) → (∀ a ∈ ss.map (·.2), a ∈ ns) → Q (.ref D) { s with heap := h', toks := tk }) :
    wpAny (model prog w) A (eval (.ListComp (.Subscript (.Name states q1) (.Name x q2) q4) [⟨.Name x px, .Name states q3, [], 0⟩] scope pos) env) Q E s := by
  obtain ⟨hdc, ⟨es, ep, hdd, hes⟩, hnd, hto⟩ := id hD
  have hn := (N _ hd).1
  have hlt : d < s.heap.objs.size := Heap.lt_size hn
  have hxk : (relabel scope env).names.lookup x = some .local := lookup_relabel_local hx
  have hsize : es.size = xs.length := by rw [← Array.length_toList, hes, List.length_map]
  have ent : ∀ (j : Nat) (e : DictEntry), es[j]? = some e → ∃ x', xs[j]? = some x' ∧ e.key = .ref x'.2.1 := fun j e he => by
    have : es.toList[j]? = some e := by simpa using he
    rw [hes, List.getElem?_map] at this
    cases q : xs[j]? with
    | none => rw [q] at this; cases this
    | some x' => rw [q] at this; cases this; exact ⟨x', rfl, rfl⟩
  refine wpAny_ListComp_free (fun _ => true) (fun v y => ∃ x ∈ xs, v = .ref x.2.1 ∧ y = x.2.2 ∧ ∀ x' ∈ xs, v = .ref x'.2.1 → y = x'.2.2) hclos hcell hkind hnames hx (hiter _ ?_) (fun _ => rfl)
  refine iter_dict lo hn hdc hdd ?_
  have up : ∀ b o, s.heap.get? b = some o → (s.heap.push { cls := .type "dict_keyiterator", data := .fields #[.ref d, .int 0 0, .int es.size 0, .int ep 0] }).get? b = some o := fun b o e => Heap.get?_push_of_some _ e
  have nI : ∀ b o, s.heap.get? b = some o → b ∉ [s.heap.objs.size] := fun b o e q => absurd (Heap.lt_size e) (by rw [List.mem_singleton.mp q]; exact Nat.lt_irrefl _)
  refine ⟨_, [s.heap.objs.size, d], [s.heap.objs.size], _, _, _, rfl, walks_keys hh s.heap.objs.size d (Nat.ne_of_lt hlt) hdd, by rw [sizeLine_eq]; omega, ⟨⟨_, Heap.get?_push_size _ rfl, rfl, rfl⟩, up _ _ hn⟩, fun b hb => ?_, ⟨?_, ?_⟩, ?_⟩
  · show b < (s.heap.push _).objs.size
    rw [Heap.size_push]
    rcases List.mem_cons.mp hb with rfl | hb
    · exact Nat.lt_succ_self _
    · rw [List.mem_singleton.mp hb]; exact Nat.lt_succ_of_lt hlt
  · intro C i v s₃ m₃ E' hC hP hns hm hk _
    exact wpAny_tests_nil ⟨rfl, ⟨_, _, rfl, fun _ _ e => e⟩⟩
  · intro C i v s₃ m₃ E' hC hP hpv hns hm hk _
    obtain ⟨e, he, rfl⟩ := hP
    obtain ⟨x', hx', hke⟩ := ent i e he
    have hxm := List.mem_of_getElem? hx'
    obtain ⟨ot, hot, hTo⟩ := hto x' hxm
    have N3 : News h₀ L s.heap nx := N
    have keep : ∀ b o, s.heap.get? b = some o → s₃.heap.get? b = some o := fun b o e => hk _ _ (nI _ _ e) (up _ _ e)
    have N3' : News h₀ L s₃.heap nx := fun p hp => ⟨keep _ _ (N p hp).1, (N p hp).2⟩
    rw [hke] at hm ⊢
    refine Subscript_ (wpAny_Name (wpAny_loadName_cell hkind hgk hgc ⟨ocg, keep _ _ (N _ hg).1, hgd⟩ (wpAny_Name (wpAny_loadName_local hkind hxk hns hm ?_) hxd)) hgd')
    refine dt_item hu N3' hD hT hd (hT _ hot) hTo (atKey_mem hnd hxm) ⟨⟨x', hxm, rfl, rfl, fun x2 hx2 e2 => ?_⟩, ⟨_, _, rfl, fun _ _ e => e⟩⟩ (hs := by with_unfolding_all rfl) (hg := by intro _; with_unfolding_all rfl)
    obtain ⟨ot2, hot2, hTo2⟩ := hto x2 hx2
    have ea : x'.2.1 = x2.2.1 := by injection e2
    have eo : ot = ot2 := by
      have a1 := (N _ (hT _ hot)).1
      have a2 := (N _ (hT _ hot2)).1
      rw [ea] at a1
      exact Option.some.inj (a1.symm.trans a2)
    have ek : x'.1 = x2.1 := TObj.uniq hTo (eo ▸ hTo2)
    have b1 := atKey_mem hnd hxm
    rw [ek, atKey_mem hnd hx2] at b1
    rw [Option.some.inj b1]
  · intro D h' tk ys vs' hD0' _ hpl hlen hP hF hk
    obtain ⟨c, hD'⟩ := hpl
    have k' : ∀ b o, s.heap.get? b = some o → h'.get? b = some o := fun b o e => hk b o (nI _ _ e) (up _ _ e)
    have hD0 : s.heap.get? D = none := by
      cases q : s.heap.get? D with
      | none => rfl
      | some o => rw [up _ _ q] at hD0'; cases hD0'
    obtain ⟨F', N', off⟩ := frn_new (o := listOf (List.toArray ys.toList) c) F N k' hD0 (by rw [Array.toArray_toList]; exact hD')
    rw [List.filter_eq_self.mpr (fun _ _ => rfl)] at hF
    obtain ⟨ns, i1, i2, i3⟩ := pair_vals hV hF
    refine hq h' tk D c ys.toList ns F' N' off i1 ?_ i2 fun a ha => ?_
    · rw [← IntsAre.length i1, ← hF.length, hlen, hsize, hV.length]
    · obtain ⟨y, hy, rfl⟩ := List.mem_map.mp ha
      obtain ⟨j, hj⟩ := List.getElem?_of_mem hy
      have hjl : j < xs.length := by rw [hV.length]; exact (List.getElem?_eq_some_iff.mp hj).1
      obtain ⟨v, t, e1, e2⟩ := hV.at (List.getElem?_eq_getElem hjl)
      rw [hj] at e2
      obtain rfl : y = (xs[j].1, v) := Option.some.inj e2
      refine i3 xs[j] (List.getElem_mem _) ?_ v t e1
      have hjv : j < vs'.length := by rw [hlen, hsize]; exact hjl
      obtain ⟨e, he, hv⟩ := hP j vs'[j] (List.getElem?_eq_getElem hjv)
      obtain ⟨x', hx', hke⟩ := ent j e he
      rw [List.getElem?_eq_getElem hjl] at hx'
      obtain rfl := Option.some.inj hx'
      rw [← hke, ← hv]
      exact List.getElem_mem _

theorem items_get {pl : Sem Bool} {Q : Value × List Value → Shared → Prop} {d : Addr} {o : Obj} {T : List (Addr × Obj)} {xs : List (List Int × Addr × Value)} (N : News h₀ L s.heap nx) (hp : (d, o) ∈ nx) (D : DT prog w T o xs) (h : Q (.builtin "dict.items", [.ref d]) s) :
    wpAny (model prog w) A (getMethod (.ref d) (Str.ofString "items") pl) Q E s := getMethod_items (N _ hp).1 D.1 h
theorem items_led {Q : Value → Shared → Prop} {d : Addr} {o : Obj} {T : List (Addr × Obj)} {xs : List (List Int × Addr × Value)} (F : Fr h₀ L s.heap m) (N : News h₀ L s.heap nx) (hp : (d, o) ∈ nx) (D : DT prog w T o xs) (lo : (d == sysModules) = false)
    (h : ∀ v h', Fr h₀ L h' m → News h₀ L h' ((v, { cls := .type "dict_items", data := .fields #[.ref d] }) :: nx) → (∀ p ∈ nx, p.1 < v) → Q (.ref v) { s with heap := h' }) :
    wpAny (model prog w) A (call (.builtin "dict.items") [.ref d]) Q E s :=
  items_call lo (N _ hp).1 D.1 (h _ _ (F.push _) (News.push F N _) fun p hp => Heap.lt_size (N p hp).1)
theorem in_tup1 {Q : Value → Shared → Prop} {t : Addr} {o : Obj} {k : List Int} {x : Int} {u : Tok} (N : News h₀ L s.heap nx) (hp : (t, o) ∈ nx) (D : TObj prog w k o) (hx : x ∈ k) (h : Q (.bool true) s) : wpAny (model prog w) A (compareOp .In (.int x u) (.ref t)) Q E s := by
  obtain ⟨vs, n, hc, hd, hi⟩ := D.split
  refine in_tuple_ints (items := vs.toArray) ⟨o, (N _ hp).1, hc, n, hd⟩ hi ?_
  rw [show k.any (· == x) = true from List.any_eq_true.mpr ⟨x, hx, by simp⟩]; exact h
theorem in_tup0 {Q : Value → Shared → Prop} {t : Addr} {o : Obj} {k : List Int} {x : Int} {u : Tok} (N : News h₀ L s.heap nx) (hp : (t, o) ∈ nx) (D : TObj prog w k o) (hx : ¬ x ∈ k) (h : Q (.bool false) s) : wpAny (model prog w) A (compareOp .In (.int x u) (.ref t)) Q E s := by
  obtain ⟨vs, n, hc, hd, hi⟩ := D.split
  refine in_tuple_ints (items := vs.toArray) ⟨o, (N _ hp).1, hc, n, hd⟩ hi ?_
  rw [show k.any (· == x) = false from by rw [List.any_eq_false]; exact fun y hy q => hx (by simp at q; exact q ▸ hy)]; exact h
theorem len_tup {Q : Value → Shared → Prop} {t : Addr} {o : Obj} {k : List Int} (N : News h₀ L s.heap nx) (hp : (t, o) ∈ nx) (D : TObj prog w k o) (hz : k.length < 1000) (h : ∀ u tk, Q (.int k.length u) { s with toks := tk }) : wpAny (model prog w) A (call (.builtin "len") [.ref t]) Q E s := by
  obtain ⟨vs, n, hc, hd, hi⟩ := D.split
  have hl := IntsAre.length hi
  refine len_tuple (items := vs.toArray) ⟨o, (N _ hp).1, hc, n, hd⟩ (by rw [List.size_toArray]; omega) ?_
  rw [List.size_toArray, hl]
  exact h _ _
/-- state + (key,): a tuple with its items -/
theorem add_tup {Q : Value → Shared → Prop} {t b : Addr} {o ob : Obj} {k k2 : List Int} (F : Fr h₀ L s.heap m) (N : News h₀ L s.heap nx) (hp : (t, o) ∈ nx) (D : TObj prog w k o) (hb : (b, ob) ∈ nx) (D2 : TObj prog w k2 ob) (h2 : k2 ≠ []) (hz : k.length + k2.length ≤ 1000)
    (h : ∀ x h' ox, Fr h₀ L h' m → News h₀ L h' ((x, ox) :: nx) → TObj prog w (k ++ k2) ox → Q (.ref x) { s with heap := h' }) :
    wpAny (model prog w) A (binaryOp .Add (.ref t) (.ref b)) Q E s := by
  obtain ⟨vs, n, hc, hd, hi⟩ := D.split
  obtain ⟨vs2, n2, hc2, hd2, hi2⟩ := D2.split
  have e1 := IntsAre.length hi
  have e2 := IntsAre.length hi2
  refine add_tuples_right F N ⟨o, (N _ hp).1, hc, n, hd⟩ ⟨ob, (N _ hb).1, hc2, n2, hd2⟩ hi hi2 (fun q => h2 (by subst q; cases hi2; rfl)) (fun q => ?_) (fun h' F' N' i => ?_) (by rw [sizeLine_eq]; omega)
  · subst q
    refine h b s.heap ob F (fun p hp => ?_) (by rw [List.nil_append]; exact D2)
    rcases List.mem_cons.mp hp with rfl | hp
    · exact N _ hb
    · exact N _ hp
  · exact h _ h' _ F' N' (TObj.mk i)
theorem add_lst {Q : Value → Shared → Prop} {t b : Addr} {c c2 : Nat} {vs vs2 : List Value} {k k2 : List Int} (F : Fr h₀ L s.heap m) (N : News h₀ L s.heap nx) (hp : (t, listOf vs.toArray c) ∈ nx) (hi : IntsAre vs k) (hb : (b, listOf vs2.toArray c2) ∈ nx) (hi2 : IntsAre vs2 k2) (hz : k.length + k2.length ≤ 1000)
    (h : ∀ x h', Fr h₀ L h' m → News h₀ L h' ((x, listOf (vs ++ vs2).toArray 0) :: nx) → IntsAre (vs ++ vs2) (k ++ k2) → Q (.ref x) { s with heap := h' }) :
    wpAny (model prog w) A (binaryOp .Add (.ref t) (.ref b)) Q E s :=
  add_lists_ints F N ⟨_, (N _ hp).1, rfl, _, rfl⟩ ⟨_, (N _ hb).1, rfl, _, rfl⟩ hi hi2 (fun h' F' N' i => h _ h' F' N' i) (by rw [sizeLine_eq]; omega)
theorem sorted_tup {Q : Value → Shared → Prop} {t : Addr} {o : Obj} {k : List Int} (F : Fr h₀ L s.heap m) (N : News h₀ L s.heap nx) (hp : (t, o) ∈ nx) (D : TObj prog w k o) (hz : k.length < 60)
    (h : ∀ D h' vs' c, Fr h₀ L h' m → News h₀ L h' ((D, listOf (List.toArray vs') c) :: nx) → (∀ p ∈ nx, p.1 ≠ D) → IntsAre vs' (srt k) → Q (.ref D) { s with heap := h' }) :
    wpAny (model prog w) A (call (.builtin "sorted") [.ref t]) Q E s := by
  obtain ⟨vs, n, hc, hd, hi⟩ := D.split
  have e1 := IntsAre.length hi
  exact sorted_L F N hp (.inr rfl) hc hd hi (by rw [List.size_toArray]; omega) h
theorem sorted_lst {Q : Value → Shared → Prop} {t : Addr} {c : Nat} {vs : List Value} {k : List Int} (F : Fr h₀ L s.heap m) (N : News h₀ L s.heap nx) (hp : (t, listOf vs.toArray c) ∈ nx) (hi : IntsAre vs k) (hz : k.length < 60)
    (h : ∀ D h' vs' c, Fr h₀ L h' m → News h₀ L h' ((D, listOf (List.toArray vs') c) :: nx) → (∀ p ∈ nx, p.1 ≠ D) → IntsAre vs' (srt k) → Q (.ref D) { s with heap := h' }) :
    wpAny (model prog w) A (call (.builtin "sorted") [.ref t]) Q E s := by
  have e1 := IntsAre.length hi
  exact sorted_L F N hp (.inl rfl) rfl rfl hi (by rw [List.size_toArray]; omega) h
theorem tup_of {Q : Value → Shared → Prop} {t : Addr} {c : Nat} {vs : List Value} {k : List Int} (F : Fr h₀ L s.heap m) (N : News h₀ L s.heap nx) (hp : (t, listOf vs.toArray c) ∈ nx) (hi : IntsAre vs k) (hz : k.length < 1000)
    (h : ∀ D h' oT, Fr h₀ L h' m → News h₀ L h' ((D, oT) :: nx) → (∀ p ∈ nx, p.1 < D) → TObj prog w k oT → Q (.ref D) { s with heap := h' }) :
    wpAny (model prog w) A (call (.type "tuple") [.ref t]) Q E s := by
  have e1 := IntsAre.length hi
  exact kde_tupleOf F N ⟨_, (N _ hp).1, rfl, _, rfl⟩ (by rw [List.size_toArray]; omega) (zs := vs) rfl fun D h' F' N' l1 => h D h' _ F' N' l1 (TObj.mk hi)
theorem srt_length (l : List Int) : (srt l).length = l.length := (srt_perm l).length_eq
end
end Mine
end


/-! TG -/
section
open PySem PySem.W PyProof.Rows PySem.Spec PySem.Calls
set_option maxRecDepth 100000
set_option linter.unusedVariables false
set_option linter.unusedSimpArgs false
namespace Mine

def OkS (p : Int) (ss : SS) : Prop := ∀ x ∈ ss, (x.1.length : Int) ≤ p
def statesAt (pl : Int) (rs : List Int) (i : Nat) : SS := finalS pl (rs.take i)

theorem putS_mem {a : SS} {k : List Int} {v : Int} {x : List Int × Int} (h : x ∈ putS a k v) : x.1 = k ∨ ∃ y ∈ a, y.1 = x.1 := by
  unfold putS at h
  split at h
  · obtain ⟨y, hy, rfl⟩ := List.mem_map.mp h
    right
    refine ⟨y, hy, ?_⟩
    split <;> rfl
  · rcases List.mem_append.mp h with h | h
    · exact .inr ⟨x, h, rfl⟩
    · rw [List.mem_singleton.mp h]; exact .inl rfl
theorem putS_len (a : SS) (k : List Int) (v : Int) : (putS a k v).length ≤ a.length + 1 := by
  unfold putS
  split
  · simp
  · simp
theorem relax_mem {mu : Int} {a : SS} {k : List Int} {x : List Int × Int} (h : x ∈ relax mu a k) : x.1 = k ∨ ∃ y ∈ a, y.1 = x.1 := by
  unfold relax at h
  split at h
  · exact putS_mem h
  · split at h
    · exact putS_mem h
    · exact .inr ⟨x, h, rfl⟩
theorem relax_len (mu : Int) (a : SS) (k : List Int) : (relax mu a k).length ≤ a.length + 1 := by
  unfold relax
  split
  · exact putS_len _ _ _
  · split
    · exact putS_len _ _ _
    · omega
theorem fold_relax_mem {mu : Int} {x : List Int × Int} : ∀ {ch : List (List Int)} {a : SS}, x ∈ ch.foldl (relax mu) a → x.1 ∈ ch ∨ ∃ y ∈ a, y.1 = x.1
  | [], a, h => .inr ⟨x, h, rfl⟩
  | k :: ch, a, h => by
    rw [List.foldl_cons] at h
    rcases fold_relax_mem h with h | ⟨y, hy, e⟩
    · exact .inl (.tail _ h)
    · rcases relax_mem hy with q | ⟨z, hz, q⟩
      · left; rw [← e, q]; exact .head _
      · exact .inr ⟨z, hz, q.trans e⟩
theorem fold_relax_len (mu : Int) : ∀ (ch : List (List Int)) (a : SS), (ch.foldl (relax mu) a).length ≤ a.length + ch.length
  | [], a => by simp
  | k :: ch, a => by
    rw [List.foldl_cons, List.length_cons]
    have := fold_relax_len mu ch (relax mu a k)
    have := relax_len mu a k
    omega
theorem srt_len (l : List Int) : (srt l).length = l.length := (srt_perm l).length_eq
theorem filter_ne_len {l : List Int} {g : Int} (h : g ∈ l) : (l.filter fun o => decide (o ≠ g)).length + 1 ≤ l.length := by
  have := List.length_filter_lt_length_iff_exists (l := l) (p := fun o => decide (o ≠ g)) |>.mpr ⟨g, h, by simp⟩
  omega
theorem chs_ok {p key : Int} {st : List Int} (hp : 1 ≤ p) (h : (st.length : Int) ≤ p) : ∀ k ∈ chs p key st, (k.length : Int) ≤ p := by
  intro k hk
  unfold chs at hk
  split at hk
  · rw [List.mem_singleton.mp hk]; exact h
  · split at hk
    · obtain ⟨g, hg, rfl⟩ := List.mem_map.mp hk
      have := filter_ne_len hg
      rw [srt_len, List.length_append, List.length_singleton]
      omega
    · rw [List.mem_singleton.mp hk, srt_len, List.length_append, List.length_singleton]
      omega
theorem chs_len {p key : Int} {st : List Int} (hp : p ≤ 4) (h : (st.length : Int) ≤ p) : (chs p key st).length ≤ 4 := by
  unfold chs
  split
  · simp
  · split
    · rw [List.length_map]; omega
    · simp
theorem turn_ok {p key : Int} {a : SS} {x : List Int × Int} (hp : 1 ≤ p) (ha : OkS p a) (hx : (x.1.length : Int) ≤ p) : OkS p (turn1 p key a x) := by
  intro y hy
  rcases fold_relax_mem hy with h | ⟨z, hz, e⟩
  · exact chs_ok hp hx _ h
  · rw [← e]; exact ha z hz
theorem turn_len {p key : Int} {a : SS} {x : List Int × Int} (hp : p ≤ 4) (hx : (x.1.length : Int) ≤ p) : (turn1 p key a x).length ≤ a.length + 4 := by
  have := fold_relax_len (cost key x.1 x.2) (chs p key x.1) a
  have := chs_len (key := key) hp hx
  unfold turn1
  omega
theorem fold_turn_ok {p key : Int} (hp : 1 ≤ p) : ∀ {l : SS} {a : SS}, OkS p a → OkS p l → OkS p (l.foldl (turn1 p key) a)
  | [], a, ha, _ => ha
  | x :: l, a, ha, hl => by
    rw [List.foldl_cons]
    exact fold_turn_ok hp (turn_ok hp ha (hl x (.head _))) fun y hy => hl y (.tail _ hy)
theorem fold_turn_len {p key : Int} (hp : p ≤ 4) : ∀ {l : SS} {a : SS}, OkS p l → (l.foldl (turn1 p key) a).length ≤ a.length + 4 * l.length
  | [], a, _ => by simp
  | x :: l, a, hl => by
    rw [List.foldl_cons, List.length_cons]
    have h1 := fold_turn_len (key := key) hp (a := turn1 p key a x) (l := l) fun y hy => hl y (.tail _ hy)
    have h2 := turn_len (key := key) (a := a) hp (hl x (.head _))
    omega
theorem states_step {p : Int} {rs : List Int} {i : Nat} (h : i < rs.length) : statesAt p rs (i + 1) = stepS p (rs.getD i 0) (statesAt p rs i) := by
  unfold statesAt finalS
  rw [List.take_add_one, List.getElem?_eq_getElem h, List.foldl_append]
  simp [List.getD_eq_getElem?_getD, List.getElem?_eq_getElem h]
theorem states_ok {p : Int} (hp : 1 ≤ p) (rs : List Int) : ∀ (i : Nat), i ≤ rs.length → OkS p (statesAt p rs i)
  | 0, _ => by
    intro x hx
    simp only [statesAt, finalS, List.take_zero, List.foldl_nil, List.mem_singleton] at hx
    subst hx
    show ((0 : Nat) : Int) ≤ p
    omega
  | i + 1, h => by
    rw [states_step (by omega)]
    exact fold_turn_ok hp (fun x hx => by cases hx) (states_ok hp rs i (by omega))
theorem states_len {p : Int} (hp : 1 ≤ p) (hp4 : p ≤ 4) (rs : List Int) : ∀ (i : Nat), i ≤ rs.length → (statesAt p rs i).length ≤ 4 ^ i
  | 0, _ => by simp [statesAt, finalS]
  | i + 1, h => by
    rw [states_step (by omega)]
    have h1 := fold_turn_len (key := rs.getD i 0) hp4 (a := []) (states_ok hp rs i (by omega))
    have h2 := states_len hp hp4 rs i (by omega)
    unfold stepS
    rw [Nat.pow_succ]
    simp only [List.length_nil] at h1
    omega
theorem states_big {p : Int} (hp : 1 ≤ p) (hp4 : p ≤ 4) {rs : List Int} {i : Nat} (h : i ≤ rs.length) (h10 : rs.length ≤ 10) : (statesAt p rs i).length ≤ 1048576 := by
  have h1 := states_len hp hp4 rs i h
  have h2 : 4 ^ i ≤ 4 ^ 10 := Nat.pow_le_pow_right (by omega) (by omega)
  have h3 : 4 ^ 10 = 1048576 := by decide
  omega
theorem states_last (p : Int) (rs : List Int) : statesAt p rs rs.length = finalS p rs := by unfold statesAt; rw [List.take_length]
theorem choice_big {p : Int} (hp : 1 ≤ p) (hp4 : p ≤ 4) {rs : List Int} {i : Nat} (h : i ≤ rs.length) (h10 : rs.length ≤ 10) {key mu : Int} {st : List Int} (hst : (st.length : Int) ≤ p) (j e : Nat) :
    (((chs p key st).take e).foldl (relax mu) (((statesAt p rs i).take j).foldl (turn1 p key) [])).length ≤ 10000000 := by
  have h1 := fold_relax_len mu ((chs p key st).take e) (((statesAt p rs i).take j).foldl (turn1 p key) [])
  have h2 := chs_len (key := key) hp4 hst
  have h3 : ((chs p key st).take e).length ≤ (chs p key st).length := by rw [List.length_take]; omega
  have h4 := fold_turn_len (key := key) hp4 (a := []) (l := (statesAt p rs i).take j) fun y hy => states_ok hp rs i h y (List.mem_of_mem_take hy)
  have h5 : ((statesAt p rs i).take j).length ≤ (statesAt p rs i).length := by rw [List.length_take]; omega
  have h6 := states_big hp hp4 h h10
  simp only [List.length_nil] at h4
  omega
theorem putS_ne {a : SS} {k : List Int} {v : Int} : putS a k v ≠ [] := by
  unfold putS
  split
  · rename_i h
    intro q
    rw [List.map_eq_nil_iff] at q
    subst q
    simp [getS] at h
  · simp
theorem relax_ne {mu : Int} {a : SS} {k : List Int} : relax mu a k ≠ [] := by
  unfold relax
  split
  · exact putS_ne
  · split
    · exact putS_ne
    · rename_i h _
      intro q; subst q; simp [getS] at h
theorem fold_relax_ne {mu : Int} : ∀ {ch : List (List Int)} {a : SS}, ch ≠ [] ∨ a ≠ [] → ch.foldl (relax mu) a ≠ []
  | [], a, h => by rcases h with h | h; exact absurd rfl h; exact h
  | k :: ch, a, _ => by rw [List.foldl_cons]; exact fold_relax_ne (.inr relax_ne)
theorem chs_ne {p key : Int} {st : List Int} (hp : 1 ≤ p) : chs p key st ≠ [] := by
  unfold chs
  split
  · simp
  · split
    · intro q
      rw [List.map_eq_nil_iff] at q
      subst q
      rename_i h
      simp at h
      omega
    · simp
theorem fold_turn_ne {p key : Int} (hp : 1 ≤ p) : ∀ {l : SS} {a : SS}, l ≠ [] ∨ a ≠ [] → l.foldl (turn1 p key) a ≠ []
  | [], a, h => by rcases h with h | h; exact absurd rfl h; exact h
  | x :: l, a, _ => by rw [List.foldl_cons]; exact fold_turn_ne hp (.inr (fold_relax_ne (.inl (chs_ne hp))))
theorem states_ne {p : Int} (hp : 1 ≤ p) (rs : List Int) : ∀ (i : Nat), i ≤ rs.length → statesAt p rs i ≠ []
  | 0, _ => by simp [statesAt, finalS]
  | i + 1, h => by
    rw [states_step (by omega)]
    exact fold_turn_ne hp (.inl (states_ne hp rs i (by omega)))
end Mine
end


/-! LL -/
section
open PySem PySem.W PyProof.Rows PySem.Spec PySem.Calls
set_option maxRecDepth 100000
set_option maxHeartbeats 8000000
set_option linter.unusedVariables false
set_option linter.unusedSimpArgs false
namespace Mine

section
variable {prog : Program} {w : World} {A A₀ : Around} {s : Shared} {K : Frag} {L : Addr} {h₀ base : Heap} {m mg mb : Str → Option Value} {news : List (Addr × Obj)} {p : Program} {loose : List Str} {mean : ExcName → Option Value}

/-- a def with captured names entered: as enter_def -/
theorem enter_defC {env : Env} {outer : List Env} {R : Result → Shared → Prop} {name qual : Str} {params : Arguments} {body : List Stmt} {scope : Scope} {dV kV doc pm cdv ct oc : Value} {an od : Option Addr} {osl : Array (Option Value)} {f : Addr} {args : Args} {binds : List (Str × Value)}
    (B : Below A₀ base outer h₀) (F : Fr h₀ L s.heap m) (X₀ : K.In h₀) (N : News h₀ L s.heap news) (T : Top p loose mean mg mb h₀) (hA : A.frames = some (env :: outer)) (hf : env.frame = some L) (hke : env.scope.kind = .function)
    (ho : K.lookup f = some ⟨oc, od, .func (fnOf name qual params body scope dV kV doc pm an cdv ct), osl⟩) (hcd : codeIn K cdv qual = true) (hroom : A.depth < recursionLimit)
    (hbind : BindsTo s (fnOf name qual params body scope dV kV doc pm an cdv ct) args binds) (hkind : (binds.all fun y => scope.names.lookup y.1 == some .local || scope.names.lookup y.1 == some .cell) = true)
    (hnd : ((cellsFrom 0 scope.names []).map (·.1)).Nodup)
    (h : ∀ g L' h₁ tk cells, Fr h₀ L g m → Fr g L' h₁ (bindL (envOfC qual scope L' f cdv).kindOf binds fun _ => none) → News g L' h₁ (cells ++ news) →
      CellsAre (bindC (envOfC qual scope L' f cdv).kindOf binds fun _ => none) (cellsFrom (L' + 1) scope.names []) cells → Below A base (env :: outer) g → K.In g → Top p loose mean mg mb g → (∀ p ∈ news, p.1 < L') →
      (∀ b o, b ∉ news.map (·.1) → s.heap.get? b = some o → g.get? b = some o) →
      wpAny (model prog w) (A.deeper (envOfC qual scope L' f cdv)) (execs body (envOfC qual scope L' f cdv))
        (fun fl s' => LeaveK h₀ L m g R (match fl with | .ret v => v | _ => .none) s')
        (fun e s' => wpAny (model prog w) (A.deeper (envOfC qual scope L' f cdv)) (leaving (envOfC qual scope L' f cdv) e) (fun _ s'' => R (.error e) s'') (fun e' s'' => R (.error e') s'') s')
        { s with heap := h₁, toks := tk })
    (hco : scope.isCoroutine = false) (hgen : scope.isGenerator = false) (hk : scope.kind = .function) : codeAny (model prog w) A (.call (.ref f) args) R s := by
  obtain ⟨FG, BG, st, lv⟩ := groundX (R := R) B F N hA hf hke
  have Xs := X₀.keeps F.keep
  have hlim := T.nolimit.keeps F.keep
  refine codeAny_call_function hroom (Xs _ _ ho) rfl hco hgen rfl (codeRec_of Xs hcd) (hbind _ _ _ _ ?_)
  refine wpAny_newFunctionEnv_cells hk (kindsX hkind _) fun env' he s' x => ?_
  subst he
  refine ⟨hlim.keeps x.toInCall.keep, codeAny_func ?_⟩
  obtain ⟨h₁, tk, rfl, _⟩ := x.done
  have hk₁ := x.toInCall.keep
  obtain ⟨cells, NC, Y⟩ := Cl.news (h₀ := s.heap) (Nat.le_refl _) fun n c hm => ⟨x.cell n c (lookup_of_mem_nodup (cellsFrom_names scope.names 0 (s.heap.objs.size + 1) [] [] rfl ▸ hnd) hm), x.above n c hm⟩
  have hb : Fr (hideAll s.heap (news.map (·.1))) s.heap.objs.size h₁ (bindL (envOfC qual scope s.heap.objs.size f cdv).kindOf binds fun _ => none) := ⟨x.toInCall.ns, fun b o e => hk₁ b o (of_hideAll _ e), Nat.le_of_eq (hideAll_size _ _)⟩
  have hn : News (hideAll s.heap (news.map (·.1))) s.heap.objs.size h₁ (cells ++ news) := fun p hp => by
    rcases List.mem_append.mp hp with hp | hp
    · refine ⟨(NC p hp).1, (NC p hp).2.1, ?_⟩
      cases q : (hideAll s.heap (news.map (·.1))).get? p.1 with
      | none => rfl
      | some o => have := of_hideAll _ q; rw [(NC p hp).2.2] at this; cases this
    · exact ⟨hk₁ _ _ (N p hp).1, Nat.ne_of_lt (Heap.lt_size (N p hp).1), hideAll_none _ (List.mem_map_of_mem hp)⟩
  exact wpAny_mono (h _ s.heap.objs.size h₁ tk cells FG hb hn Y BG (X₀.keeps st) (T.keeps st) (fun p hp => Heap.lt_size (N p hp).1) (fun b o hb e => hideAll_get _ e hb)) (fun fl s' hl => lv _ _ hl) fun _ _ y => y
end

example : (fun (_ : OpenLaw) (_ : Params → Frag) => True) PySem.Challenge.rw_ft5003_01 hd.heap_39 := by k_fill; trivial

local macro_rules | `(tactic| k_ne) => `(tactic| (refine neN ?_; (try dsimp only); first | assumption | exact Ne.symm (by assumption) | omega))
local macro_rules | `(tactic| k_all) => `(tactic| first | exact List.forall_mem_nil _ | (refine' List.forall_mem_cons.mpr ⟨?a, ?b⟩; (case a => k_ne); (case b => k_all)) | assumption | exact fun p hp => Nat.ne_of_lt (ktn_ltOf (by assumption) p hp))
local macro_rules | `(tactic| walk_at "exec For") => `(tactic| (k_here; refine Held.out ?_))
local macro_rules | `(tactic| walk_at "exec For Name") => `(tactic| (k_here; refine Held.out ?_))
local macro_rules | `(tactic| walk_at "exec For Name Name") => `(tactic| (k_here; refine Held.out ?_))
local macro_rules | `(tactic| walk_at "exec For Name Name cons nil") => `(tactic| (k_here; refine Held.out ?_))
local macro_rules | `(tactic| walk_at "exec For Name Name cons") => `(tactic| (k_here; refine Held.out ?_))
local macro_rules | `(tactic| walk_at "exec For Tuple") => `(tactic| (k_here; refine Held.out ?_))
local macro_rules | `(tactic| walk_at "exec For Tuple Call") => `(tactic| (k_here; refine Held.out ?_))
local macro_rules | `(tactic| walk_at "exec For Tuple Call cons") => `(tactic| (k_here; refine Held.out ?_))
local macro_rules | `(tactic| walk_at "exec For Tuple Call cons nil") => `(tactic| (k_here; refine Held.out ?_))
local macro_rules | `(tactic| walk_at "eval Dict") => `(tactic| (k_here; (with_reducible show wpAny _ _ (eval (PySem.Expr.Dict (_ :: _) _ _) _) _ _ _); refine Held.out ?_))
local macro_rules | `(tactic| walk_at "pyIter ref") => `(tactic| (k_here; refine Held.out ?_))

local macro_rules | `(tactic| walk_at "getMethod ref") => `(tactic| (k_here; k_dflt (refine items_get (by k_asm) (by k_mem) (by assumption) ?_)))
local macro_rules | `(tactic| walk_at "call builtin:dict.items") => `(tactic| (k_here; k_dflt (refine items_led (by k_asm) (by k_asm) (by k_mem) (by assumption) (by assumption) ?_); intro v' h' F' N' l1; (try k_lt l1); (try k_sweep)))

local macro_rules | `(tactic| k_mem) => `(tactic| first | exact List.Mem.head _ | assumption | (refine' List.Mem.tail _ ?_; k_mem))
local macro_rules | `(tactic| walk_at "compareOp In int ref") => `(tactic| (k_here; k_dflt (first | refine in_tup1 (by k_asm) (by k_mem) (by assumption) (by assumption) ?_ | refine in_tup0 (by k_asm) (by k_mem) (by assumption) (by assumption) ?_)))
local macro_rules | `(tactic| walk_at "binaryOp Add ref ref") => `(tactic| (k_here; k_dflt (first
  | (refine add_tup (by k_asm) (by k_asm) (by k_mem) (by assumption) (by k_mem) (TObj.mk (.cons _ _ .nil)) (by simp) (by simp only [List.length_cons, List.length_nil]; omega) ?_; intro x' h' ox' F' N' hk'; (try k_sweep))
  | (refine add_lst (by k_asm) (by k_asm) (by k_mem) (by assumption) (by k_mem) (.cons _ _ .nil) (by simp only [List.length_cons, List.length_nil]; omega) ?_; intro x' h' F' N' hk'; (try k_sweep)))))
local macro_rules | `(tactic| walk_at "call builtin:sorted") => `(tactic| (k_here; k_dflt (first
  | (refine sorted_tup (by k_asm) (by k_asm) (by k_mem) (by assumption) (by simp only [List.length_append, List.length_cons, List.length_nil]; omega) ?_; intro D' h' vs' c' F' N' l1 hi'; (try k_sweep))
  | (refine sorted_lst (by k_asm) (by k_asm) (by k_mem) (by assumption) (by simp only [List.length_append, List.length_cons, List.length_nil]; omega) ?_; intro D' h' vs' c' F' N' l1 hi'; (try k_sweep)))))
local macro_rules | `(tactic| walk_at "call type:tuple") => `(tactic| (k_here; k_dflt (refine tup_of (by k_asm) (by k_asm) (by k_mem) (by assumption) (by simp only [srt_length, List.length_append, List.length_cons, List.length_nil]; omega) ?_); intro D' h' oT' F' N' l1 hT'; (try k_lt l1); (try k_sweep)))
local macro_rules | `(tactic| walk_at "call builtin:len") => `(tactic| (k_here; k_dflt (refine len_tup (by k_asm) (by k_mem) (by assumption) (by omega) ?_); intro u' tk'))

local macro_rules | `(tactic| walk_at "exec Assign cons ListComp") => `(tactic| (k_here; refine Held.out ?_))
local macro_rules | `(tactic| walk_at "eval ListComp") => `(tactic| (k_here; refine Held.out ?_))

theorem ldCellL {M : Model} {A : Around} {E : Value → Shared → Prop} {s : Shared} {h₀ : Heap} {L c C : Addr} {nx : List (Addr × Obj)} {o : Obj} {scope : Scope} {cl : List (Str × Addr)} {env : Env} {x : Str} {pos : Pos} {v : Value} {Q : Value → Shared → Prop} (N : News h₀ L s.heap nx) (hc : cl.lookup x = some c) (hm : (c, o) ∈ nx) (hd : o.data = .cell (some v)) (h : Q v s)
    (hk : (compEnvC scope cl C env).scope.kind = .function := by rfl) (hl : (compEnvC scope cl C env).kindOf x = some .cell := by rfl) (hdb : (x == ("__debug__" : Str)) = false := by decide) :
    wpAny M A (eval (.Name x pos) (compEnvC scope cl C env)) Q E s := ldCellK hc ⟨o, (N _ hm).1, hd⟩ h hk hl hdb
local macro_rules | `(tactic| walk_at "eval Name") => `(tactic| (k_here; (with_reducible show wpAny _ _ (eval (Expr.Name _ _) (compEnvC _ _ _ _)) _ _ _); k_dflt (refine ldCellL (by k_asm) rfl (by k_mem) (by assumption) ?_)))

local macro_rules | `(tactic| walk_at "compareOp NotIn ref ref") => `(tactic| (k_here; k_dflt (first | refine dt_notin0 (by ktr_units) (by k_asm) (by assumption) (by (intro p hp; repeat (first | exact hp | refine List.Mem.tail _ ?_))) (by k_mem) (by assumption) (by k_mem) (by assumption) (by assumption) ?_ | refine dt_notin1 (by ktr_units) (by k_asm) (by assumption) (by (intro p hp; repeat (first | exact hp | refine List.Mem.tail _ ?_))) (by k_mem) (by assumption) (by k_mem) (by assumption) (by assumption) ?_)))
local macro_rules | `(tactic| walk_at "subscriptTail") => `(tactic| (k_here; (with_reducible show wpAny _ _ (subscriptTail _ _ (Value.ref _) (Value.ref _)) _ _ _); k_dflt (refine dt_item (by ktr_units) (by k_asm) (by assumption) (by (intro p hp; repeat (first | exact hp | refine List.Mem.tail _ ?_))) (by k_mem) (by k_mem) (by assumption) (by assumption) ?_)))
local macro_rules | `(tactic| walk_at "setItem ref ref") => `(tactic| (k_here; k_dflt (refine' dt_set ?u ?F ?N ?U ?D ?T ?Td ?a ?k ?z ?_; (case u => ktr_units); (case F => k_asm); (case N => k_asm); (case U => k_updF); (case D => assumption); (case T => (intro p hp; repeat (first | exact hp | refine List.Mem.tail _ ?_))); (case Td => assumption); (case a => assumption); (case k => assumption); (case z => assumption)); intro h' o' F' N' hd'; (try dsimp only at N'); (try k_sweep)))


def mmO (pl : Int) (tkk : Tok) (l : Addr) (u : Str → Option Value) : Str → Option Value := fun z => if z = Str.ofString "places" then some (.int pl tkk) else if z = Str.ofString "requests" then some (.ref l) else u z
def InvO (prog : Program) (w : World) (pl : Int) (tkk : Tok) (l : Addr) (rs : List Int) (cs ck ct : Addr) (i : Nat) (m : Str → Option Value) (nx : List (Addr × Obj)) : Prop :=
  ∃ sd od xs ocs ock oct T, m (Str.ofString "places") = some (.int pl tkk) ∧ m (Str.ofString "requests") = some (.ref l) ∧ nx = (cs, ocs) :: (ck, ock) :: (ct, oct) :: (sd, od) :: T ∧
    ocs.data = .cell (some (.ref sd)) ∧ (∃ v, ock.data = .cell v) ∧ (∃ v, oct.data = .cell v) ∧ (sd == sysModules) = false ∧ DT prog w T od xs ∧ VA xs (statesAt pl rs i) ∧
    (cs ≠ ck ∧ cs ≠ ct ∧ cs ≠ sd ∧ ck ≠ ct ∧ ck ≠ sd ∧ ct ≠ sd) ∧ (∀ p ∈ T, p.1 ≠ cs) ∧ (∀ p ∈ T, p.1 ≠ ck) ∧ (∀ p ∈ T, p.1 ≠ ct) ∧ (∀ p ∈ T, p.1 ≠ sd)
def InvI (prog : Program) (w : World) (pl : Int) (tkk : Tok) (l : Addr) (key : Int) (cs ck ct sd ad J : Addr) (ocs ock od oJ : Obj) (xs : List (List Int × Addr × Value)) (ss : SS) (i : Nat) (m : Str → Option Value) (nx : List (Addr × Obj)) : Prop :=
  ∃ oct oa ys T, m (Str.ofString "places") = some (.int pl tkk) ∧ m (Str.ofString "requests") = some (.ref l) ∧ m (Str.ofString "after") = some (.ref ad) ∧
    nx = (cs, ocs) :: (ck, ock) :: (ct, oct) :: (sd, od) :: (ad, oa) :: (J, oJ) :: T ∧ (∃ v, oct.data = .cell v) ∧ DT prog w T od xs ∧ DT prog w T oa ys ∧ VA ys ((ss.take i).foldl (turn1 pl key) []) ∧
    (∀ p ∈ T, p.1 ≠ cs) ∧ (∀ p ∈ T, p.1 ≠ ck) ∧ (∀ p ∈ T, p.1 ≠ ct) ∧ (∀ p ∈ T, p.1 ≠ sd) ∧ (∀ p ∈ T, p.1 ≠ ad) ∧ (∀ p ∈ T, p.1 ≠ J)
def Mid (prog : Program) (w : World) (h₀ : Heap) (L : Addr) (pl : Int) (tkk : Tok) (l ad I2 cs ck ct sd J : Addr) (oi2 ocs ock oct od oa oJ : Obj) (T : List (Addr × Obj)) (ch : List (List Int)) (much : Int) (s : Shared) (fl : Flow) (s' : Shared) : Prop :=
  fl = .next ∧ ∃ h' tk' m' D c zs T' tm, s' = { s with heap := h', toks := tk' } ∧ Fr h₀ L h' m' ∧
    (m' (Str.ofString "places") = some (.int pl tkk) ∧ m' (Str.ofString "requests") = some (.ref l) ∧ m' (Str.ofString "after") = some (.ref ad) ∧ m' (Str.ofString "choices") = some (.ref D) ∧ m' (Str.ofString "much") = some (.int much tm)) ∧
    News h₀ L h' ((D, listOf (List.toArray zs) c) :: (I2, oi2) :: (cs, ocs) :: (ck, ock) :: (ct, oct) :: (sd, od) :: (ad, oa) :: (J, oJ) :: T') ∧ (∀ p ∈ T, p ∈ T') ∧ CA prog w T' zs ch ∧
    (∀ b ∈ [I2, cs, ck, ct, sd, ad, J], b ≠ D) ∧ (∀ p ∈ T', p.1 ≠ D) ∧ (∀ p ∈ T', ∀ b ∈ [I2, cs, ck, ct, sd, ad, J], p.1 ≠ b)
theorem Mid.one {prog : Program} {w : World} {h₀ : Heap} {L : Addr} {pl : Int} {tkk : Tok} {l ad I2 cs ck ct sd J : Addr} {oi2 ocs ock oct od oa oJ : Obj} {T : List (Addr × Obj)} {k : List Int} {much : Int} {s : Shared} {h' : Heap} {tk' : Nat} {m' : Str → Option Value} {D Tn : Addr} {c : Nat} {oT : Obj} {p1 p2 p3 : Addr × Obj} {tm : Tok}
    (F : Fr h₀ L h' m') (N : News h₀ L h' ((D, listOf #[.ref Tn] c) :: (Tn, oT) :: p1 :: p2 :: p3 :: (I2, oi2) :: (cs, ocs) :: (ck, ock) :: (ct, oct) :: (sd, od) :: (ad, oa) :: (J, oJ) :: T))
    (m1 : m' (Str.ofString "places") = some (.int pl tkk)) (m2 : m' (Str.ofString "requests") = some (.ref l)) (m3 : m' (Str.ofString "after") = some (.ref ad)) (m4 : m' (Str.ofString "choices") = some (.ref D)) (m5 : m' (Str.ofString "much") = some (.int much tm))
    (hT : TObj prog w k oT) (a1 : ∀ b ∈ [I2, cs, ck, ct, sd, ad, J], b ≠ D) (a2 : Tn ≠ D) (a3 : ∀ b ∈ [I2, cs, ck, ct, sd, ad, J], Tn ≠ b) (a4 : ∀ p ∈ T, p.1 ≠ D) (a5 : ∀ p ∈ T, ∀ b ∈ [I2, cs, ck, ct, sd, ad, J], p.1 ≠ b) :
    Mid prog w h₀ L pl tkk l ad I2 cs ck ct sd J oi2 ocs ock oct od oa oJ T [k] much s .next { s with heap := h', toks := tk' } := by
  refine ⟨rfl, h', tk', m', D, c, [.ref Tn], (Tn, oT) :: T, tm, rfl, F, ⟨m1, m2, m3, m4, m5⟩, news_sub N ?_, fun _ h => .tail _ h, .cons (.head _) hT .nil, a1, List.forall_mem_cons.mpr ⟨a2, a4⟩, List.forall_mem_cons.mpr ⟨a3, a5⟩⟩
  intro p hp
  simp only [List.mem_cons] at hp ⊢
  rcases hp with q | q | q | q | q | q | q | q | q | q <;> simp only [q, true_or, or_true]
theorem paired_map {g : Int → List Int} {vs : List Value} {ns : List Int} {ks : List (List Int)} (hi : IntsAre vs ns) (hp : Paired (fun v k => ∀ x u, v = Value.int x u → k = g x) vs ks) : ks = ns.map g := by
  induction hi generalizing ks with
  | nil => cases hp; rfl
  | cons n t _ ih =>
    cases hp with
    | cons a b => rw [List.map_cons, ih b, a n t rfl]
theorem Mid.many {prog : Program} {w : World} {h₀ : Heap} {L : Addr} {pl : Int} {tkk : Tok} {l ad I2 cs ck ct sd J : Addr} {oi2 ocs ock oct od oa oJ : Obj} {T ts : List (Addr × Obj)} {ks : List (List Int)} {zs : List Value} {much : Int} {s : Shared} {h' : Heap} {tk' : Nat} {m' : Str → Option Value} {D : Addr} {c : Nat} {tm : Tok}
    (F : Fr h₀ L h' m') (N : News h₀ L h' ((D, listOf (List.toArray zs) c) :: (ts ++ ([(cs, ocs), (ck, ock), (ct, oct)] ++ ((I2, oi2) :: (sd, od) :: (ad, oa) :: (J, oJ) :: T)))))
    (m1 : m' (Str.ofString "places") = some (.int pl tkk)) (m2 : m' (Str.ofString "requests") = some (.ref l)) (m3 : m' (Str.ofString "after") = some (.ref ad)) (m4 : m' (Str.ofString "choices") = some (.ref D)) (m5 : m' (Str.ofString "much") = some (.int much tm))
    (offD : ∀ p ∈ ts ++ ([(cs, ocs), (ck, ock), (ct, oct)] ++ ((I2, oi2) :: (sd, od) :: (ad, oa) :: (J, oJ) :: T)), p.1 ≠ D) (offn : ∀ q ∈ ts, ∀ p ∈ [(cs, ocs), (ck, ock), (ct, oct)] ++ ((I2, oi2) :: (sd, od) :: (ad, oa) :: (J, oJ) :: T), p.1 ≠ q.1)
    (hca : CA prog w ts zs ks) (a5 : ∀ p ∈ T, ∀ b ∈ [I2, cs, ck, ct, sd, ad, J], p.1 ≠ b) :
    Mid prog w h₀ L pl tkk l ad I2 cs ck ct sd J oi2 ocs ock oct od oa oJ T ks much s .next { s with heap := h', toks := tk' } := by
  refine ⟨rfl, h', tk', m', D, c, zs, ts ++ T, tm, rfl, F, ⟨m1, m2, m3, m4, m5⟩, news_sub N ?_, fun _ h => List.mem_append_right _ h, hca.mono fun _ h => List.mem_append_left _ h, ?_, ?_, ?_⟩
  · intro p hp
    simp only [List.mem_cons, List.mem_append, List.not_mem_nil, or_false, List.cons_append, List.nil_append] at hp ⊢
    rcases hp with q | q | q | q | q | q | q | q | q | q <;> simp only [q, true_or, or_true]
  · intro b hb
    simp only [List.mem_cons, List.not_mem_nil, or_false] at hb
    have hx : ∀ p, p ∈ [(cs, ocs), (ck, ock), (ct, oct)] ++ ((I2, oi2) :: (sd, od) :: (ad, oa) :: (J, oJ) :: T) → p.1 ≠ D := fun p hp => offD p (List.mem_append_right _ hp)
    simp only [List.cons_append, List.nil_append, List.forall_mem_cons] at hx
    obtain ⟨x1, x2, x3, x4, x5, x6, x7, _⟩ := hx
    rcases hb with rfl | rfl | rfl | rfl | rfl | rfl | rfl <;> assumption
  · intro p hp
    rcases List.mem_append.mp hp with hp | hp
    · exact offD p (List.mem_append_left _ hp)
    · exact offD p (List.mem_append_right _ (by simp only [List.cons_append, List.nil_append, List.mem_cons]; simp only [hp, or_true]))
  · intro p hp b hb
    rcases List.mem_append.mp hp with hp | hp
    · simp only [List.mem_cons, List.not_mem_nil, or_false] at hb
      have hx := offn p hp
      simp only [List.cons_append, List.nil_append, List.forall_mem_cons] at hx
      obtain ⟨x1, x2, x3, x4, x5, x6, x7, _⟩ := hx
      rcases hb with rfl | rfl | rfl | rfl | rfl | rfl | rfl <;> exact Ne.symm (by assumption)
    · exact a5 p hp b hb
def InvC (prog : Program) (w : World) (pl : Int) (tkk : Tok) (l ad D : Addr) (tmu : Tok) (much : Int) (oD : Obj) (I2 cs ck ct sd J : Addr) (oi2 ocs ock oct od oJ : Obj) (T : List (Addr × Obj)) (ch : List (List Int)) (acc : SS) (j : Nat) (m : Str → Option Value) (nx : List (Addr × Obj)) : Prop :=
  ∃ oa ys, m (Str.ofString "places") = some (.int pl tkk) ∧ m (Str.ofString "requests") = some (.ref l) ∧ m (Str.ofString "after") = some (.ref ad) ∧ m (Str.ofString "much") = some (.int much tmu) ∧
    nx = (D, oD) :: (I2, oi2) :: (cs, ocs) :: (ck, ock) :: (ct, oct) :: (sd, od) :: (ad, oa) :: (J, oJ) :: T ∧ DT prog w T oa ys ∧ VA ys ((ch.take j).foldl (relax much) acc)
theorem frame_as4 {h₀ h : Heap} {L : Addr} {m : Str → Option Value} {pl mu : Int} {tkk tmu : Tok} {l ad : Addr} (F : Fr h₀ L h m) (h1 : m (Str.ofString "places") = some (.int pl tkk)) (h2 : m (Str.ofString "requests") = some (.ref l)) (h3 : m (Str.ofString "after") = some (.ref ad)) (h4 : m (Str.ofString "much") = some (.int mu tmu)) :
    Fr h₀ L h (fun z => if z = Str.ofString "places" then some (.int pl tkk) else if z = Str.ofString "requests" then some (.ref l) else if z = Str.ofString "after" then some (.ref ad) else if z = Str.ofString "much" then some (.int mu tmu) else m z) := by
  have e : (fun z => if z = Str.ofString "places" then some (.int pl tkk) else if z = Str.ofString "requests" then some (.ref l) else if z = Str.ofString "after" then some (.ref ad) else if z = Str.ofString "much" then some (.int mu tmu) else m z) = m := by
    funext z
    by_cases q : z = Str.ofString "places"
    · rw [if_pos q, q, h1]
    · rw [if_neg q]
      by_cases q2 : z = Str.ofString "requests"
      · rw [if_pos q2, q2, h2]
      · rw [if_neg q2]
        by_cases q3 : z = Str.ofString "after"
        · rw [if_pos q3, q3, h3]
        · rw [if_neg q3]
          by_cases q4 : z = Str.ofString "much"
          · rw [if_pos q4, q4, h4]
          · rw [if_neg q4]
  rw [e]; exact F
theorem frame_as5 {h₀ h : Heap} {L : Addr} {m : Str → Option Value} {pl mu : Int} {tkk tmu : Tok} {l ad D : Addr} (F : Fr h₀ L h m) (h1 : m (Str.ofString "places") = some (.int pl tkk)) (h2 : m (Str.ofString "requests") = some (.ref l)) (h3 : m (Str.ofString "after") = some (.ref ad)) (h5 : m (Str.ofString "choices") = some (.ref D)) (h4 : m (Str.ofString "much") = some (.int mu tmu)) :
    Fr h₀ L h (fun z => if z = Str.ofString "places" then some (.int pl tkk) else if z = Str.ofString "requests" then some (.ref l) else if z = Str.ofString "after" then some (.ref ad) else if z = Str.ofString "much" then some (.int mu tmu) else if z = Str.ofString "choices" then some (.ref D) else m z) := by
  have e : (fun z => if z = Str.ofString "places" then some (.int pl tkk) else if z = Str.ofString "requests" then some (.ref l) else if z = Str.ofString "after" then some (.ref ad) else if z = Str.ofString "much" then some (.int mu tmu) else if z = Str.ofString "choices" then some (.ref D) else m z) = m := by
    funext z
    by_cases q : z = Str.ofString "places"
    · rw [if_pos q, q, h1]
    · rw [if_neg q]
      by_cases q2 : z = Str.ofString "requests"
      · rw [if_pos q2, q2, h2]
      · rw [if_neg q2]
        by_cases q3 : z = Str.ofString "after"
        · rw [if_pos q3, q3, h3]
        · rw [if_neg q3]
          by_cases q4 : z = Str.ofString "much"
          · rw [if_pos q4, q4, h4]
          · rw [if_neg q4]
            by_cases q5 : z = Str.ofString "choices"
            · rw [if_pos q5, q5, h5]
            · rw [if_neg q5]
  rw [e]; exact F
theorem fold_next {α β : Type} {ch : List α} {e : Nat} {kc : α} (hke : ch[e]? = some kc) (f : β → α → β) (b : β) : (ch.take (e + 1)).foldl f b = f ((ch.take e).foldl f b) kc := by
  rw [List.take_add_one, hke, List.foldl_append]; rfl
theorem relax_none {a : SS} {k : List Int} {mu : Int} (h : getS a k = none) : relax mu a k = putS a k mu := by unfold relax; rw [h]
theorem relax_gt {a : SS} {k : List Int} {mu v : Int} (h : getS a k = some v) (g : v > mu) : relax mu a k = putS a k mu := by unfold relax; rw [h]; exact if_pos g
theorem relax_le {a : SS} {k : List Int} {mu v : Int} (h : getS a k = some v) (g : ¬ v > mu) : relax mu a k = a := by unfold relax; rw [h]; exact if_neg g
theorem news_perm5 {h₀ h : Heap} {L : Addr} {a b c d e : Addr × Obj} (N : News h₀ L h [a, b, c, d, e]) : News h₀ L h [e, d, c, a, b] := news_sub N (by
  intro p hp
  simp only [List.mem_cons, List.not_mem_nil, or_false] at hp ⊢
  rcases hp with q | q | q | q | q <;> simp only [q, true_or, or_true])
theorem ne6 {a b c d : Nat} (h1 : a ≠ b) (h2 : a ≠ c) (h3 : a ≠ d) (h4 : b ≠ c) (h5 : b ≠ d) (h6 : c ≠ d) : a ≠ b ∧ a ≠ c ∧ a ≠ d ∧ b ≠ c ∧ b ≠ d ∧ c ≠ d := ⟨h1, h2, h3, h4, h5, h6⟩
theorem offT1 {x a : Nat} {o : Obj} (h : x ≠ a) : ∀ p ∈ [((x : Addr), o)], p.1 ≠ a := fun p hp => by rw [List.mem_singleton.mp hp]; exact h
theorem min_led {prog : Program} {w : World} {A : Around} {E : Value → Shared → Prop} {s : Shared} {h₀ : Heap} {L l : Addr} {m : Str → Option Value} {nx : List (Addr × Obj)} {vs : List Value} {ns : List Int} {c : Nat} {Q : Value → Shared → Prop} (F : Fr h₀ L s.heap m) (N : News h₀ L s.heap nx) (hp : (l, listOf vs.toArray c) ∈ nx) (hi : IntsAre vs ns) (hne : 0 < ns.length) (hh : A.handled = none)
    (h : ∀ h' M (t : Tok) tk, Fr h₀ L h' m → News h₀ L h' nx → M ∈ ns → (∀ a, a ∈ ns → M ≤ a) → Q (.int M t) { s with heap := h', toks := tk }) : wpAny (model prog w) A (call (.builtin "min") [.ref l]) Q E s :=
  kso_min F N ⟨_, (N _ hp).1, rfl, _, rfl⟩ hi hne hh h
theorem frame_as3 {h₀ h : Heap} {L : Addr} {m : Str → Option Value} {pl : Int} {tkk : Tok} {l ad : Addr} (F : Fr h₀ L h m) (h1 : m (Str.ofString "places") = some (.int pl tkk)) (h2 : m (Str.ofString "requests") = some (.ref l)) (h3 : m (Str.ofString "after") = some (.ref ad)) : Fr h₀ L h (fun z => if z = Str.ofString "places" then some (.int pl tkk) else if z = Str.ofString "requests" then some (.ref l) else if z = Str.ofString "after" then some (.ref ad) else m z) := by
  have e : (fun z => if z = Str.ofString "places" then some (.int pl tkk) else if z = Str.ofString "requests" then some (.ref l) else if z = Str.ofString "after" then some (.ref ad) else m z) = m := by
    funext z
    by_cases q : z = Str.ofString "places"
    · rw [if_pos q, q, h1]
    · rw [if_neg q]
      by_cases q2 : z = Str.ofString "requests"
      · rw [if_pos q2, q2, h2]
      · rw [if_neg q2]
        by_cases q3 : z = Str.ofString "after"
        · rw [if_pos q3, q3, h3]
        · rw [if_neg q3]
  rw [e]; exact F
theorem off7 {T : List (Addr × Obj)} {a1 a2 a3 a4 a5 a6 a7 : Addr} (h1 : ∀ p ∈ T, p.1 ≠ a1) (h2 : ∀ p ∈ T, p.1 ≠ a2) (h3 : ∀ p ∈ T, p.1 ≠ a3) (h4 : ∀ p ∈ T, p.1 ≠ a4) (h5 : ∀ p ∈ T, p.1 ≠ a5) (h6 : ∀ p ∈ T, p.1 ≠ a6) (h7 : ∀ p ∈ T, p.1 ≠ a7) :
    ∀ p ∈ T, ∀ b ∈ [a1, a2, a3, a4, a5, a6, a7], p.1 ≠ b := by
  intro p hp b hb
  simp only [List.mem_cons, List.not_mem_nil, or_false] at hb
  rcases hb with rfl | rfl | rfl | rfl | rfl | rfl | rfl
  · exact h1 p hp
  · exact h2 p hp
  · exact h3 p hp
  · exact h4 p hp
  · exact h5 p hp
  · exact h6 p hp
  · exact h7 p hp
theorem offD7 {a1 a2 a3 a4 a5 a6 a7 D : Nat} (h1 : a1 < D) (h2 : a2 < D) (h3 : a3 < D) (h4 : a4 < D) (h5 : a5 < D) (h6 : a6 < D) (h7 : a7 < D) : ∀ b ∈ [a1, a2, a3, a4, a5, a6, a7], b ≠ D := by
  intro b hb
  simp only [List.mem_cons, List.not_mem_nil, or_false] at hb
  omega
theorem offT7 {a1 a2 a3 a4 a5 a6 a7 D : Nat} (h1 : a1 < D) (h2 : a2 < D) (h3 : a3 < D) (h4 : a4 < D) (h5 : a5 < D) (h6 : a6 < D) (h7 : a7 < D) : ∀ b ∈ [a1, a2, a3, a4, a5, a6, a7], D ≠ b := by
  intro b hb
  simp only [List.mem_cons, List.not_mem_nil, or_false] at hb
  omega
theorem allLt_mem {d : Addr} : ∀ {l : List (Addr × Obj)}, AllLt d l → ∀ p ∈ l, p.1 < d
  | [], _, _, h => nomatch h
  | _ :: _, x, p, h => by
    rcases List.mem_cons.mp h with rfl | h
    · exact x.1
    · exact allLt_mem x.2 p h
theorem entry_at {prog : Program} {w : World} {es : Array DictEntry} {xs : List (List Int × Addr × Value)} (h : es.toList = xs.map (entryOfKey (tupleKind (PySem.intKind prog w)))) {j : Nat} {e : DictEntry} (he : es[j]? = some e) : ∃ x, xs[j]? = some x ∧ e = entryOfKey (tupleKind (PySem.intKind prog w)) x := by
  have : es.toList[j]? = some e := by simpa using he
  rw [h, List.getElem?_map] at this
  cases q : xs[j]? with
  | none => rw [q] at this; cases this
  | some x' => rw [q] at this; cases this; exact ⟨x', rfl, rfl⟩
theorem frame_as {h₀ h : Heap} {L : Addr} {m : Str → Option Value} {pl : Int} {tkk : Tok} {l : Addr} (F : Fr h₀ L h m) (h1 : m (Str.ofString "places") = some (.int pl tkk)) (h2 : m (Str.ofString "requests") = some (.ref l)) : Fr h₀ L h (fun z => if z = Str.ofString "places" then some (.int pl tkk) else if z = Str.ofString "requests" then some (.ref l) else m z) := by
  have e : (fun z => if z = Str.ofString "places" then some (.int pl tkk) else if z = Str.ofString "requests" then some (.ref l) else m z) = m := by
    funext z
    by_cases q : z = Str.ofString "places"
    · rw [if_pos q, q, h1]
    · rw [if_neg q]
      by_cases q2 : z = Str.ofString "requests"
      · rw [if_pos q2, q2, h2]
      · rw [if_neg q2]
  rw [e]; exact F
local macro_rules | `(tactic| walk_at "call builtin:min") => `(tactic| (k_here; k_dflt (refine min_led (by k_asm) (by k_asm) (by k_mem) (by assumption) (by assumption) rfl ?_); intro h' M' t' tk' F' N' hM' hM2'))

theorem law_least {prog : Program} {w : World} {p : Program} {loose : List Str} {mean : ExcName → Option Value} {mg mb : Str → Option Value}
  {dp un : Nat} {gd : Option (List Code)} {cn : Str} {cs : Scope} {a : Addr} {ccd : Value} {cl : List (Str × Addr)} {outer : List Env} {A₀ : Around} {base h₀ : Heap} {L : Addr} {m : Str → Option Value} {s : Shared} {Q E : Value → Shared → Prop}
  (B : Below A₀ base outer h₀) (F : Fr h₀ L s.heap m) (X : (hd.heap_39 w.params).In h₀) (T : Top p loose mean mg mb h₀) (hk : cs.kind = .function)
  (hdp : dp + 30 < recursionLimit) (hun : un + 400 < cLine)
  {l : Addr} {vs : List Value} {rs : List Int} {pl : Int} {tkk : Tok}
  (hl : s.heap.IsList l vs.toArray) (hi : IntsAre vs rs) (hlen : rs.length ≤ 10) (hp1 : 1 ≤ pl) (hp4 : pl ≤ 4)
  (ret : ∀ h' tk' M t, Kp [] s.heap h' → M ∈ (finalS pl rs).map (·.2) → (∀ a ∈ (finalS pl rs).map (·.2), M ≤ a) → Q (.int M t) { s with heap := h', toks := tk' }) :
  wpAny (model prog w) (ktrTop dp un gd cn cs L a ccd cl outer) (call (.ref 203) [.int pl tkk, .ref l]) Q E s := by
  have N : News h₀ L s.heap [] := News.nil
  refine wpAny_call ?_
  k_dflt (refine' enter_defC ?k1 ?k2 ?k3 ?k4 ?k5 ?kA ?kF ?kK ?k6 ?k7 ?k8 ?k9 ?kB ?kD ?_ ?c2 ?c3 ?c4; (case kA => exact rfl); (case kF => exact rfl); (case kK => assumption); (case k1 => k_asm); (case k2 => k_asm); (case k3 => k_asm); (case k4 => k_asm); (case k5 => k_asm); (case k6 => k_is); (case k7 => k_is); (case k8 => ktr_room); (case k9 => first | exact BindsTo.of_eq rfl | exact binds_K (by k_in) rfl (by k_is) rfl rfl rfl); (case kB => exact rfl); (case kD => decide +kernel); (case c2 => exact rfl); (case c3 => exact rfl); (case c4 => exact rfl); k_whole; intro g' L' h' tk' cells' FG' F' N' Y' B' X' T' l1 gk'; (try k_lt l1); k_cells Y'; (try simp only [List.cons_append, List.nil_append] at N'); (try dsimp only); (try k_lift B'); (try k_fold))
  have hlg : g'.IsList l vs.toArray := hl.at fun o e => gk' l o (fun x => nomatch x) e
  k_steps
  refine Held.in ?_
  refine dict_unit ?h1 (by k_asm) (by k_asm) (modules_low T'.nolimit) ?h2
  case h1 => ktr_units
  intro h1 tk1 sd od ta ot t F1 N1 l1 l2 lo hTo hD
  k_lt l1
  replace l2 := ltN l2
  (try dsimp only)
  (try k_fold)
  k_steps
  refine Held.in ?_
  refine' wpAny_For ?f1 ?f2
  case f2 => (intro _; rfl)
  k_steps
  refine Held.in ?_
  rename Fr g' L' _ _ => F2
  rename News g' L' _ _ => N2
  refine loop_list (items := vs.toArray) (InvO prog w pl tkk l rs (L' + 1) (L' + 1 + 1) (L' + 1 + 1 + 1)) rfl F2 (news_perm5 N2) ?i0 ?il ?it ?id
  case i0 =>
    exact ⟨sd, od, [([], ta, .int 0 t)], _, _, _, [(ta, ot)], rfl, rfl, rfl, by assumption, ⟨_, by assumption⟩, ⟨_, by assumption⟩, lo, hD, .cons .nil, ne6 (by omega) (by omega) (by omega) (by omega) (by omega) (by omega), offT1 (by omega), offT1 (by omega), offT1 (by omega), offT1 (by omega)⟩
  case il => exact fun i m nx h J F N => hlg.at fun o e => F.keep l o e
  case id =>
    intro m₁ nx h tk hJ F3 N3
    obtain ⟨sd₁, od₁, xs₁, ocs, ock, oct, T₁, hm1, hm2, rfl, hcs, ⟨vk, hck⟩, ⟨vt, hct⟩, lo₁, hD₁, hV₁, ⟨n1, n2, n3, n4, n5, n6⟩, o1, o2, o3, o4⟩ := hJ
    have F4 : Fr g' L' h _ := frame_as F3 hm1 hm2
    have N4 : News g' L' h _ := N3
    clear F3 N3 F2 N2
    (try dsimp only)
    (try k_fold)
    k_steps
    refine Held.in ?_
    have hss : (statesAt pl rs vs.toArray.size) = finalS pl rs := by
      rw [List.size_toArray, IntsAre.length hi]; exact states_last pl rs
    have hnn : 0 < (statesAt pl rs vs.toArray.size).length := by
      rw [List.size_toArray, IntsAre.length hi]; exact List.length_pos_iff.mpr (states_ne hp1 rs _ (Nat.le_refl _))
    have hbb : xs₁.length ≤ 10000000 := by
      rw [hV₁.length, List.size_toArray, IntsAre.length hi]
      have := states_big hp1 hp4 (Nat.le_refl rs.length) hlen
      omega
    refine' ListComp_states (nx := (L' + 1, ocs) :: (L' + 1 + 1, ock) :: (L' + 1 + 1 + 1, oct) :: (sd₁, od₁) :: T₁) (cg := L' + 1) (ocg := ocs) (d := sd₁) (od := od₁) (xs := xs₁) (ss := statesAt pl rs vs.toArray.size) (T := T₁) ?d0 ?d1 ?d2 ?d3 ?d4 ?d5 ?d6 ?d7 ?d8 ?d9 ?da ?db ?dc ?dd ?de ?df ?dg ?dh ?di ?dj ?dk ?dl ?dm
    case d0 => rfl
    case d1 => ktr_units
    case d2 => with_unfolding_all rfl
    case d3 => decide
    case d4 => rfl
    case d5 => decide
    case d6 => rfl
    case d7 => rfl
    case d8 => rfl
    case d9 => decide
    case da => decide
    case db => exact F4
    case dc => exact N4
    case dd => exact .tail _ (.tail _ (.tail _ (.head _)))
    case de => exact lo₁
    case df => exact hD₁
    case dg => exact hV₁
    case dh => exact fun p hp => .tail _ (.tail _ (.tail _ (.tail _ hp)))
    case di => exact hbb
    case dj => exact .head _
    case dk => exact hcs
    case dl => intro Q' hQ'; k_steps; exact hQ'
    case dm =>
      intro h5 tk5 D c zs ns F5 N5 offD hzi hnl hsub hsup
      clear F4 N4
      have hn0 : 0 < ns.length := by rw [hnl]; exact hnn
      (try dsimp only)
      (try k_fold)
      k_steps
      rename Fr g' L' _ _ => F6
      rename _ ∈ ns => hM1
      rename ∀ a, a ∈ ns → _ ≤ a => hM2
      rw [hss] at hsub hsup
      exact ret _ _ _ _ (kp_end (S := []) gk' F6) (hsub _ hM1) (fun a ha => hM2 a (hsup a ha))
  case it =>
    intro i v m₁ nx h tk I oi E₁ hx hJ F3 N3 off
    obtain ⟨sd₁, od₁, xs₁, ocs, ock, oct, T₁, hm1, hm2, rfl, hcs, ⟨vk, hck⟩, ⟨vt, hct⟩, lo₁, hD₁, hV₁, ⟨n1, n2, n3, n4, n5, n6⟩, o1, o2, o3, o4⟩ := hJ
    have hir : i < rs.length := by
      rw [← IntsAre.length hi]
      have := (Array.getElem?_eq_some_iff.mp hx).1
      rwa [List.size_toArray] at this
    obtain ⟨t₁, hv⟩ := hi.get i (rs.getD i 0) (by rw [List.getD_eq_getElem?_getD, List.getElem?_eq_getElem hir]; rfl)
    have hv' : v = .int (rs.getD i 0) t₁ := by simpa [hv] using hx.symm
    subst hv'
    have F4 : Fr g' L' h _ := frame_as F3 hm1 hm2
    have N4 : News g' L' h _ := N3
    clear F3 N3 F2 N2
    simp only [List.forall_mem_cons] at off
    obtain ⟨f1, f2, f3, f4, f5⟩ := off
    refine wpAny_assign_Name ?_
    dsimp only
    (try k_fold)
    k_steps
    refine Held.in ?_
    refine' wpAny_For ?g1 ?g2
    case g2 => (intro _; rfl)
    k_steps
    refine Held.in ?_
    rename Fr g' L' _ _ => F5
    rename News g' L' _ _ => N5
    rename Obj.IsDictOf (PySem.intKind prog w) _ [] => hE0
    rename_i h6 ock2 dck2 ad h7 oa lo2 hs2 fs2 fi2 la h8 v0 h9 lb
    have hA0 : DT prog w T₁ oa [] := DT.ofEmpty hE0
    obtain ⟨hdc₁, ⟨es₁, ep₁, hdd₁, hes₁⟩, hnd₁, hto₁⟩ := id hD₁
    obtain ⟨la1, la2, la3, la4, la5, la6⟩ := la
    have ga : ∀ p ∈ T₁, p.1 ≠ ad := fun p hp q => absurd (allLt_mem la6 p hp) (by rw [q]; exact Nat.lt_irrefl _)
    have N6 : News g' L' h9 ((L' + 1, ocs) :: (L' + 1 + 1, ock2) :: (L' + 1 + 1 + 1, oct) :: (sd₁, od₁) :: (ad, oa) :: (I, oi) :: T₁) := news_sub N5 (by
      intro p hp
      simp only [List.mem_cons] at hp ⊢
      rcases hp with q | q | q | q | q | q | q <;> simp only [q, true_or, or_true])
    refine loop_items (es := es₁) (ep := ep₁) (od := od₁) (d := sd₁) (InvI prog w pl tkk l (rs.getD i 0) (L' + 1) (L' + 1 + 1) (L' + 1 + 1 + 1) sd₁ ad I ocs ock2 od₁ oi xs₁ (statesAt pl rs i)) rfl hdd₁ F5 N6 ?j0 ?jd ⟨_, (N5 (v0, _) (.head _)).1, rfl, rfl⟩ ?jt ?jdone
    case j0 => exact ⟨oct, oa, [], T₁, (if_neg (by decide)).trans (if_pos rfl), (if_neg (by decide)).trans ((if_neg (by decide)).trans (if_pos rfl)), if_pos rfl, rfl, ⟨_, hct⟩, hD₁, hA0, .nil, o1, o2, o3, o4, ga, f5⟩
    case jd => exact fun i m nx hJ => by obtain ⟨_, _, _, _, _, _, _, rfl, _⟩ := hJ; exact .tail _ (.tail _ (.tail _ (.head _)))
    case jdone =>
      clear F5 N6 N5 lb hE0 hs2 fs2 fi2
      intro m₃ nx₃ h₃ tk₃ hJ₃ F22 N22
      obtain ⟨oct₃, oa₃, ys, T₃, a1, a2, a3, rfl, ⟨v3, hct₃⟩, hDs, hDa, hVa, q1, q2, q3, q4, q5, q6⟩ := hJ₃
      have F23 : Fr g' L' h₃ _ := frame_as3 F22 a1 a2 a3
      clear F22
      (try dsimp only)
      (try k_fold)
      k_steps
      rename Fr g' L' _ _ => F24
      rename News g' L' _ _ => N24
      rename_i h7 oc7 dc7
      refine TurnEnd.intro (nx' := (L' + 1, oc7) :: (L' + 1 + 1, ock2) :: (L' + 1 + 1 + 1, oct₃) :: (ad, oa₃) :: T₃) F24 (news_sub N24 ?_) (by simp only [List.forall_mem_cons]; exact ⟨f1, f2, f3, Ne.symm (Nat.ne_of_lt la1), q6⟩) ⟨ad, oa₃, ys, oc7, ock2, oct₃, T₃, rfl, rfl, rfl, dc7, ⟨_, dck2⟩, ⟨_, hct₃⟩, lo2, hDa, ?_, ⟨n1, n2, Nat.ne_of_lt la2, n4, Nat.ne_of_lt la3, Nat.ne_of_lt la4⟩, q1, q2, q3, q5⟩
      · intro p hp
        simp only [List.mem_cons] at hp ⊢
        rcases hp with q | q | q | q | q | q <;> simp only [q, true_or, or_true]
      · rw [states_step hir]
        rw [show es₁.size = (statesAt pl rs i).length by rw [← Array.length_toList, hes₁, List.length_map, hV₁.length], List.take_length] at hVa
        exact hVa
    case jt =>
      clear F5 N6 N5 lb hE0 hs2 fs2 fi2
      intro j e m₂ nx₂ h₂ tk₂ I₂ oi₂ E₂ he hJ₂ F6 N6 off₂
      obtain ⟨oct₂, oa₂, ys, T₂, a1, a2, a3, rfl, ⟨v2, hct₂⟩, hDs, hDa, hVa, q1, q2, q3, q4, q5, q6⟩ := hJ₂
      obtain ⟨x, hx, rfl⟩ := entry_at hes₁ he
      obtain ⟨mi, tm, hxv, hss⟩ := hV₁.at hx
      obtain ⟨ost, host, hTo⟩ := hDs.2.2.2 x (List.mem_of_getElem? hx)
      obtain ⟨st, sa, sv⟩ := x
      dsimp only at hxv hss host hTo
      subst hxv
      have F7 : Fr g' L' h₂ _ := frame_as3 F6 a1 a2 a3
      simp only [List.forall_mem_cons] at off₂
      obtain ⟨b1, b2, b3, b4, b5, b6, b7⟩ := off₂
      dsimp only [entryOfKey]
      refine wpAny_assign_Name ?_
      (try dsimp only)
      (try k_fold)
      walk1
      show wpAny _ _ (assign _ _ _) _ _ _
      refine wpAny_assign_Name ?_
      (try dsimp only)
      (try k_fold)
      walk1
      show wpAny _ _ (execs _ _) _ _ _
      rename Fr g' L' _ _ => F8
      rename News g' L' _ _ => N8
      rename_i oc8 dc8 h8
      have hB := off7 b7 q1 q2 q3 q4 q5 q6
      have hstl : (st.length : Int) ≤ pl := states_ok hp1 rs i (by omega) (st, mi) (List.mem_of_getElem? hss)
      refine wpAny_execs_cons (wpAny_mono (Q := Mid prog w g' L' pl tkk l ad I₂ (L' + 1) (L' + 1 + 1) (L' + 1 + 1 + 1) sd₁ I oi₂ ocs ock2 oc8 od₁ oa₂ oi T₂ (chs pl (rs.getD i 0) st) (cost (rs.getD i 0) st mi) { s with heap := h₂, toks := tk₂ }) ?A ?B fun _ _ e => e)
      case B =>
        intro fl s9 hM
        obtain ⟨rfl, h20, tk20, m20, D, c, zs, T₃, tmu, rfl, F20, ⟨u1, u2, u3, u4, u5⟩, N20, hsubT, hca, offD, offT, offB⟩ := hM
        clear F8 N8 F6 N6 hB b7 q1 q2 q3 q4 q5 q6
        have hDs3 := hDs.mono hsubT
        have hDa3 := hDa.mono hsubT
        have F21 : Fr g' L' h20 _ := frame_as5 F20 u1 u2 u3 u4 u5
        simp only [List.forall_mem_cons] at offD
        obtain ⟨d1, d2, d3, d4, d5, d6, d7, -⟩ := offD
        have ba : ∀ p ∈ T₃, p.1 ≠ ad := fun p hp => offB p hp ad (.tail _ (.tail _ (.tail _ (.tail _ (.tail _ (.head _))))))
        (try dsimp only)
        (try k_fold)
        k_steps
        refine Held.in ?_
        refine' wpAny_For ?w1 ?w2
        case w2 => (intro _; rfl)
        k_steps
        refine Held.in ?_
        refine loop_list (items := zs.toArray) (InvC prog w pl tkk l ad D tmu (cost (rs.getD i 0) st mi) (listOf zs.toArray c) I₂ (L' + 1) (L' + 1 + 1) (L' + 1 + 1 + 1) sd₁ I oi₂ ocs ock2 oc8 od₁ oi T₃ (chs pl (rs.getD i 0) st) (((statesAt pl rs i).take j).foldl (turn1 pl (rs.getD i 0)) [])) rfl F21 N20 ?y0 ?yl ?yt ?yd
        case y0 => exact ⟨oa₂, ys, rfl, rfl, rfl, rfl, rfl, hDa3, hVa⟩
        case yl => exact fun i m nx h hJ F N => by obtain ⟨_, _, _, _, _, _, rfl, _⟩ := hJ; exact ⟨_, (N _ (.head _)).1, rfl, _, rfl⟩
        case yd =>
          intro m₃ nx₃ h₃ tk₃ hJ₃ F22 N22
          obtain ⟨oa₃, ys₃, w1, w2, w3, w4, rfl, hDa₃, hVa₃⟩ := hJ₃
          have F23 : Fr g' L' h₃ _ := frame_as4 F22 w1 w2 w3 w4
          clear F22 F20 F21 N20
          (try dsimp only)
          (try k_fold)
          k_steps
          refine TurnEnd.intro F23 (news_sub N22 ?_) (by simp only [List.forall_mem_cons]; exact ⟨b1, b2, b3, b4, b5, b6, fun p hp => offB p hp I₂ (.head _)⟩) ⟨oc8, oa₃, ys₃, T₃, rfl, rfl, rfl, rfl, ⟨_, dc8⟩, hDs3, hDa₃, ?_, fun p hp => offB p hp _ (.tail _ (.head _)), fun p hp => offB p hp _ (.tail _ (.tail _ (.head _))), fun p hp => offB p hp _ (.tail _ (.tail _ (.tail _ (.head _)))), fun p hp => offB p hp _ (.tail _ (.tail _ (.tail _ (.tail _ (.head _))))), ba, fun p hp => offB p hp _ (.tail _ (.tail _ (.tail _ (.tail _ (.tail _ (.tail _ (.head _)))))))⟩
          · intro p hp; exact .tail _ hp
          · rw [fold_next hss]
            rw [show zs.toArray.size = (chs pl (rs.getD i 0) st).length by rw [List.size_toArray]; exact hca.length, List.take_length] at hVa₃
            exact hVa₃
        case yt =>
          clear F20 F21 N20 u1 u2 u3 u4 u5 hDa hDs hDa3 hVa hct₂
          intro e v m₃ nx₃ h₃ tk₃ I₃ oi₃ E₃ hv hJ₃ F22 N22 off₃
          obtain ⟨oa₃, ys₃, w1, w2, w3, w4, rfl, hDa₃, hVa₃⟩ := hJ₃
          obtain ⟨ac, oc, kc, rfl, hacm, hkc, hke⟩ := hca.at (by simpa using hv)
          have F23 : Fr g' L' h₃ _ := frame_as4 F22 w1 w2 w3 w4
          simp only [List.forall_mem_cons] at off₃
          obtain ⟨z1, z2, z3, z4, z5, z6, z7, z8, z9⟩ := off₃
          have hzz : ys₃.length ≤ 10000000 := by rw [hVa₃.length]; exact choice_big hp1 hp4 (by omega) hlen hstl _ _
          cases hg : getS (((chs pl (rs.getD i 0) st).take e).foldl (relax (cost (rs.getD i 0) st mi)) (((statesAt pl rs i).take j).foldl (turn1 pl (rs.getD i 0)) [])) kc with
          | none =>
            have hat := hVa₃.none hg
            refine wpAny_assign_Name ?_
            (try dsimp only)
            (try k_fold)
            k_steps
            rename DT prog w T₃ _ (storedH _ _ _ _) => hDn
            refine TurnEnd.intro (by assumption) (by assumption) (by simp only [List.forall_mem_cons]; exact ⟨z1, z2, z3, z4, z5, z6, z7, z8, z9⟩) ⟨_, _, rfl, rfl, rfl, rfl, rfl, hDn, ?_⟩
            rw [fold_next hke, relax_none hg]; exact hVa₃.put _ _ _ _
          | some v0 =>
            obtain ⟨aa, tt, hat⟩ := hVa₃.some hg
            refine wpAny_assign_Name ?_
            (try dsimp only)
            (try k_fold)
            k_steps
            · rename DT prog w T₃ _ (storedH _ _ _ _) => hDn
              rename v0 > _ => hgt
              refine TurnEnd.intro (by assumption) (by assumption) (by simp only [List.forall_mem_cons]; exact ⟨z1, z2, z3, z4, z5, z6, z7, z8, z9⟩) ⟨_, _, rfl, rfl, rfl, rfl, rfl, hDn, ?_⟩
              rw [fold_next hke, relax_gt hg hgt]; exact hVa₃.put _ _ _ _
            · rename ¬ v0 > _ => hgt
              refine TurnEnd.intro (by assumption) (by assumption) (by simp only [List.forall_mem_cons]; exact ⟨z1, z2, z3, z4, z5, z6, z7, z8, z9⟩) ⟨_, _, rfl, rfl, rfl, rfl, rfl, hDa₃, ?_⟩
              rw [fold_next hke, relax_le hg hgt]; exact hVa₃
      case A =>
        by_cases hin : rs.getD i 0 ∈ st
        · (try dsimp only)
          (try k_fold)
          k_steps
          refine ⟨rfl, _, _, _, _, _, _, T₂, tm, rfl, by assumption, ⟨rfl, rfl, rfl, rfl, ?cm⟩, by assumption, fun _ h => h, ?ca, ?cb, ?cc, hB⟩
          case cm => rw [show cost (rs.getD i 0) st mi = mi from if_pos hin]; rfl
          case ca => rw [show chs pl (rs.getD i 0) st = [st] from if_pos hin]; exact .cons host hTo .nil
          case cb => exact offD7 (by omega) (by omega) (by omega) (by omega) (by omega) (by omega) (by omega)
          case cc => exact fun p hp => Nat.ne_of_lt (allLt_mem (by (first | assumption | (apply And.right; first | assumption | (apply And.right; first | assumption | (apply And.right; first | assumption | (apply And.right; first | assumption | (apply And.right; first | assumption | (apply And.right; first | assumption | (apply And.right; first | assumption | (apply And.right; first | assumption | (apply And.right; first | assumption | (apply And.right; first | assumption | (apply And.right; first | assumption | (apply And.right; first | assumption | (apply And.right; first | assumption | (apply And.right; assumption)))))))))))))))) p hp)
        · have hc : cost (rs.getD i 0) st mi = mi + 1 := if_neg hin
          (try dsimp only)
          (try k_fold)
          k_steps
          · refine Held.in ?_
            rename News g' L' _ _ => N9
            rename Fr g' L' _ _ => F9
            rename @Eq Int _ pl => hpl
            clear qk ek
            obtain ⟨stv, stn, hoc, hod, hoi⟩ := hTo.split
            have e1 := IntsAre.length hoi
            refine' Assign_ListComp_cellT (nx := [(L' + 1, ocs), (L' + 1 + 1, ock2), (L' + 1 + 1 + 1, oc8)] ++ ((I₂, oi₂) :: (sd₁, od₁) :: (ad, oa₂) :: (I, oi) :: T₂)) (t := sa) (ot := ost) (vs := stv) (n := stn) (fun v k => ∀ g u, v = .int g u → k = srt (st.filter (fun o => decide (o ≠ g)) ++ [rs.getD i 0])) ?b0 ?b1 ?c0 ?c1 ?c2 ?c3 ?c4 ?c5 ?c6 ?b2 ?b3 ?c7 ?c8 ?c9 ?ca ?cb ?cc ?cd ?ce ?cf ?cg
            case b0 => rfl
            case b1 => with_unfolding_all rfl
            case b2 => rfl
            case b3 => rfl
            case c0 => rfl
            case c1 => with_unfolding_all rfl
            case c2 => rfl
            case c3 => decide
            case c4 => exact fun _ _ => rfl
            case c5 => exact fun _ => rfl
            case c6 => rfl
            case c7 => exact F9
            case c8 => refine news_sub N9 ?_; intro p hp; simp only [List.mem_cons, List.mem_append, List.not_mem_nil, or_false, List.cons_append, List.nil_append] at hp ⊢; rcases hp with q | q | q | q | q | q | q | q <;> simp only [q, true_or, or_true]
            case c9 => exact List.mem_append_right _ (.tail _ (.tail _ (.tail _ (.tail _ host))))
            case ca => exact hoc
            case cb => exact hod
            case cc => omega
            case cg => intro _; rfl
            case cd => intro Q' hQ'; k_steps; exact hQ'
            case cf =>
              intro h12 tk12 D c ts zs ks F12 N12 offD offn hca hpa
              clear F9 N9
              have hks := paired_map hoi hpa
              (try dsimp only)
              (try k_fold)
              k_steps
              rw [show chs pl (rs.getD i 0) st = ks from ((if_neg hin).trans (if_pos hpl)).trans hks.symm, hc]
              exact Mid.many F12 N12 rfl rfl rfl rfl rfl offD offn hca hB
            case ce =>
              have m1 : (L' + 1 + 1, ock2) ∈ [(L' + 1, ocs), (L' + 1 + 1, ock2), (L' + 1 + 1 + 1, oc8)] ++ ((I₂, oi₂) :: (sd₁, od₁) :: (ad, oa₂) :: (I, oi) :: T₂) := .tail _ (.head _)
              have m2 : (L' + 1 + 1 + 1, oc8) ∈ [(L' + 1, ocs), (L' + 1 + 1, ock2), (L' + 1 + 1 + 1, oc8)] ++ ((I₂, oi₂) :: (sd₁, od₁) :: (ad, oa₂) :: (I, oi) :: T₂) := .tail _ (.tail _ (.head _))
              have m3 : (sa, ost) ∈ [(L' + 1, ocs), (L' + 1 + 1, ock2), (L' + 1 + 1 + 1, oc8)] ++ ((I₂, oi₂) :: (sd₁, od₁) :: (ad, oa₂) :: (I, oi) :: T₂) := List.mem_append_right _ (.tail _ (.tail _ (.tail _ (.tail _ host))))
              intro C cg ocg v R hh3 tk3 E3 hv hcd F10 N10 hsub
              replace m1 := hsub _ m1
              replace m2 := hsub _ m2
              replace m3 := hsub _ m3
              clear hsub F9 N9
              obtain ⟨gn, gt, rfl⟩ := IntsAre.all hoi v hv
              (try dsimp only)
              (try k_fold)
              k_steps
              refine Held.in ?_
              refine' ListComp_other (nx := (cg, ocg) :: R) (cg := cg) (ocg := ocg) (t := sa) (ot := ost) (g := gn) (tg := gt) (vs := stv) (n := stn) (ns := st) ?d0 ?d1 ?d2 ?d3 ?d4 ?d5 ?d6 ?d7 ?d8 ?d9 ?da ?db ?dc ?dd ?de ?df ?dg ?dh ?di ?dj ?dk ?dl
              case d0 => rfl
              case d1 => with_unfolding_all rfl
              case d2 => decide
              case d3 => rfl
              case d4 => decide
              case d5 => rfl
              case d6 => rfl
              case d7 => rfl
              case d8 => decide
              case d9 => decide
              case da => k_asm
              case db => k_asm
              case dc => exact .tail _ m3
              case dd => exact hoc
              case de => exact hod
              case df => exact hoi
              case dg => omega
              case dh => exact .head _
              case di => exact hcd
              case dj => intro Q' hQ'; k_steps; exact hQ'
              case dl => intro _; rfl
              case dk =>
                intro h11 tk11 D c zs F11 N11 offD hzi
                clear F10 N10
                have hfl : (st.filter fun o => decide (o ≠ gn)).length ≤ st.length := List.length_filter_le _ _
                (try dsimp only)
                (try k_fold)
                k_steps
                rename TObj _ _ (srt _) _ => hTn
                rename News g' _ _ _ => N12
                rename Fr g' _ _ _ => F12
                refine EltEnd.intro F12 N12 ?_ ?_ ?_ hTn
                · intro p hp; simp only [List.mem_cons] at hp ⊢; rcases hp with q | q | q <;> simp only [q, true_or, or_true]
                · exact List.forall_mem_cons.mpr ⟨Nat.ne_of_lt (by omega), fun p hp => Nat.ne_of_lt (allLt_mem (by (first | assumption | (apply And.right; first | assumption | (apply And.right; first | assumption | (apply And.right; first | assumption | (apply And.right; first | assumption | (apply And.right; first | assumption | (apply And.right; first | assumption | (apply And.right; first | assumption | (apply And.right; first | assumption | (apply And.right; first | assumption | (apply And.right; first | assumption | (apply And.right; first | assumption | (apply And.right; first | assumption | (apply And.right; first | assumption | (apply And.right; assumption)))))))))))))))) p hp)⟩
                · intro g u q; injection q with q _; rw [q]
          · rename TObj _ _ (srt _) _ => hTn
            rename News g' L' _ _ => N9
            rename Fr g' L' _ _ => F9
            rw [show chs pl (rs.getD i 0) st = [srt (st ++ [rs.getD i 0])] from (if_neg hin).trans (if_neg (by assumption)), hc]
            exact Mid.one F9 N9 rfl rfl rfl rfl rfl hTn (offD7 (by omega) (by omega) (by omega) (by omega) (by omega) (by omega) (by omega)) (Nat.ne_of_lt (by omega)) (offT7 (by omega) (by omega) (by omega) (by omega) (by omega) (by omega) (by omega)) (fun p hp => Nat.ne_of_lt (allLt_mem (by (first | assumption | (apply And.right; first | assumption | (apply And.right; first | assumption | (apply And.right; first | assumption | (apply And.right; first | assumption | (apply And.right; first | assumption | (apply And.right; first | assumption | (apply And.right; first | assumption | (apply And.right; first | assumption | (apply And.right; first | assumption | (apply And.right; first | assumption | (apply And.right; first | assumption | (apply And.right; first | assumption | (apply And.right; first | assumption | (apply And.right; assumption)))))))))))))))) p hp)) hB
end Mine
end


/-! TH -/
section
open PySem PySem.W PyProof.Rows PySem.Spec PySem.Calls
set_option maxRecDepth 100000
set_option maxHeartbeats 8000000
set_option linter.unusedVariables false
set_option linter.unusedSimpArgs false
namespace Mine
section
variable {prog : Program} {w : World} {A : Around} {E : Value → Shared → Prop} {s : Shared} {h₀ : Heap} {L : Addr} {m : Str → Option Value} {nx : List (Addr × Obj)} {env : Env}

theorem fm4 (a : Int) : 1 + Int.fmod a 4 ≠ 0 := by rw [Int.fmod_eq_emod_of_nonneg _ (by decide)]; omega

/-- a list of ints as the source of a comprehension -/
def ModSrc (h₀ : Heap) (L : Addr) (m : Str → Option Value) (y : Str) (Q : Flow → Shared → Prop) (xv : Value) (s₁ : Shared) : Prop :=
  ∃ ax vs ns c nx, xv = .ref ax ∧ Fr h₀ L s₁.heap m ∧ News h₀ L s₁.heap nx ∧ (ax, listOf (List.toArray vs) c) ∈ nx ∧ IntsAre vs ns ∧ vs.length ≤ 1000 ∧
    ∀ h' tk D c' zs, Fr h₀ L h' (fun z => if z = y then some (.ref D) else m z) → News h₀ L h' ((D, listOf (List.toArray zs) c') :: nx) → (∀ p ∈ nx, p.1 ≠ D) → IntsAre zs (ns.map fun x => Int.fmod x 5) → Q .next { s₁ with heap := h', toks := tk }
theorem ModSrc.intro {y : Str} {Q : Flow → Shared → Prop} {ax : Addr} {vs : List Value} {ns : List Int} {c : Nat} (F : Fr h₀ L s.heap m) (N : News h₀ L s.heap nx) (hm : (ax, listOf (List.toArray vs) c) ∈ nx) (hi : IntsAre vs ns) (hz : vs.length ≤ 1000)
    (h : ∀ h' tk D c' zs, Fr h₀ L h' (fun z => if z = y then some (.ref D) else m z) → News h₀ L h' ((D, listOf (List.toArray zs) c') :: nx) → (∀ p ∈ nx, p.1 ≠ D) → IntsAre zs (ns.map fun x => Int.fmod x 5) → Q .next { s with heap := h', toks := tk }) :
    ModSrc h₀ L m y Q (.ref ax) s := ⟨ax, vs, ns, c, nx, rfl, F, N, hm, hi, hz, h⟩

theorem pair_mod : ∀ {vs ys : List Value} {ns : List Int}, IntsAre vs ns → Paired (fun v y => ∀ n t, v = .int n t → ∃ u, y = .int (Int.fmod n 5) u) vs ys → IntsAre ys (ns.map fun x => Int.fmod x 5)
  | _, _, _, .nil, h => by cases h; exact .nil
  | _, _, _, .cons n t r, h => by
    cases h with
    | cons a b =>
      obtain ⟨u, rfl⟩ := a n t rfl
      exact .cons _ u (pair_mod r b)

theorem Assign_mod5 {iter : Expr} {x y : Str} {p0 p1 p2 px py : Pos} {k0 : Nat} {scope : Scope} {cl : List (Str × Addr)} {pos spos : Pos} {Q : Flow → Shared → Prop} (F₀ : Fr h₀ L s.heap m) (hLe : env.locals = L)
    (hsw : swapsWith (.ListComp (.BinOp (.Name x p0) .Mod (.Constant (.int 5) k0 p1) p2) [⟨.Name x px, iter, [], 0⟩] scope pos) (some (.Name y py)) spos.line env = pure true)
    (hh : A.handled = none) (hclos : closureFor scope env = pure cl) (hcell : ∀ z ∈ scope.names, z.2 ≠ .cell) (hkind : scope.kind = .function)
    (hnames : ∀ z ∈ scope.names, z.2 = .local → scope.names.lookup z.1 = some .local) (hx : scope.names.lookup x = some .local) (hxd : (x == ("__debug__" : Str)) = false)
    (hy : env.kindOf y = some .local) (hp : (env.scope.kind == .class || (env.scope.kind == .module && env.locals != env.globals)) = false)
    (h : wpAny (model prog w) A (eval iter env) (ModSrc h₀ L m y Q) E s)
    (hs : ∀ x, foldedSetIterable iter env x = pure x := by intro _; rfl) :
    wpAny (model prog w) A (exec (.Assign [.Name y py] (.ListComp (.BinOp (.Name x p0) .Mod (.Constant (.int 5) k0 p1) p2) [⟨.Name x px, iter, [], 0⟩] scope pos) spos) env) Q E s := by
  subst hLe
  have hxk : (relabel scope env).names.lookup x = some .local := lookup_relabel_local hx
  refine wpAny_Assign_ListComp_free (fun _ => true) (fun v y => ∀ n t, v = .int n t → ∃ u, y = .int (Int.fmod n 5) u) hsw hclos hcell hkind hnames hx hy hp (wpAny_mono h (fun xv s₁ h₁ => ?_) fun _ _ e => e) hs
  obtain ⟨ax, vs, ns, c, nx, rfl, F, N, hm, hi, hz, hq⟩ := h₁
  have hL : s₁.heap.IsList ax vs.toArray := ⟨_, (N _ hm).1, rfl, _, rfl⟩
  have hlt : ax < s₁.heap.objs.size := Heap.lt_size (N _ hm).1
  refine wpAny_pyIter_list hL ?_
  have up : ∀ b o, s₁.heap.get? b = some o → (s₁.heap.push { cls := .type "list_iterator", data := .fields #[.ref ax, .int 0 0] }).get? b = some o := fun b o e => Heap.get?_push_of_some _ e
  have nI : ∀ b o, s₁.heap.get? b = some o → b ∉ [s₁.heap.objs.size] := fun b o e q => absurd (Heap.lt_size e) (by rw [List.mem_singleton.mp q]; exact Nat.lt_irrefl _)
  refine ⟨_, [s₁.heap.objs.size, ax], [s₁.heap.objs.size], _, _, _, m, rfl, Walks.list hh s₁.heap.objs.size ax (Nat.ne_of_lt hlt) vs.toArray, by rw [List.size_toArray, sizeLine_eq]; omega, ⟨⟨_, Heap.get?_push_size _ rfl, rfl, rfl⟩, hL.push _⟩, fun b hb => ?_, ?_, F.ns.push _, ⟨?_, ?_⟩, ?_⟩
  · show b < (s₁.heap.push _).objs.size
    rw [Heap.size_push]
    rcases List.mem_cons.mp hb with rfl | hb
    · exact Nat.lt_succ_self _
    · rw [List.mem_singleton.mp hb]; exact Nat.lt_succ_of_lt hlt
  · intro q; exact absurd (F.ns.lt) (by rw [List.mem_singleton.mp q]; exact Nat.lt_irrefl _)
  · intro C i v s₃ m₃ E' hC hP hns hm hk _
    exact wpAny_tests_nil ⟨rfl, ⟨_, _, rfl, fun _ _ e => e⟩⟩
  · intro C i v s₃ m₃ E' hC hP hpv hns hm hk _
    obtain ⟨nn, tt, rfl, _⟩ := IntsAre.at hi i v (by simpa using hP)
    refine wpAny_BinOp (wpAny_Name (wpAny_loadName_local hkind hxk hns hm (wpAny_Constant_int (mod_int' (by decide) ⟨?_, ⟨_, _, rfl, fun _ _ e => e⟩⟩))) hxd)
    intro n t e
    injection e with e1 e2
    exact ⟨_, by rw [e1]⟩
  · intro D h' tk ys vs' hD _ hpl hlen hP hF hns' hk
    obtain ⟨c', hD'⟩ := hpl
    have evs : vs' = vs := by
      refine List.ext_getElem? fun j => ?_
      rw [List.size_toArray] at hlen
      rcases Nat.lt_or_ge j vs'.length with q | q
      · have := hP j vs'[j] (by simp [q])
        rw [List.getElem?_eq_getElem q, ← this]; simp
      · rw [List.getElem?_eq_none q, List.getElem?_eq_none (by omega)]
    subst evs
    have hD0 : s₁.heap.get? D = none := by
      cases q : s₁.heap.get? D with
      | none => rfl
      | some o => rw [up _ _ q] at hD; cases hD
    have hL0 : h₀.get? env.locals = none := Heap.get?_none_of_le F.above
    have k' : ∀ b o, b ≠ env.locals → s₁.heap.get? b = some o → h'.get? b = some o := fun b o hb e => hk b o hb (nI _ _ e) (up _ _ e)
    have neD : ∀ b o', s₁.heap.get? b = some o' → b ≠ D := fun b o' e q => by rw [q, hD0] at e; cases e
    obtain ⟨oL, _, _, hoL, _⟩ := F.ns
    refine hq h' tk D c' ys.toList ⟨hns', fun b o e => k' b o (fun q => by rw [q, hL0] at e; cases e) (F.keep b o e), F.above⟩ (fun p hp => ?_) (fun p hp => neD _ _ (N p hp).1) (pair_mod hi ?_)
    · rcases List.mem_cons.mp hp with rfl | hp
      · refine ⟨by rw [Array.toArray_toList]; exact hD', Ne.symm (neD _ _ hoL), ?_⟩
        cases q : h₀.get? D with
        | none => rfl
        | some o' => have := F.keep D o' q; rw [hD0] at this; cases this
      · exact ⟨k' _ _ (N p hp).2.1 (N p hp).1, (N p hp).2⟩
    · rw [List.filter_eq_self.mpr (fun _ _ => rfl)] at hF
      exact hF

theorem fr_view {h : Heap} (F : Fr h₀ L h m) : ∃ m', m' = m ∧ Fr h₀ L h m' := ⟨m, rfl, F⟩
theorem fr_put {h : Heap} {x : Str} {v : Value} (F : Fr h₀ L h m) (e : m x = some v) : Fr h₀ L h (fun z => if z = x then some v else m z) := by
  have q : (fun z => if z = x then some v else m z) = m := by
    funext z
    by_cases h : z = x
    · rw [if_pos h, h, e]
    · rw [if_neg h]
  rw [q]; exact F
theorem places_bound {a p : Int} (h : p = 1 + Int.fmod a 4) : 1 ≤ p ∧ p ≤ 4 := by
  rw [Int.fmod_eq_emod_of_nonneg _ (by decide)] at h; omega
theorem fewer_bound {a p f : Int} (hp : 1 ≤ p) (h : f = 1 + Int.fmod a p) : 1 ≤ f ∧ f ≤ p := by
  rw [Int.fmod_eq_emod_of_nonneg _ (by omega)] at h
  have h1 := Int.emod_nonneg a (show p ≠ 0 by omega)
  have h2 := Int.emod_lt_of_pos a (show 0 < p by omega)
  omega
theorem count_bound (a : Int) : 0 ≤ Int.fmod a 10 ∧ Int.fmod a 10 ≤ 9 := by
  rw [Int.fmod_eq_emod_of_nonneg _ (by decide)]; omega
theorem mod5_all (l : List Int) : ∀ x ∈ l.map (fun x => Int.fmod x 5), 0 ≤ x ∧ x ≤ 4 := by
  intro x hx
  obtain ⟨y, _, rfl⟩ := List.mem_map.mp hx
  rw [Int.fmod_eq_emod_of_nonneg _ (by decide)]; omega
theorem reqs {ns : List Int} {zs : List Value} {k1 k2 c : Nat} (hn : ns.length = 13) (hI : IntsAre zs (((ns.drop k1).take k2).map fun x => Int.fmod x 5)) (h1 : k1 = 3) (h2 : k2 = c) (h3 : c ≤ 10) :
    ∃ rs : List Int, rs.length = c ∧ (∀ x ∈ rs, 0 ≤ x ∧ x ≤ 4) ∧ IntsAre zs rs := by
  subst h1 h2
  refine ⟨_, ?_, mod5_all _, hI⟩
  rw [List.length_map, List.length_take, List.length_drop, hn]; omega
theorem reqs' {ns : List Int} {zs : List Value} {a : Int} (hn : ns.length = 13) (h0 : 0 ≤ a) (h9 : a ≤ 9) (hI : IntsAre zs (((ns.drop 3).take (min (3 + 1 + a).toNat ns.length - 3)).map fun x => Int.fmod x 5)) :
    ∃ rs : List Int, rs.length = (1 + a).toNat ∧ (∀ x ∈ rs, 0 ≤ x ∧ x ≤ 4) ∧ IntsAre zs rs := reqs hn hI rfl (by omega) (by omega)
theorem reqs3 {ns : List Int} {zs : List Value} {k1 k2 : Nat} (hn : ns.length = 13) (hI : IntsAre zs (((ns.drop k1).take k2).map fun x => Int.fmod x 5)) (h1 : k1 = 3) :
    ∃ rs : List Int, rs.length ≤ 10 ∧ (∀ x ∈ rs, 0 ≤ x ∧ x ≤ 4) ∧ IntsAre zs rs := by
  subst h1
  refine ⟨_, ?_, mod5_all _, hI⟩
  rw [List.length_map, List.length_take, List.length_drop, hn]; omega
theorem reqs_k {ns : List Int} {zs : List Value} {k1 k2 : Nat} {P : Prop} (hn : ns.length = 13) (hI : IntsAre zs (((ns.drop k1).take k2).map fun x => Int.fmod x 5)) (h1 : k1 = 3)
    (h : ∀ rs : List Int, rs.length ≤ 10 → (∀ x ∈ rs, 0 ≤ x ∧ x ≤ 4) → IntsAre zs rs → P) : P := let ⟨rs, a, b, c⟩ := reqs3 hn hI h1; h rs a b c
end
end Mine
end


/-! PL -/
section
set_option linter.unusedVariables false
namespace Mine

/-! ## the plain row of the keys asked for last -/
def lruStep (k : Nat) (s : List Int × Int) (key : Int) : List Int × Int :=
  (key :: (s.1.erase key).take (k - 1), if key ∈ s.1 then s.2 else s.2 + 1)
def lru (k : Nat) (rs : List Int) : List Int × Int := rs.foldl (lruStep k) ([], 0)

/-! ## what a reckoned state came from -/
theorem putS_cases {a : SS} {k : List Int} {v : Int} {x : List Int × Int} (h : x ∈ putS a k v) : x = (k, v) ∨ x ∈ a := by
  unfold putS at h
  split at h
  · obtain ⟨y, hy, rfl⟩ := List.mem_map.mp h
    by_cases q : y.1 = k
    · rw [if_pos q, q]; exact .inl rfl
    · rw [if_neg q]; exact .inr hy
  · rcases List.mem_append.mp h with h | h
    · exact .inr h
    · exact .inl (List.mem_singleton.mp h)
theorem relax_cases {mu : Int} {a : SS} {k : List Int} {x : List Int × Int} (h : x ∈ relax mu a k) : x = (k, mu) ∨ x ∈ a := by
  unfold relax at h
  split at h
  · exact putS_cases h
  · split at h
    · exact putS_cases h
    · exact .inr h
theorem fold_relax_cases {mu : Int} {x : List Int × Int} : ∀ {ch : List (List Int)} {a : SS}, x ∈ ch.foldl (relax mu) a → (x.1 ∈ ch ∧ x.2 = mu) ∨ x ∈ a
  | [], a, h => .inr h
  | k :: ch, a, h => by
    rw [List.foldl_cons] at h
    rcases fold_relax_cases h with h | h
    · exact .inl ⟨.tail _ h.1, h.2⟩
    · rcases relax_cases h with q | q
      · left; rw [q]; exact ⟨.head _, rfl⟩
      · exact .inr q
theorem fold_turn_cases {p key : Int} {x : List Int × Int} : ∀ {l a : SS}, x ∈ l.foldl (turn1 p key) a → (∃ y ∈ l, x.1 ∈ chs p key y.1 ∧ x.2 = cost key y.1 y.2) ∨ x ∈ a
  | [], a, h => .inr h
  | y :: l, a, h => by
    rw [List.foldl_cons] at h
    rcases fold_turn_cases h with ⟨z, hz, h⟩ | h
    · exact .inl ⟨z, .tail _ hz, h⟩
    · rcases fold_relax_cases h with h | h
      · exact .inl ⟨y, .head _, h⟩
      · exact .inr h
theorem stepS_from {p key : Int} {ss : SS} {x : List Int × Int} (h : x ∈ stepS p key ss) : ∃ y ∈ ss, x.1 ∈ chs p key y.1 ∧ x.2 = cost key y.1 y.2 := by
  rcases fold_turn_cases h with h | h
  · exact h
  · cases h

/-! ## each choice is kept at least as well -/
theorem getS_put (a : SS) (k : List Int) (v : Int) : getS (putS a k v) k = some v := by
  unfold putS
  split
  · rename_i h
    induction a with
    | nil => simp [getS] at h
    | cons y a ih =>
      simp only [List.map_cons]
      unfold getS at h ih ⊢
      rw [List.find?_cons] at h ⊢
      by_cases q : y.1 = k
      · simp [q]
      · simp only [q, decide_false, if_false] at h ⊢
        exact ih h
  · rename_i h
    unfold getS at h ⊢
    rw [List.find?_append]
    cases e : a.find? (fun x => decide (x.1 = k)) with
    | none => simp
    | some z => rw [e] at h; simp at h
theorem getS_put_ne (a : SS) {k k' : List Int} (v : Int) (hn : k' ≠ k) : getS (putS a k v) k' = getS a k' := by
  unfold putS
  split
  · rename_i hs
    clear hs
    induction a with
    | nil => rfl
    | cons y a ih =>
      simp only [List.map_cons]
      unfold getS at ih ⊢
      rw [List.find?_cons, List.find?_cons]
      by_cases q : y.1 = k
      · have q' : ¬ k = k' := fun e => hn e.symm
        simp only [q, if_true, q', decide_false]
        exact ih
      · simp only [q, if_false]
        by_cases q2 : y.1 = k'
        · simp [q2]
        · simp only [q2, decide_false]; exact ih
  · unfold getS
    rw [List.find?_append]
    have : ¬ k = k' := fun e => hn e.symm
    simp [this]
theorem getS_mem {a : SS} {k : List Int} {v : Int} (h : getS a k = some v) : (k, v) ∈ a := by
  unfold getS at h
  cases e : a.find? (fun x => decide (x.1 = k)) with
  | none => rw [e] at h; cases h
  | some z =>
    rw [e] at h
    have h1 := List.find?_some e
    have h2 := List.mem_of_find?_eq_some e
    simp at h h1
    rw [← h, ← h1]; exact h2
/-- a key that is kept at v or better -/
def Best (a : SS) (k : List Int) (v : Int) : Prop := ∃ u, getS a k = some u ∧ u ≤ v
theorem relax_best {mu : Int} {a : SS} {c k : List Int} {v : Int} (h : Best a k v) : Best (relax mu a c) k v := by
  obtain ⟨u, h1, h2⟩ := h
  unfold relax
  by_cases q : k = c
  · subst q
    rw [h1]
    dsimp only
    split
    · exact ⟨mu, getS_put _ _ _, by omega⟩
    · exact ⟨u, h1, h2⟩
  · split
    · exact ⟨u, (getS_put_ne _ _ q).trans h1, h2⟩
    · split
      · exact ⟨u, (getS_put_ne _ _ q).trans h1, h2⟩
      · exact ⟨u, h1, h2⟩
theorem relax_new (mu : Int) (a : SS) (c : List Int) : Best (relax mu a c) c mu := by
  unfold relax
  split
  · exact ⟨mu, getS_put _ _ _, Int.le_refl _⟩
  · rename_i v e
    split
    · exact ⟨mu, getS_put _ _ _, Int.le_refl _⟩
    · exact ⟨v, e, by omega⟩
theorem fold_relax_best {mu : Int} {k : List Int} {v : Int} : ∀ {ch : List (List Int)} {a : SS}, Best a k v → Best (ch.foldl (relax mu) a) k v
  | [], _, h => h
  | _ :: ch, _, h => fold_relax_best (ch := ch) (relax_best h)
theorem fold_relax_new {mu : Int} {k : List Int} : ∀ {ch : List (List Int)} {a : SS}, k ∈ ch → Best (ch.foldl (relax mu) a) k mu
  | c :: ch, a, h => by
    rw [List.foldl_cons]
    rcases List.mem_cons.mp h with rfl | h
    · exact fold_relax_best (relax_new _ _ _)
    · exact fold_relax_new h
theorem fold_turn_best {p key : Int} {k : List Int} {v : Int} : ∀ {l a : SS}, Best a k v → Best (l.foldl (turn1 p key) a) k v
  | [], _, h => h
  | x :: l, _, h => fold_turn_best (l := l) (fold_relax_best (ch := chs p key x.1) h)
theorem stepS_best {p key : Int} {ss : SS} {x : List Int × Int} {c : List Int} (hx : x ∈ ss) (hc : c ∈ chs p key x.1) : Best (stepS p key ss) c (cost key x.1 x.2) := by
  unfold stepS
  generalize ([] : SS) = a
  induction ss generalizing a with
  | nil => cases hx
  | cons y ss ih =>
    rw [List.foldl_cons]
    rcases List.mem_cons.mp hx with rfl | hx
    · exact fold_turn_best (fold_relax_new hc)
    · exact ih hx _

/-! ## the row is one of the ways: never fewer than the least -/
theorem srt_congr {a b : List Int} (h : a.Perm b) : srt a = srt b := by
  refine (?_ : List.mergeSort a = List.mergeSort b)
  have ha := srt_perm a
  have hb := srt_perm b
  have so : ∀ l : List Int, (srt l).Pairwise (· ≤ ·) := fun l => by
    have := List.pairwise_mergeSort (le := fun a b : Int => decide (a ≤ b)) (fun a b c => by simp; omega) (fun a b => by simp; omega) l
    exact this.imp (by simp)
  exact List.Perm.eq_of_pairwise (le := fun a b : Int => a ≤ b) (fun _ _ _ _ h1 h2 => by omega) (so a) (so b) (ha.trans (h.trans hb.symm))
theorem nodup_erase {l : List Int} (h : l.Nodup) (x : Int) : (l.erase x).Nodup ∧ x ∉ l.erase x := ⟨h.erase x, fun q => by simpa using (h.mem_erase_iff.mp q).1⟩
theorem lru_nodup {k : Nat} {s : List Int × Int} (h : s.1.Nodup) (key : Int) : (lruStep k s key).1.Nodup := by
  obtain ⟨h1, h2⟩ := nodup_erase h key
  exact List.nodup_cons.mpr ⟨fun q => h2 (List.mem_of_mem_take q), h1.sublist (List.take_sublist _ _)⟩
theorem lru_len {k : Nat} (hk : 1 ≤ k) (s : List Int × Int) (key : Int) : (lruStep k s key).1.length ≤ k := by
  simp only [lruStep, List.length_cons, List.length_take]; omega
theorem lru_choice {k : Nat} (hk : 1 ≤ k) {l : List Int} (m : Int) (hn : l.Nodup) (hl : l.length ≤ k) (key : Int) : srt (lruStep k (l, m) key).1 ∈ chs k key (srt l) := by
  have hp := srt_perm l
  have hmem : key ∈ srt l ↔ key ∈ l := hp.mem_iff
  unfold chs lruStep
  dsimp only
  by_cases h : key ∈ l
  · rw [if_pos (hmem.mpr h), List.mem_singleton]
    have hlen := List.length_erase_of_mem h
    rw [List.take_of_length_le (by omega)]
    have : (key :: l.erase key).Perm l := (List.perm_cons_erase h).symm
    exact (srt_congr this)
  · rw [if_neg (fun q => h (hmem.mp q)), List.erase_of_not_mem h, srt_len]
    split
    · rename_i q
      have hlk : l.length = k := by omega
      have hne : l ≠ [] := fun e => by rw [e] at hlk; simp at hlk; omega
      refine List.mem_map.mpr ⟨l.getLast hne, hp.mem_iff.mpr (List.getLast_mem hne), srt_congr ?_⟩
      have e1 : l.take (k - 1) = l.dropLast := by rw [List.dropLast_eq_take, hlk]
      rw [e1]
      have e2 : l.dropLast ++ [l.getLast hne] = l := List.dropLast_concat_getLast hne
      have e3 : (l.filter fun o => decide (o ≠ l.getLast hne)) = l.dropLast := by
        generalize hz : l.getLast hne = z at e2 ⊢
        generalize l.dropLast = d at e2 ⊢
        subst e2
        rw [List.filter_append]
        have hz2 : ∀ x ∈ d, x ≠ z := fun x hx e => by
          have := List.nodup_append.mp hn
          exact this.2.2 x hx z (by simp) e
        rw [List.filter_eq_self.mpr (fun x hx => by simpa using hz2 x hx)]
        simp
      have e4 : ((srt l).filter fun o => decide (o ≠ l.getLast hne)).Perm l.dropLast := by
        have := hp.filter (fun o => decide (o ≠ l.getLast hne))
        rwa [e3] at this
      exact (e4.append_right [key]).trans List.perm_append_comm
    · rename_i q
      rw [List.mem_singleton, List.take_of_length_le (by omega)]
      refine srt_congr ?_
      exact (List.perm_append_comm (l₁ := [key]) (l₂ := l)).trans (hp.symm.append_right [key])
theorem lru_cost {k : Nat} {l : List Int} (m u : Int) (h : u ≤ m) (key : Int) : cost key (srt l) u ≤ (lruStep k (l, m) key).2 := by
  have hmem : key ∈ srt l ↔ key ∈ l := (srt_perm l).mem_iff
  unfold cost lruStep
  dsimp only
  by_cases q : key ∈ l
  · rw [if_pos (hmem.mpr q), if_pos q]; exact h
  · rw [if_neg (fun z => q (hmem.mp z)), if_neg q]; omega
theorem lru_best {k : Nat} (hk : 1 ≤ k) : ∀ (rs : List Int) (ss : SS) (l : List Int) (m : Int), l.Nodup → l.length ≤ k → Best ss (srt l) m →
    Best (rs.foldl (fun s key => stepS k key s) ss) (srt (rs.foldl (lruStep k) (l, m)).1) (rs.foldl (lruStep k) (l, m)).2
  | [], _, _, _, _, _, h => h
  | key :: rs, ss, l, m, hn, hl, ⟨u, h1, h2⟩ => by
    rw [List.foldl_cons, List.foldl_cons]
    obtain ⟨v, h3, h4⟩ := stepS_best (getS_mem h1) (lru_choice hk m hn hl key)
    exact lru_best hk rs _ _ _ (lru_nodup (s := (l, m)) hn key) (lru_len hk _ key) ⟨v, h3, Int.le_trans h4 (lru_cost (k := k) m u h2 key)⟩
/-- never fewer than any way must miss with the same places -/
theorem never_fewer {k : Nat} (hk : 1 ≤ k) (rs : List Int) {M : Int} (h : ∀ a ∈ (finalS k rs).map (·.2), M ≤ a) : M ≤ (lru k rs).2 := by
  obtain ⟨v, h1, h2⟩ := lru_best hk rs [([], 0)] [] 0 List.nodup_nil (Nat.zero_le _) ⟨0, by simp [getS, srt], Int.le_refl _⟩
  exact Int.le_trans (h v (List.mem_map.mpr ⟨_, getS_mem h1, rfl⟩)) h2

/-! ## Sleator and Tarjan, by rows of k misses -/
/-- what holds along a row: lists ahead of the row: W the keys asked for since, O₀ what the other kept at its start, m₀ what it had missed, j the misses within it -/
structure Row (k h : Nat) (l : List Int) (missed : Int) (o : List Int) (m : Int) (W O₀ : List Int) (m₀ : Int) (j c : Nat) : Prop where
  wnd : W.Nodup
  pre : W.length ≤ k → ∃ R, l = W ++ R
  cnt : j + c ≤ W.length ∨ k + 1 ≤ W.length
  one : c ≤ 1
  room : O₀.length + 1 ≤ h + c
  onto : ∀ x ∈ o, x ∈ O₀ ∨ x ∈ W
  fail : ((W.filter fun x => decide (x ∉ O₀)).length : Int) + m₀ ≤ m
  less : j < k
  past : (k - h + 1 : Int) * (missed - j) ≤ k * m₀

theorem chs_mem {p key : Int} {st st' : List Int} (h : st' ∈ chs p key st) : ∀ x ∈ st', x ∈ st ∨ x = key := by
  intro x hx
  unfold chs at h
  split at h
  · rw [List.mem_singleton.mp h] at hx; exact .inl hx
  · split at h
    · obtain ⟨g, hg, rfl⟩ := List.mem_map.mp h
      have := (srt_perm _).mem_iff.mp hx
      rcases List.mem_append.mp this with q | q
      · exact .inl (List.mem_filter.mp q).1
      · exact .inr (List.mem_singleton.mp q)
    · rw [List.mem_singleton.mp h] at hx
      have := (srt_perm _).mem_iff.mp hx
      rcases List.mem_append.mp this with q | q
      · exact .inl q
      · exact .inr (List.mem_singleton.mp q)

theorem sub_len : ∀ {a b : List Int}, a.Nodup → (∀ x ∈ a, x ∈ b) → a.length ≤ b.length
  | [], b, _, _ => Nat.zero_le _
  | x :: a, b, hn, hs => by
    obtain ⟨h1, h2⟩ := List.nodup_cons.mp hn
    have hx := hs x (.head _)
    have := sub_len (b := b.erase x) h2 fun y hy => (List.mem_erase_of_ne (show y ≠ x from fun e => h1 (by rw [← e]; exact hy))).mpr (hs y (.tail _ hy))
    have hl := List.length_erase_of_mem hx
    have hp := List.length_pos_of_mem hx
    rw [List.length_cons]; omega

theorem split_len (W O : List Int) : W.length = (W.filter fun x => decide (x ∉ O)).length + (W.filter fun x => decide (x ∈ O)).length := by
  induction W with
  | nil => rfl
  | cons x W ih =>
    by_cases q : x ∈ O
    · simp [q] at ih ⊢; omega
    · simp [q] at ih ⊢; omega

theorem row_wide {k h : Nat} {l : List Int} {missed : Int} {o : List Int} {m : Int} {W O₀ : List Int} {m₀ : Int} {j c : Nat} (r : Row k h l missed o m W O₀ m₀ j c) : (W.length : Int) + m₀ ≤ m + O₀.length := by
  have h1 := split_len W O₀
  have h2 := sub_len (a := W.filter fun x => decide (x ∈ O₀)) (b := O₀) (r.wnd.sublist List.filter_sublist) fun x hx => by simpa using (List.mem_filter.mp hx).2
  have h3 := r.fail
  omega

/-- one turn, ahead of the row's end -/
theorem row_turn {k h : Nat} {l : List Int} {missed : Int} {o : List Int} {m : Int} {W O₀ : List Int} {m₀ : Int} {j c : Nat} (r : Row k h l missed o m W O₀ m₀ j c) (hk : 1 ≤ k)
    {key : Int} {o' : List Int} (ho : o' ∈ chs h key o) :
    (key :: W.erase key).Nodup ∧ ((key :: W.erase key).length ≤ k → ∃ R, (lruStep k (l, missed) key).1 = (key :: W.erase key) ++ R) ∧
    ((if key ∈ l then j else j + 1) + c ≤ (key :: W.erase key).length ∨ k + 1 ≤ (key :: W.erase key).length) ∧ (∀ x ∈ o', x ∈ O₀ ∨ x ∈ key :: W.erase key) ∧
    ((((key :: W.erase key).filter fun x => decide (x ∉ O₀)).length : Int) + m₀ ≤ cost key o m) := by
  have hn := nodup_erase r.wnd key
  have hperm : key ∈ W → (key :: W.erase key).Perm W := fun q => (List.perm_cons_erase q).symm
  have hmem : ∀ x, x ∈ W → x ∈ key :: W.erase key := fun x hx => by
    by_cases e : x = key
    · rw [e]; exact .head _
    · exact .tail _ ((List.mem_erase_of_ne e).mpr hx)
  have hlen : W.length ≤ (key :: W.erase key).length := by
    by_cases q : key ∈ W
    · rw [(hperm q).length_eq]; exact Nat.le_refl _
    · rw [List.erase_of_not_mem q, List.length_cons]; omega
  refine ⟨List.nodup_cons.mpr ⟨hn.2, hn.1⟩, fun hle => ?_, ?_, fun x hx => ?_, ?_⟩
  · obtain ⟨R, rfl⟩ := r.pre (Nat.le_trans hlen hle)
    rw [List.length_cons] at hle
    by_cases q : key ∈ W
    · refine ⟨R.take (k - 1 - (W.erase key).length), ?_⟩
      rw [lruStep, List.erase_append_left _ q, List.take_append, List.take_of_length_le (by omega)]
      rfl
    · rw [List.erase_of_not_mem q] at hle ⊢
      refine ⟨(R.erase key).take (k - 1 - W.length), ?_⟩
      rw [lruStep, List.erase_append_right _ q, List.take_append, List.take_of_length_le (by omega)]
      rfl
  · rcases r.cnt with q | q
    · by_cases z : key ∈ l
      · rw [if_pos z]; left; omega
      · rw [if_neg z]
        by_cases y : W.length ≤ k
        · obtain ⟨R, rfl⟩ := r.pre y
          have hW : key ∉ W := fun e => z (List.mem_append_left _ e)
          rw [List.erase_of_not_mem hW, List.length_cons]
          left; omega
        · right; omega
    · right; omega
  · rcases chs_mem ho x hx with q | q
    · rcases r.onto x q with q | q
      · exact .inl q
      · exact .inr (hmem x q)
    · rw [q]; exact .inr (.head _)
  · have hf := r.fail
    have hc : m ≤ cost key o m := by unfold cost; split <;> omega
    by_cases q : key ∈ W
    · rw [((hperm q).filter _).length_eq]; omega
    · rw [List.erase_of_not_mem q]
      by_cases z : key ∈ O₀
      · rw [List.filter_cons_of_neg (by simpa using z)]; omega
      · rw [List.filter_cons_of_pos (by simpa using z), List.length_cons]
        have : cost key o m = m + 1 := if_neg fun e => (r.onto key e).elim z q
        omega

theorem chs_has {p key : Int} {st st' : List Int} (h : st' ∈ chs p key st) : key ∈ st' := by
  unfold chs at h
  split at h
  · rw [List.mem_singleton.mp h]; assumption
  · split at h
    · obtain ⟨g, _, rfl⟩ := List.mem_map.mp h
      exact (srt_perm _).mem_iff.mpr (by simp)
    · rw [List.mem_singleton.mp h]
      exact (srt_perm _).mem_iff.mpr (by simp)

def Rowed (k h : Nat) (l : List Int) (missed : Int) (x : List Int × Int) : Prop := (x.1.length : Int) ≤ h ∧ ∃ W O₀ m₀ j c, Row k h l missed x.1 x.2 W O₀ m₀ j c

theorem rowed_start {k h : Nat} (hk : 1 ≤ k) (hh : 1 ≤ h) : Rowed k h [] 0 ([], 0) :=
  ⟨by simp, [], [], 0, 0, 0, ⟨List.nodup_nil, fun _ => ⟨[], rfl⟩, .inl (by simp), by omega, by simp; omega, by simp, by simp, hk, by simp⟩⟩

theorem rowed_turn {k h : Nat} {l : List Int} {missed : Int} {x : List Int × Int} (hk : 1 ≤ k) (hh : 1 ≤ h) (r : Rowed k h l missed x) {key : Int} {o' : List Int} (ho : o' ∈ chs h key x.1) :
    Rowed k h (lruStep k (l, missed) key).1 (lruStep k (l, missed) key).2 (o', cost key x.1 x.2) := by
  obtain ⟨hx, W, O₀, m₀, j, c, r⟩ := r
  have hle := chs_ok (p := (h : Int)) (by omega) hx _ ho
  refine ⟨hle, ?_⟩
  obtain ⟨t1, t2, t3, t4, t5⟩ := row_turn r hk ho
  have hless := r.less
  have hm : (lruStep k (l, missed) key).2 - ((if key ∈ l then j else j + 1 : Nat) : Int) = missed - j := by
    unfold lruStep
    by_cases q : key ∈ l
    · rw [if_pos q, if_pos q]
    · rw [if_neg q, if_neg q]; omega
  generalize (lruStep k (l, missed) key).2 = M at hm ⊢
  generalize hj : (if key ∈ l then j else j + 1) = j' at t3 hm
  have hj' : j' ≤ k := by
    rw [← hj]; split <;> omega
  have hp := r.past
  rw [← hm] at hp
  rcases Nat.lt_or_ge j' k with q | q
  · exact ⟨_, O₀, m₀, j', c, ⟨t1, t2, t3, r.one, r.room, t4, t5, q, hp⟩⟩
  · refine ⟨[key], o', cost key x.1 x.2, 0, 1, ⟨by simp, fun _ => ⟨_, rfl⟩, .inl (by simp), Nat.le_refl _, by omega, fun y hy => .inl hy, ?_, by omega, ?_⟩⟩
    · rw [List.filter_cons_of_neg (by simpa using chs_has ho)]; simp
    · have hw := split_len (key :: W.erase key) O₀
      have hs := sub_len (a := (key :: W.erase key).filter fun x => decide (x ∈ O₀)) (b := O₀) (t1.sublist List.filter_sublist) fun x hx => by simpa using (List.mem_filter.mp hx).2
      have h1 := r.one
      have h2 := r.room
      have ek : j' = k := by omega
      subst ek
      have hbig : m₀ + (j' - h + 1) ≤ cost key x.1 x.2 := by omega
      generalize cost key x.1 x.2 = m' at hbig ⊢
      have h3 := Int.mul_le_mul_of_nonneg_left hbig (show (0 : Int) ≤ (j' : Int) by omega)
      rw [Int.mul_add] at h3
      rw [Int.mul_sub] at hp
      have h4 : (j' - h + 1 : Int) * j' = j' * (j' - h + 1) := Int.mul_comm _ _
      rw [h4] at hp
      rw [show M - ((0 : Nat) : Int) = M by omega]
      generalize (j' : Int) * (j' - h + 1) = u at h3 hp
      generalize (j' - h + 1 : Int) * M = v at hp ⊢
      omega

theorem rowed_end {k h : Nat} {l : List Int} {missed : Int} {x : List Int × Int} (hh : 1 ≤ h) (hhk : h ≤ k) (r : Rowed k h l missed x) : (k - h + 1 : Int) * missed ≤ k * x.2 + (k - h + 1) * h := by
  obtain ⟨hx, W, O₀, m₀, j, c, r⟩ := r
  have hw := row_wide r
  have h1 := r.one
  have h2 := r.room
  have h3 := r.fail
  have h4 := r.less
  have h5 := r.cnt
  have hp := r.past
  have hm : m₀ ≤ x.2 := by omega
  have hj : m₀ + (j + 1 - h) ≤ x.2 := by omega
  generalize x.2 = m at hm hj ⊢
  rw [Int.mul_sub] at hp
  have hb : (0 : Int) ≤ k - h + 1 := by omega
  rcases Nat.lt_or_ge h j with q | q
  · have g1 := Int.mul_le_mul_of_nonneg_left hj (show (0 : Int) ≤ k by omega)
    rw [Int.mul_add] at g1
    have g2 : (k - h + 1 : Int) * (j - h) ≤ k * (j + 1 - h) := Int.mul_le_mul (by omega) (by omega) (by omega) (by omega)
    rw [Int.mul_sub] at g2
    omega
  · have g1 := Int.mul_le_mul_of_nonneg_left hm (show (0 : Int) ≤ k by omega)
    have g2 : (k - h + 1 : Int) * j ≤ (k - h + 1) * h := Int.mul_le_mul_of_nonneg_left (by omega) hb
    omega

theorem rowed_all {k h : Nat} (hk : 1 ≤ k) (hh : 1 ≤ h) : ∀ (rs : List Int) (ss : SS) (l : List Int) (missed : Int), (∀ x ∈ ss, Rowed k h l missed x) →
    ∀ x ∈ rs.foldl (fun s key => stepS h key s) ss, Rowed k h (rs.foldl (lruStep k) (l, missed)).1 (rs.foldl (lruStep k) (l, missed)).2 x
  | [], _, _, _, H => H
  | key :: rs, ss, l, missed, H => by
    rw [List.foldl_cons, List.foldl_cons]
    refine rowed_all hk hh rs _ _ _ fun x hx => ?_
    obtain ⟨y, hy, h1, h2⟩ := stepS_from hx
    have := rowed_turn hk hh (H y hy) h1
    rw [← h2] at this
    exact this
/-- Sleator and Tarjan -/
theorem no_more {k h : Nat} (hh : 1 ≤ h) (hhk : h ≤ k) (rs : List Int) {M : Int} (hM : M ∈ (finalS h rs).map (·.2)) : (k - h + 1 : Int) * (lru k rs).2 ≤ k * M + (k - h + 1) * h := by
  obtain ⟨x, hx, rfl⟩ := List.mem_map.mp hM
  refine rowed_end hh hhk (rowed_all (by omega) hh rs [([], 0)] [] 0 (fun y hy => ?_) x hx)
  rw [List.mem_singleton.mp hy]
  exact rowed_start (by omega) hh
end Mine
end


/-! CK -/
section
open PySem PySem.W PyProof.Rows PySem.Spec PySem.Calls
set_option maxRecDepth 100000
set_option maxHeartbeats 8000000
set_option linter.unusedVariables false
set_option linter.unusedSimpArgs false
namespace Mine
example : (fun (_ : OpenLaw) (_ : Params → Frag) => True) PySem.Challenge.rw_ft5003_01 hd.heap_39 := by k_fill; trivial

/-! ## pairs of a dict -/
theorem valueAt_put {kvs : List (Int × Value)} {k : Int} {v : Value} (h : valueAt kvs k = none) (j : Int) : valueAt (stored kvs k v) j = if k = j then some v else valueAt kvs j := by
  rw [stored_absent h]
  unfold valueAt at h ⊢
  rw [List.find?_append]
  by_cases q : k = j
  · subst q
    rw [Option.map_eq_none_iff] at h
    simp [h]
  · simp [q]
theorem valueAt_set {kvs : List (Int × Value)} {k : Int} {v : Value} (j : Int) : valueAt (stored kvs k v) j = if k = j then some v else valueAt kvs j := by
  cases e : valueAt kvs k with
  | none => exact valueAt_put e j
  | some u =>
    have hs : (kvs.any fun kv => decide (kv.1 = k)) = true := by rw [← valueAt_isSome_eq_any, e]; rfl
    unfold stored
    rw [if_pos hs]
    clear hs
    induction kvs with
    | nil => cases e
    | cons x r ih =>
      unfold valueAt at e ih ⊢
      rw [List.find?_cons] at e
      rw [List.map_cons, List.find?_cons]
      by_cases q : x.1 = k
      · by_cases q2 : k = j
        · simp [q, q2]
        · have q3 : ¬ x.1 = j := fun z => q2 (q.symm.trans z)
          simp only [q, if_true, q2, decide_false, if_false]
          rw [List.find?_cons]
          simp only [q3, decide_false]
          clear ih e
          induction r with
          | nil => rfl
          | cons y r ih =>
            rw [List.map_cons, List.find?_cons, List.find?_cons]
            by_cases q4 : y.1 = k
            · have q5 : ¬ y.1 = j := fun z => q2 (q4.symm.trans z)
              simp only [q4, if_true, q2, decide_false] at ih ⊢
              exact ih
            · simp only [q4, if_false] at ih ⊢
              by_cases q6 : y.1 = j
              · simp [q6]
              · simp only [q6, decide_false]; exact ih
      · simp only [q, decide_false, if_false] at e ⊢
        by_cases q2 : x.1 = j
        · have q3 : ¬ k = j := fun z => q (q2.trans z.symm)
          rw [List.find?_cons]
          simp [q2, q3]
        · simp only [q2, decide_false]
          rw [List.find?_cons]
          simp only [q2, decide_false]
          exact ih e
theorem stored_le (kvs : List (Int × Value)) (k : Int) (v : Value) : (stored kvs k v).length ≤ kvs.length + 1 := stored_length_le kvs k v
theorem valueAt_without {kvs : List (Int × Value)} {k : Int} (j : Int) : valueAt (without kvs k) j = if k = j then none else valueAt kvs j := by
  unfold valueAt without
  induction kvs with
  | nil => simp
  | cons x r ih =>
    rw [List.filter_cons, List.find?_cons]
    by_cases q : x.1 = k
    · simp only [q, ne_eq, not_true_eq_false, decide_false, Bool.false_eq_true, if_false]
      rw [ih]
      by_cases q2 : k = j
      · simp [q2]
      · simp [q2]
    · simp only [ne_eq, q, not_false_eq_true, decide_true, if_true]
      rw [List.find?_cons]
      by_cases q2 : x.1 = j
      · have : ¬ k = j := fun z => q (q2.trans z.symm)
        simp [q2, this]
      · simp only [q2, decide_false]; exact ih
theorem without_len {kvs : List (Int × Value)} (hn : (kvs.map (·.1)).Nodup) {k : Int} {v : Value} (h : valueAt kvs k = some v) : (without kvs k).length + 1 = kvs.length := by
  induction kvs with
  | nil => cases h
  | cons x r ih =>
    rw [List.map_cons, List.nodup_cons] at hn
    unfold valueAt at h ih
    unfold without at ih ⊢
    rw [List.find?_cons] at h
    rw [List.filter_cons]
    by_cases q : x.1 = k
    · subst q
      simp only [ne_eq, not_true_eq_false, decide_false, Bool.false_eq_true, if_false, List.length_cons]
      have := without_of_not_mem r x.1 hn.1
      unfold without at this
      simp only [ne_eq] at this
      rw [this]
    · simp only [q, decide_false] at h
      simp only [ne_eq, q, not_false_eq_true, decide_true, if_true, List.length_cons]
      rw [← ih hn.2 h]

/-! ## the cache and its list -/
structure CacheOk (prog : Program) (w : World) (pn : Nat) (l : List Nd) (o : Obj) (kvs : List (Int × Value)) : Prop where
  dict : o.IsDictOf (PySem.intKind prog w) kvs
  keys : (l.map (·.k)).Nodup
  size : l.length ≤ pn
  small : pn ≤ 4
  len : kvs.length = l.length
  own : ∀ n ∈ l, valueAt kvs n.k = some (.ref n.a)
  all : ∀ k, (valueAt kvs k).isSome = true → k ∈ l.map (·.k)

theorem CacheOk.at {prog : Program} {w : World} {pn : Nat} {l : List Nd} {o : Obj} {kvs : List (Int × Value)} (C : CacheOk prog w pn l o kvs) (k : Int) : (valueAt kvs k).isSome = decide (k ∈ l.map (·.k)) := by
  by_cases q : k ∈ l.map (·.k)
  · obtain ⟨n, hn, rfl⟩ := List.mem_map.mp q
    rw [C.own n hn, decide_eq_true q]; rfl
  · rw [decide_eq_false q]
    cases e : (valueAt kvs k).isSome with
    | false => rfl
    | true => exact absurd (C.all k e) q
theorem CacheOk.miss {prog : Program} {w : World} {pn : Nat} {l : List Nd} {o : Obj} {kvs : List (Int × Value)} (C : CacheOk prog w pn l o kvs) {k : Int} (h : k ∉ l.map (·.k)) : valueAt kvs k = none := by
  have := C.at k
  rw [decide_eq_false h] at this
  cases e : valueAt kvs k with
  | none => rfl
  | some v => rw [e] at this; cases this
theorem CacheOk.moved {prog : Program} {w : World} {pn : Nat} {pr po : List Nd} {n : Nd} {o : Obj} {kvs : List (Int × Value)} (C : CacheOk prog w pn (pr ++ n :: po) o kvs) : CacheOk prog w pn (n :: (pr ++ po)) o kvs := by
  have hp : (pr ++ n :: po).Perm (n :: (pr ++ po)) := List.perm_middle
  have hm : ∀ x, x ∈ n :: (pr ++ po) ↔ x ∈ pr ++ n :: po := fun x => hp.mem_iff.symm
  have hk := hp.map (·.k)
  exact ⟨C.dict, hk.nodup_iff.mp C.keys, by rw [← hp.length_eq]; exact C.size, C.small, by rw [← hp.length_eq]; exact C.len, fun x hx => C.own x ((hm x).mp hx), fun k h => hk.mem_iff.mp (C.all k h)⟩
theorem CacheOk.room {prog : Program} {w : World} {pn : Nat} {l : List Nd} {o o' : Obj} {kvs : List (Int × Value)} (C : CacheOk prog w pn l o kvs) {n : Nd} (h : n.k ∉ l.map (·.k)) (hl : l.length < pn) (hd : o'.IsDictOf (PySem.intKind prog w) (stored kvs n.k (.ref n.a))) : CacheOk prog w pn (n :: l) o' (stored kvs n.k (.ref n.a)) := by
  have hv := C.miss h
  refine ⟨hd, List.nodup_cons.mpr ⟨h, C.keys⟩, hl, C.small, by rw [stored_len hv, List.length_cons, C.len], fun x hx => ?_, fun k hk => ?_⟩
  · rw [valueAt_set]
    rcases List.mem_cons.mp hx with rfl | hx
    · rw [if_pos rfl]
    · rw [if_neg (fun q => h (by rw [q]; exact List.mem_map_of_mem hx))]; exact C.own x hx
  · rw [valueAt_set] at hk
    by_cases q : n.k = k
    · rw [← q]; exact .head _
    · rw [if_neg q] at hk; exact .tail _ (C.all k hk)
theorem nodup_of_dict {prog : Program} {w : World} {o : Obj} {kvs : List (Int × Value)} (h : o.IsDictOf (PySem.intKind prog w) kvs) : (kvs.map (·.1)).Nodup := keysNodup_of_isDictOf h
theorem nodup_stored {kvs : List (Int × Value)} {k : Int} {v : Value} (hn : (kvs.map (·.1)).Nodup) (h : valueAt kvs k = none) : ((stored kvs k v).map (·.1)).Nodup := by
  rw [stored_absent h, List.map_append]
  refine List.nodup_append.mpr ⟨hn, by simp, fun a ha b hb e => ?_⟩
  simp at hb
  subst hb; subst e
  obtain ⟨x, hx, rfl⟩ := List.mem_map.mp ha
  unfold valueAt at h
  rw [Option.map_eq_none_iff, List.find?_eq_none] at h
  exact h x hx (by simp)
theorem CacheOk.full {prog : Program} {w : World} {pn : Nat} {l : List Nd} {z : Nd} {o o' : Obj} {kvs : List (Int × Value)} (C : CacheOk prog w pn (l ++ [z]) o kvs) {n : Nd} (h : n.k ∉ (l ++ [z]).map (·.k)) (hl : (l ++ [z]).length = pn) (hd : o'.IsDictOf (PySem.intKind prog w) (without (stored kvs n.k (.ref n.a)) z.k)) :
    CacheOk prog w pn (n :: l) o' (without (stored kvs n.k (.ref n.a)) z.k) := by
  have hv := C.miss h
  have hzm : z ∈ l ++ [z] := by simp
  have hnz : ¬ n.k = z.k := fun q => h (by rw [q]; exact List.mem_map_of_mem hzm)
  have hkn := C.keys
  rw [List.map_append, List.nodup_append] at hkn
  have hzl : ∀ x ∈ l, ¬ z.k = x.k := fun x hx q => hkn.2.2 x.k (List.mem_map_of_mem hx) z.k (by simp) q.symm
  rw [List.length_append, List.length_singleton] at hl
  have hwl := without_len (nodup_stored (v := .ref n.a) (nodup_of_dict C.dict) hv) (k := z.k) (v := .ref z.a) (by rw [valueAt_set, if_neg hnz]; exact C.own z hzm)
  rw [stored_len hv, C.len, List.length_append, List.length_singleton] at hwl
  refine ⟨hd, List.nodup_cons.mpr ⟨fun q => h (by rw [List.map_append]; exact List.mem_append_left _ q), hkn.1⟩, by rw [List.length_cons]; omega, C.small, by rw [List.length_cons]; omega, fun x hx => ?_, fun k hk => ?_⟩
  · rw [valueAt_without, valueAt_set]
    rcases List.mem_cons.mp hx with rfl | hx
    · rw [if_neg (Ne.symm hnz), if_pos rfl]
    · rw [if_neg (hzl x hx), if_neg (fun q => h (by rw [q]; exact List.mem_map_of_mem (List.mem_append_left _ hx)))]
      exact C.own x (List.mem_append_left _ hx)
  · rw [valueAt_without, valueAt_set] at hk
    by_cases q : z.k = k
    · rw [if_pos q] at hk; cases hk
    · rw [if_neg q] at hk
      by_cases q2 : n.k = k
      · rw [← q2]; exact .head _
      · rw [if_neg q2] at hk
        have := C.all k hk
        rw [List.map_append] at this
        rcases List.mem_append.mp this with a | a
        · exact .tail _ a
        · simp at a; exact absurd a.symm q

/-! ## get and add, whatever the cache holds -/
/-- what get hands back, and the list behind it -/
def Told (k : Int) (l : List Nd) (v : Value) (l' : List Nd) : Prop :=
  (∃ pr n po, l = pr ++ n :: po ∧ n.k = k ∧ v = n.v ∧ l' = n :: (pr ++ po)) ∨ (k ∉ l.map (·.k) ∧ v = .none ∧ l' = l)

theorem addrs_mid (pr po : List Nd) (n : Nd) : (addrs (n :: (pr ++ po))).Perm (addrs (pr ++ n :: po)) := by
  simp only [addrs, addrs_append]
  refine List.perm_iff_count.mpr fun x => ?_
  simp only [List.count_cons, List.count_append]; omega
theorem split_key {l : List Nd} {k : Int} (h : k ∈ l.map (·.k)) : ∃ pr n po, l = pr ++ n :: po ∧ n.k = k := by
  obtain ⟨n, hn, rfl⟩ := List.mem_map.mp h
  obtain ⟨pr, po, rfl⟩ := List.append_of_mem hn
  exact ⟨pr, n, po, rfl, rfl⟩

theorem get_any {prog : Program} {w : World} {p : Program} {loose : List Str} {mean : ExcName → Option Value} {mg mb : Str → Option Value}
  {dp un : Nat} {gd : Option (List Code)} {cn : Str} {cs : Scope} {a : Addr} {ccd : Value} {cl : List (Str × Addr)} {outer : List Env} {A₀ : Around} {base h₀ : Heap} {L : Addr} {m : Str → Option Value} {s : Shared} {Q E : Value → Shared → Prop}
  (B : Below A₀ base outer h₀) (F : Fr h₀ L s.heap m) (X : (hd.heap_39 w.params).In h₀) (T : Top p loose mean mg mb h₀) (hk : cs.kind = .function)
  (hdp : dp + 20 < recursionLimit) (hun : un + 200 < cLine)
  {q : Mt} {c dc cd : Addr} {o : Obj} {kvs : List (Int × Value)} {mx ac : Value} {k : Int} {tkk : Tok} {pn : Nat} {l : List Nd}
  (ND : (c :: dc :: cd :: addrs l).Nodup) (C : CacheOk prog w pn l o kvs) (lo : (cd == sysModules) = false) (hnv : ∀ n ∈ l, handedIn n.v = true)
  (N : News h₀ L s.heap (cacheLed c dc cd q o l mx ac))
  (ret : ∀ h' tk' v l', Kp (c :: dc :: cd :: addrs l) s.heap h' → News h₀ L h' (cacheLed c dc cd q o l' mx ac) → CacheOk prog w pn l' o kvs → (addrs l').Perm (addrs l) → Told k l v l' → Q v { s with heap := h', toks := tk' }) :
  wpAny (model prog w) (ktrTop dp un gd cn cs L a ccd cl outer) (call (.ref 116) [.ref c, .int k tkk]) Q E s := by
  by_cases hm : k ∈ l.map (·.k)
  · obtain ⟨pr, n, po, rfl, rfl⟩ := split_key hm
    have hn : n ∈ pr ++ n :: po := List.mem_append_right _ (.head _)
    refine get_hit B F X T hk hdp hun ND C.dict lo (C.own n hn) (fun x hx => C.own x (List.mem_append_right _ (.tail _ hx))) (hnv n hn) N fun h' tk' K N' => ret h' tk' n.v _ K N' C.moved (addrs_mid pr po n) (.inl ⟨pr, n, po, rfl, rfl, rfl, rfl⟩)
  · refine get_miss (c := c) (dc := dc) (cd := cd) (mru := hr l) (lru := lr .none l) (mx := mx) (ac := ac) (q := q) B F X T hk hdp hun (nd_of ND fun x => ?_) C.dict lo (C.miss hm) (news_sub N ?_) fun h' tk' K => ret h' tk' .none l (K.mono (by simp)) (fun p hp => ⟨K _ _ (by simp) (N p hp).1, (N p hp).2⟩) C (.refl _) (.inr ⟨hm, rfl, rfl⟩)
    · simp only [List.count_cons, List.count_nil]; omega
    · intro p hp
      simp only [cacheLed, List.mem_cons, List.not_mem_nil, or_false] at hp ⊢
      rcases hp with q | q | q <;> simp only [q, true_or, or_true]

theorem take_all {l : List Nd} {pn : Nat} (h : l.length < pn) : l.take (pn - 1) = l := List.take_of_length_le (by omega)

theorem add_any {prog : Program} {w : World} {p : Program} {loose : List Str} {mean : ExcName → Option Value} {mg mb : Str → Option Value}
  {dp un : Nat} {gd : Option (List Code)} {cn : Str} {cs : Scope} {a : Addr} {ccd : Value} {cl : List (Str × Addr)} {outer : List Env} {A₀ : Around} {base h₀ : Heap} {L : Addr} {m : Str → Option Value} {s : Shared} {Q E : Value → Shared → Prop}
  (B : Below A₀ base outer h₀) (F : Fr h₀ L s.heap m) (X : (hd.heap_39 w.params).In h₀) (T : Top p loose mean mg mb h₀) (hk : cs.kind = .function)
  (hdp : dp + 20 < recursionLimit) (hun : un + 200 < cLine)
  {q : Mt} {c dc cd : Addr} {o : Obj} {kvs : List (Int × Value)} {v : Value} {mx ac k : Int} {tmx tac tkk : Tok} {pn : Nat} {l : List Nd}
  (ND : (c :: dc :: cd :: addrs l).Nodup) (C : CacheOk prog w pn l o kvs) (lo : (cd == sysModules) = false) (hp1 : 1 ≤ pn) (hmx : mx = pn) (hac : ac = pn) (hm : k ∉ l.map (·.k))
  (N : News h₀ L s.heap (cacheLed c dc cd q o l (.int mx tmx) (.int ac tac)))
  (ret : ∀ h' tk' n o' kvs', n.k = k → n.v = v → s.heap.get? n.a = none → s.heap.get? n.d = none → (c :: dc :: cd :: addrs (n :: l.take (pn - 1))).Nodup → CacheOk prog w pn (n :: l.take (pn - 1)) o' kvs' → Kp (c :: dc :: cd :: addrs l) s.heap h' →
     News h₀ L h' (cacheLed c dc cd q o' (n :: l.take (pn - 1)) (.int mx tmx) (.int ac tac)) → Q .none { s with heap := h', toks := tk' }) :
  wpAny (model prog w) (ktrTop dp un gd cn cs L a ccd cl outer) (call (.ref 101) [.ref c, .int k tkk, v]) Q E s := by
  have hz : kvs.length ≤ 60 := by have := C.len; have := C.size; have := C.small; omega
  rcases Nat.lt_or_ge l.length pn with hl | hl
  · rw [take_all hl] at ret
    refine add_lt B F X T hk hdp hun ND C.dict lo hz (C.miss hm) (by rw [C.len, hmx]; omega) N fun h' tk' n o' e1 _ e3 e4 e5 nd hd K N' => ?_
    subst e1
    exact ret h' tk' n o' _ rfl e3 e4 e5 nd (C.room hm hl hd) K N'
  · have hlen : l.length = pn := Nat.le_antisymm C.size hl
    rcases List.eq_nil_or_concat l with rfl | ⟨l, z, rfl⟩
    · simp at hlen; omega
    rw [List.concat_eq_append] at *
    have ht : (l ++ [z]).take (pn - 1) = l := by
      rw [List.length_append, List.length_singleton] at hlen
      rw [List.take_append_of_le_length (by omega), List.take_of_length_le (by omega)]
    rw [ht] at ret
    have hzm : z ∈ l ++ [z] := by simp
    have hnz : ¬ k = z.k := fun q => hm (by rw [q]; exact List.mem_map_of_mem hzm)
    have hvz : ∀ b, valueAt (stored kvs k (.ref b)) z.k = some (.ref z.a) := fun b => by rw [valueAt_set, if_neg hnz]; exact C.own z hzm
    refine add_full B F X T hk hdp hun ND C.dict lo hz (C.miss hm) (by rw [C.len, hmx, hlen]) (hmx.trans hac.symm) hvz (fun b => without_len (nodup_stored (nodup_of_dict C.dict) (C.miss hm)) (hvz b)) N fun h' tk' n o' e1 _ e3 e4 e5 nd hd K N' => ?_
    subst e1
    exact ret h' tk' n o' _ rfl e3 e4 e5 nd (C.full hm hlen hd) K N'
end Mine
end


/-! CI -/
section
open PySem PySem.W PyProof.Rows PySem.Spec PySem.Calls
set_option maxRecDepth 100000
set_option maxHeartbeats 8000000
set_option linter.unusedVariables false
set_option linter.unusedSimpArgs false
namespace Mine
example : (fun (_ : OpenLaw) (_ : Params → Frag) => True) PySem.Challenge.rw_ft5003_01 hd.heap_39 := by k_fill; trivial
local macro_rules | `(tactic| k_enter) => `(tactic| (refine' code_def ?k1 ?k2 ?k3 ?k4 ?k5 ?kA ?kF ?kK ?k6 ?k7 ?k8 ?k9 ?kB ?_ ?c2 ?c3 ?c4 ?c5; (case kA => exact rfl); (case kF => exact rfl); (case kK => first | exact rfl | assumption); (case k1 => k_asm); (case k2 => k_asm); (case k3 => k_asm); (case k4 => k_asm); (case k5 => k_asm); (case k6 => k_is); (case k7 => k_is); (case k8 => ktr_room); (case k9 => first | exact BindsTo.of_eq rfl | exact binds_K (by k_in) rfl (by k_is) rfl rfl rfl); (case c5 => decide); (case kB => exact locs rfl); (case c2 => exact rfl); (case c3 => exact rfl); (case c4 => exact rfl); k_whole; intro g' L' h' FG' F' N' B' X' T'; (try dsimp only); (try k_lift B'); (try k_fold)))
local macro_rules | `(tactic| k_units) => `(tactic| first | exact Nat.le_of_ble_eq_true rfl | ktr_units)
local macro_rules | `(tactic| walk_at "compareOp In int ref") => `(tactic| (k_here; k_dflt (refine kda_in (knd := PySem.intKind _ _) (by k_asm) (by k_mem) (by k_asm) (by assumption) (intKind_is _ _ _ _) _ (by assumption) ?_)))
local macro_rules | `(tactic| walk_at "call builtin:len") => `(tactic| (k_here; (with_reducible show wpAny _ _ (call (Value.builtin "len") [Value.ref _]) _ _ _); k_dflt (refine kda_len (knd := PySem.intKind _ _) (by k_asm) (by k_mem) (by k_asm) (by assumption) (by omega) ?_)))

theorem contains_any {prog : Program} {w : World} {p : Program} {loose : List Str} {mean : ExcName → Option Value} {mg mb : Str → Option Value}
  {dp un : Nat} {gd : Option (List Code)} {cn : Str} {cs : Scope} {a : Addr} {ccd : Value} {cl : List (Str × Addr)} {outer : List Env} {A₀ : Around} {base h₀ : Heap} {L : Addr} {m : Str → Option Value} {s : Shared} {Q E : Value → Shared → Prop}
  (B : Below A₀ base outer h₀) (F : Fr h₀ L s.heap m) (X : (hd.heap_39 w.params).In h₀) (T : Top p loose mean mg mb h₀) (hk : cs.kind = .function)
  (hdp : dp + 20 < recursionLimit) (hun : un + 200 < cLine)
  {q : Mt} {c dc cd : Addr} {o : Obj} {kvs : List (Int × Value)} {mru lru mx ac : Value} {k : Int} {tkk : Tok} {b : Bool} {R : List (Addr × Obj)}
  (hd : o.IsDictOf (PySem.intKind prog w) kvs) (lo : (cd == sysModules) = false) (hb : (valueAt kvs k).isSome = b)
  (N : News h₀ L s.heap ((c, instObj 189 dc) :: (dc, cacheD q cd mru lru mx ac) :: (cd, o) :: R))
  (ret : ∀ h' tk', Fr h₀ L h' m → News h₀ L h' ((c, instObj 189 dc) :: (dc, cacheD q cd mru lru mx ac) :: (cd, o) :: R) → Q (.bool b) { s with heap := h', toks := tk' }) :
  wpAny (model prog w) (ktrTop dp un gd cn cs L a ccd cl outer) (compareOp .In (.int k tkk) (.ref c)) Q E s := by
  k_steps
  exact ret _ _ (by assumption) (by assumption)
theorem len_any {prog : Program} {w : World} {p : Program} {loose : List Str} {mean : ExcName → Option Value} {mg mb : Str → Option Value}
  {dp un : Nat} {gd : Option (List Code)} {cn : Str} {cs : Scope} {a : Addr} {ccd : Value} {cl : List (Str × Addr)} {outer : List Env} {A₀ : Around} {base h₀ : Heap} {L : Addr} {m : Str → Option Value} {s : Shared} {Q E : Value → Shared → Prop}
  (B : Below A₀ base outer h₀) (F : Fr h₀ L s.heap m) (X : (hd.heap_39 w.params).In h₀) (T : Top p loose mean mg mb h₀) (hk : cs.kind = .function)
  (hdp : dp + 20 < recursionLimit) (hun : un + 200 < cLine)
  {q : Mt} {c dc cd : Addr} {o : Obj} {kvs : List (Int × Value)} {mru lru mx ac : Value} {R : List (Addr × Obj)}
  (hd : o.IsDictOf (PySem.intKind prog w) kvs) (lo : (cd == sysModules) = false) (hz : kvs.length ≤ 60)
  (N : News h₀ L s.heap ((c, instObj 189 dc) :: (dc, cacheD q cd mru lru mx ac) :: (cd, o) :: R))
  (ret : ∀ h' tk' t, Fr h₀ L h' m → News h₀ L h' ((c, instObj 189 dc) :: (dc, cacheD q cd mru lru mx ac) :: (cd, o) :: R) → Q (.int kvs.length t) { s with heap := h', toks := tk' }) :
  wpAny (model prog w) (ktrTop dp un gd cn cs L a ccd cl outer) (call (.builtin "len") [.ref c]) Q E s := by
  k_steps
  exact ret _ _ _ (by assumption) (by assumption)
end Mine
end


/-! TI -/
section
open PySem PySem.W PyProof.Rows PySem.Spec PySem.Calls
set_option maxRecDepth 100000
set_option maxHeartbeats 8000000
set_option linter.unusedVariables false
set_option linter.unusedSimpArgs false
namespace Mine
section
variable {prog : Program} {w : World} {A : Around} {E : Value → Shared → Prop} {s : Shared} {env : Env} {h₀ : Heap} {m₀ : Str → Option Value} {news : List (Addr × Obj)} {R : Result → Shared → Prop} {body : List Stmt}

theorem loop_range {target : Expr} {r : Addr} {n : Nat} {t u v : Tok} (Inv : Nat → (Str → Option Value) → List (Addr × Obj) → Prop)
    (hh : A.handled = none) (F : Fr h₀ env.locals s.heap m₀) (N : News h₀ env.locals s.heap news) (h0 : Inv 0 m₀ news)
    (hr : IsRange s.heap r 0 (n : Int) 1 t u v) (hn : n ≤ 1000)
    (turn : ∀ i m₁ nx h tk I oi (E : Value → Shared → Prop), i < n → Inv i m₁ nx → Fr h₀ env.locals h m₁ → News h₀ env.locals h ((I, oi) :: nx) → (∀ p ∈ nx, p.1 ≠ I) →
      wpAny (model prog w) A (assign target env (.int (i : Int) tk)) (fun _ s₂ => wpAny (model prog w) A (execs body env) (TurnEnd h₀ env.locals (Inv (i + 1)) I oi s) E s₂) E { s with heap := h, toks := tk + 1 })
    (done : ∀ m₁ nx h tk, Inv n m₁ nx → Fr h₀ env.locals h m₁ → News h₀ env.locals h nx → R (.ok .next) { s with heap := h, toks := tk })
    (ht : ∀ it v, letOwnedTupleGo target it v = pure () := by intro _ _; rfl) :
    wpAny (model prog w) A (pyIter (.ref r)) (fun it s₂ => codeAny (model prog w) A (.forLoop target it body [] env) R s₂) E s := by
  have hsz : Builtin.Range.rangeSize 0 (n : Int) 1 = n := by rw [rangeSize_one]; split <;> omega
  refine wpAny_pyIter_range hr (small_one (by omega) (by omega) (by omega) (by omega)) ?_
  rw [hsz]
  have hI0 : s.heap.objs.size ≠ env.locals := Nat.ne_of_gt F.ns.lt
  have hIn : h₀.get? s.heap.objs.size = none := fresh_base F (size_none _)
  refine codeAny_forLoop (fun k s' => ∃ h' tk' m' nx i, s' = { s with heap := h', toks := tk' } ∧ i ≤ n ∧ k = n - i ∧ Inv i m' nx ∧ Fr h₀ env.locals h' m' ∧ News h₀ env.locals h' nx ∧ (∀ p ∈ nx, p.1 ≠ s.heap.objs.size) ∧ IsRangeIter h' s.heap.objs.size (i : Int) ((n : Int) - i) 1) ?_ n
    ⟨_, s.toks, m₀, news, 0, rfl, Nat.zero_le _, rfl, h0, F.push _, fun p hp => ⟨Heap.get?_push_of_some _ (N p hp).1, (N p hp).2⟩, off_size N, (by
      show (s.heap.push _).get? s.heap.objs.size = some _
      rw [Heap.get?_push_size _ rfl]
      simp)⟩ (ht _)
  rintro k s' ⟨h', tk', m', nx, i, rfl, hi, rfl, hJ, F', N', off, hit⟩
  have keepF : ∀ h'' : Heap, (∀ b o, b ≠ s.heap.objs.size → h'.get? b = some o → h''.get? b = some o) → Fr h₀ env.locals h'' m' ∧ News h₀ env.locals h'' nx := fun h'' hk =>
    ⟨⟨F'.ns.at' fun o e => hk _ o (Ne.symm hI0) e, fun b o e => hk b o (fun q => by rw [q, hIn] at e; cases e) (F'.keep b o e), F'.above⟩, fun p hp => ⟨hk _ _ (off p hp) (N' p hp).1, (N' p hp).2⟩⟩
  by_cases hlt : i < n
  · refine wpAny_pyNext_range_item hit (by omega) fun h'' hit'' hs => ?_
    obtain ⟨F'', N''⟩ := keepF h'' fun b o hb e => hs.extBut b o hb e
    refine wpAny_mono (turn i m' nx h'' tk' _ { cls := .type "range_iterator", dict := none, data := .fields #[rawInt ((i : Int) + 1), rawInt ((n : Int) - i - 1), rawInt 1], slots := #[] } _ hlt hJ F'' (fun p hp => ?_) off) (fun _ s₂ h₂ => wpAny_mono h₂ (fun f s₃ h₃ => ?_) fun _ _ e => e) fun _ _ e => e
    · rcases List.mem_cons.mp hp with rfl | hp
      · exact ⟨hit'', hI0, hIn⟩
      · exact N'' p hp
    · obtain ⟨rfl, h3, tk3, m3, nx3, rfl, F3, N3, off3, J3⟩ := h₃
      refine ⟨_, Nat.sub_lt_sub_left hlt (Nat.lt_succ_self i), h3, tk3, m3, nx3, i + 1, rfl, hlt, rfl, J3, F3, fun p hp => N3 p (.tail _ hp), off3, ?_⟩
      have z := (N3 _ (.head _)).1
      rw [show ((i + 1 : Nat) : Int) = (i : Int) + 1 by omega, show (n : Int) - ((i : Int) + 1) = (n : Int) - i - 1 by omega]
      exact z
  · have hin : i = n := by omega
    subst hin
    refine wpAny_pyNext_range_end hh hit (by omega) fun h'' hs => wpAny_execs_nil ?_
    obtain ⟨F'', N''⟩ := keepF h'' hs
    exact done m' nx h'' tk' hJ F'' N''

/-- a test that has said no -/
def TestNo (h₀ : Heap) (L : Addr) (m : Str → Option Value) (s : Shared) (all : List (Addr × Obj)) (ok : Bool) (s' : Shared) : Prop :=
  ok = false ∧ ∃ h' tk', s' = { s with heap := h', toks := tk' } ∧ Fr h₀ L h' m ∧ News h₀ L h' all
theorem TestNo.intro {h₀ : Heap} {L : Addr} {m : Str → Option Value} {s : Shared} {all big : List (Addr × Obj)} {h' : Heap} {tk' : Nat} {ok : Bool} (hok : ok = false) (F : Fr h₀ L h' m) (N : News h₀ L h' big) (hs : ∀ p ∈ all, p ∈ big) : TestNo h₀ L m s all ok { s with heap := h', toks := tk' } :=
  ⟨hok, h', tk', rfl, F, fun p hp => N p (hs p hp)⟩
open LCg LCt
theorem rest_none {L : Addr} {m : Str → Option Value} {ct elt : Expr} {x : Str} {scope : Scope} {cl : List (Str × Addr)} {S : List (Addr × Obj) → Prop} {P : Nat → Value → Prop} {Fin : List Value → List (Addr × Obj) → Prop} {n : Nat} (hS : S news)
    (turn : ∀ i v I oI C oC D m₂ h tk (E' : Value → Shared → Prop), i < n → P i v → NsObj oC m₂ → m₂ x = some v → Fr h₀ L h m → News h₀ L h ((I, oI) :: (C, oC) :: (D, lst []) :: news) → Off3 I C D news → ((@Ne Nat I C) ∧ (@Ne Nat I D) ∧ (@Ne Nat C D)) →
      wpAny (model prog w) A (isTrue ct (compEnvC scope cl C env) (eval ct (compEnvC scope cl C env))) (TestNo h₀ L m s ((I, oI) :: (C, oC) :: (D, lst []) :: news)) E' { s with heap := h, toks := tk })
    (fin : Fin [] news) : ∀ k i, i + k = n → CompRestT prog w A h₀ L m env ct elt x scope cl s S P Fin k i [] news
  | 0, _, _ => CompRestT.zero fin
  | k + 1, i, e => by
    refine CompRestT.succ fun v I oI C oC D m₂ h tk E' hv hC hx F N off ne => ?_
    refine wpAny_mono (turn i v I oI C oC D m₂ h tk E' (by omega) hv hC hx F N off ne) (fun ok s' ht => ?_) fun _ _ e => e
    obtain ⟨rfl, h', tk', rfl, F', N'⟩ := ht
    simp only [Bool.false_eq_true, if_false]
    exact CompEnd.intro F' N' news (fun _ h => h) off hS (rest_none hS turn fin k (i + 1) (by omega))

theorem in_lst {L : Addr} {l : Addr} {vs : List Value} {ns : List Int} {k : Int} {t : Tok} {c : Nat} {b : Bool} {Q : Value → Shared → Prop} (N : News h₀ L s.heap news) (hm : (l, listOf vs.toArray c) ∈ news) (hi : IntsAre vs ns) (hb : decide (k ∈ ns) = b)
    (h : Q (.bool b) s) : wpAny (model prog w) A (compareOp .In (.int k t) (.ref l)) Q E s := by
  refine in_list_ints (hl := ⟨_, (N _ hm).1, rfl, _, rfl⟩) (hi := hi) ?_
  have : ns.any (· == k) = b := by
    rw [← hb]
    by_cases q : k ∈ ns
    · rw [decide_eq_true q]; exact List.any_eq_true.mpr ⟨k, q, by simp⟩
    · rw [decide_eq_false q, List.any_eq_false]; exact fun y hy e => q (by simp at e; exact e ▸ hy)
  rw [this]; exact h
end
end Mine
end


/-! TJ -/
section
open PySem PySem.W PyProof.Rows PySem.Spec PySem.Calls
set_option maxRecDepth 100000
set_option maxHeartbeats 8000000
set_option linter.unusedVariables false
set_option linter.unusedSimpArgs false
namespace Mine

/-! ## plain: the row, the least -/
theorem lru_bound (k : Nat) : ∀ (rs : List Int) (l : List Int) (m : Int), m ≤ (rs.foldl (lruStep k) (l, m)).2 ∧ (rs.foldl (lruStep k) (l, m)).2 ≤ m + rs.length
  | [], l, m => by simp
  | key :: rs, l, m => by
    rw [List.foldl_cons]
    have h := lru_bound k rs (lruStep k (l, m) key).1 (lruStep k (l, m) key).2
    have e : lruStep k (l, m) key = ((lruStep k (l, m) key).1, (lruStep k (l, m) key).2) := rfl
    rw [e]
    have : m ≤ (lruStep k (l, m) key).2 ∧ (lruStep k (l, m) key).2 ≤ m + 1 := by
      unfold lruStep; dsimp only; split <;> omega
    rw [List.length_cons]; omega
theorem lru_bounds (k : Nat) (rs : List Int) : 0 ≤ (lru k rs).2 ∧ (lru k rs).2 ≤ rs.length := by
  have := lru_bound k rs [] 0
  unfold lru; omega
theorem lru_step {k : Nat} {rs : List Int} {i : Nat} (h : i < rs.length) : lru k (rs.take (i + 1)) = lruStep k (lru k (rs.take i)) (rs.getD i 0) := by
  unfold lru
  rw [List.take_add_one, List.getElem?_eq_getElem h, List.foldl_append]
  simp [List.getD_eq_getElem?_getD, List.getElem?_eq_getElem h]
theorem final_bound (p : Int) : ∀ (rs : List Int) (ss : SS) (b : Int), (∀ x ∈ ss, 0 ≤ x.2 ∧ x.2 ≤ b) → ∀ x ∈ rs.foldl (fun s key => stepS p key s) ss, 0 ≤ x.2 ∧ x.2 ≤ b + rs.length
  | [], ss, b, h, x, hx => by simpa using h x hx
  | key :: rs, ss, b, h, x, hx => by
    rw [List.foldl_cons] at hx
    have := final_bound p rs (stepS p key ss) (b + 1) (fun y hy => by
      obtain ⟨z, hz, _, e⟩ := stepS_from hy
      have := h z hz
      rw [e]; unfold cost; split <;> omega) x hx
    rw [List.length_cons]; omega
theorem final_bounds {p : Int} {rs : List Int} {M : Int} (h : M ∈ (finalS p rs).map (·.2)) : 0 ≤ M ∧ M ≤ rs.length := by
  obtain ⟨x, hx, rfl⟩ := List.mem_map.mp h
  have := final_bound p rs [([], 0)] 0 (fun y hy => by rw [List.mem_singleton.mp hy]; simp) x hx
  omega

section
variable {h₀ h : Heap} {L : Addr} {m : Str → Option Value}
theorem fr_as5 {x1 x2 x3 x4 x5 : Str} {v1 v2 v3 v4 v5 : Value} (F : Fr h₀ L h m) (e1 : m x1 = some v1) (e2 : m x2 = some v2) (e3 : m x3 = some v3) (e4 : m x4 = some v4) (e5 : m x5 = some v5) :
    Fr h₀ L h (fun z => if z = x1 then some v1 else if z = x2 then some v2 else if z = x3 then some v3 else if z = x4 then some v4 else if z = x5 then some v5 else m z) := by
  have e : (fun z => if z = x1 then some v1 else if z = x2 then some v2 else if z = x3 then some v3 else if z = x4 then some v4 else if z = x5 then some v5 else m z) = m := by
    funext z
    repeat' (split; (first | (rename_i q; rw [q]; first | exact e1.symm | exact e2.symm | exact e3.symm | exact e4.symm | exact e5.symm)))
    rfl
  rw [e]; exact F
theorem fr_as7 {x1 x2 x3 x4 x5 x6 x7 : Str} {v1 v2 v3 v4 v5 v6 v7 : Value} (F : Fr h₀ L h m) (e1 : m x1 = some v1) (e2 : m x2 = some v2) (e3 : m x3 = some v3) (e4 : m x4 = some v4) (e5 : m x5 = some v5) (e6 : m x6 = some v6) (e7 : m x7 = some v7) :
    Fr h₀ L h (fun z => if z = x1 then some v1 else if z = x2 then some v2 else if z = x3 then some v3 else if z = x4 then some v4 else if z = x5 then some v5 else if z = x6 then some v6 else if z = x7 then some v7 else m z) := by
  have e : (fun z => if z = x1 then some v1 else if z = x2 then some v2 else if z = x3 then some v3 else if z = x4 then some v4 else if z = x5 then some v5 else if z = x6 then some v6 else if z = x7 then some v7 else m z) = m := by
    funext z
    repeat' (split; (first | (rename_i q; rw [q]; first | exact e1.symm | exact e2.symm | exact e3.symm | exact e4.symm | exact e5.symm | exact e6.symm | exact e7.symm)))
    rfl
  rw [e]; exact F
theorem fr_as8 {x1 x2 x3 x4 x5 x6 x7 x8 : Str} {v1 v2 v3 v4 v5 v6 v7 v8 : Value} (F : Fr h₀ L h m) (e1 : m x1 = some v1) (e2 : m x2 = some v2) (e3 : m x3 = some v3) (e4 : m x4 = some v4) (e5 : m x5 = some v5) (e6 : m x6 = some v6) (e7 : m x7 = some v7) (e8 : m x8 = some v8) :
    Fr h₀ L h (fun z => if z = x1 then some v1 else if z = x2 then some v2 else if z = x3 then some v3 else if z = x4 then some v4 else if z = x5 then some v5 else if z = x6 then some v6 else if z = x7 then some v7 else if z = x8 then some v8 else m z) := by
  have e : (fun z => if z = x1 then some v1 else if z = x2 then some v2 else if z = x3 then some v3 else if z = x4 then some v4 else if z = x5 then some v5 else if z = x6 then some v6 else if z = x7 then some v7 else if z = x8 then some v8 else m z) = m := by
    funext z
    repeat' (split; (first | (rename_i q; rw [q]; first | exact e1.symm | exact e2.symm | exact e3.symm | exact e4.symm | exact e5.symm | exact e6.symm | exact e7.symm | exact e8.symm)))
    rfl
  rw [e]; exact F
end

/-! ## the state between two statements of a turn -/
def MidP (h₀ : Heap) (L : Addr) (s : Shared) (P : (Str → Option Value) → List (Addr × Obj) → Prop) (fl : Flow) (s' : Shared) : Prop :=
  fl = .next ∧ ∃ h' tk' m' nx', s' = ⟨h', s.gens, s.drawn, tk', s.os⟩ ∧ Fr h₀ L h' m' ∧ News h₀ L h' nx' ∧ P m' nx'
theorem MidP.intro {h₀ : Heap} {L : Addr} {s : Shared} {P : (Str → Option Value) → List (Addr × Obj) → Prop} {h' : Heap} {tk' : Nat} {m' : Str → Option Value} {big : List (Addr × Obj)} (nx' : List (Addr × Obj))
    (F : Fr h₀ L h' m') (N : News h₀ L h' big) (hs : ∀ p ∈ nx', p ∈ big) (j : P m' nx') : MidP h₀ L s P .next ⟨h', s.gens, s.drawn, tk', s.os⟩ := ⟨rfl, h', tk', m', nx', rfl, F, fun p hp => N p (hs p hp), j⟩

/-- each node's value and the one that was noted: two lists of the same ints -/
def Vals (l : List Nd) (T : List (Addr × Obj)) (kvs : List (Int × Value)) : Prop :=
  ∀ n ∈ l, ∃ va vb j t1 t2 t3 t4 c1 c2, n.v = .ref va ∧ (va, listOf [.int n.k t1, .int j t2].toArray c1) ∈ T ∧ valueAt kvs n.k = some (.ref vb) ∧ (vb, listOf [.int n.k t3, .int j t4].toArray c2) ∈ T

/-- what is fixed ahead of the loop -/
structure Fx where
  pn : Nat
  p : Int
  f : Int
  tp : Tok
  tf : Tok
  ar : Addr
  zs : List Value
  c7 : Nat
  ce : Addr
  ca : Addr
  c : Addr
  dc : Addr
  cd : Addr
  q : Mt
  tmx : Tok
  tac : Tok

def ledL (x : Fx) (X : List (Addr × Obj)) (ol oc ov o : Obj) (vd la : Addr) (lvs : List Value) (nl : Nat) (l : List Nd) (T : List (Addr × Obj)) : List (Addr × Obj) :=
  X ++ ((x.ce, ol) :: (x.ca, oc) :: (vd, ov) :: (la, listOf lvs.toArray nl) :: (x.ar, listOf x.zs.toArray x.c7) :: (x.c, instObj 189 x.dc) :: (x.dc, cacheD x.q x.cd (hr l) (lr .none l) (.int x.p x.tmx) (.int x.p x.tac)) :: (x.cd, o) :: (seg .none .none l ++ T))

structure Co (prog : Program) (w : World) (x : Fx) (X : List (Addr × Obj)) (ol oc ov o : Obj) (vd la : Addr) (lvs : List Value) (lns : List Int) (nl : Nat) (l : List Nd) (ckv kvs : List (Int × Value)) (M : Int) (tM : Tok) (T : List (Addr × Obj)) (i : Nat) (m : Str → Option Value) (nx : List (Addr × Obj)) : Prop where
  m1 : m (Str.ofString "requests") = some (.ref x.ar)
  m2 : m (Str.ofString "places") = some (.int x.p x.tp)
  m3 : m (Str.ofString "fewer") = some (.int x.f x.tf)
  m4 : m (Str.ofString "values") = some (.ref vd)
  m5 : m (Str.ofString "missed") = some (.int M tM)
  led : nx = ledL x X ol oc ov o vd la lvs nl l T
  dl : ol.data = .cell (some (.ref la))
  dc : oc.data = .cell (some (.ref x.c))
  lov : (vd == sysModules) = false
  loc : (x.cd == sysModules) = false
  ok : CacheOk prog w x.pn l o ckv
  dv : ov.IsDictOf (PySem.intKind prog w) kvs
  sz : kvs.length ≤ i
  isl : IntsAre lvs lns
  vals : Vals l T kvs
  nd : (X.map (·.1) ++ (x.ce :: x.ca :: vd :: la :: x.ar :: x.c :: x.dc :: x.cd :: (addrs l ++ T.map (·.1)))).Nodup

def InvL (prog : Program) (w : World) (x : Fx) (rs : List Int) (i : Nat) (m : Str → Option Value) (nx : List (Addr × Obj)) : Prop :=
  ∃ ol oc ov o vd la lvs lns nl l ckv kvs M tM T, Co prog w x [] ol oc ov o vd la lvs lns nl l ckv kvs M tM T i m nx ∧ l.map (·.k) = lns ∧ (lns, M) = lru x.pn (rs.take i)

def mtC (h0 h1 h2 h3 h4 : Int) (t0 t1 t2 t3 t4 : Tok) : Mt :=
  ⟨fun i => match i with | 0 => h0 | 1 => h1 | 2 => h2 | 3 => h3 | _ => h4, fun i => match i with | 0 => t0 | 1 => t1 | 2 => t2 | 3 => t3 | _ => t4⟩
theorem nodup8 {ce ca vd la ar c dc cd : Nat} (h1 : ar < dc) (h2 : ce < dc) (h3 : ca < dc) (h4 : dc < c) (h5 : c < cd) (h6 : cd < la) (h7 : ce ≠ ar) (h8 : ca ≠ ar) (h9 : ce ≠ ca)
    (v1 : la ≠ vd) (v2 : cd ≠ vd) (v3 : c ≠ vd) (v4 : dc ≠ vd) (v5 : ar ≠ vd) (v6 : ce ≠ vd) (v7 : ca ≠ vd) : [ce, ca, vd, la, ar, c, dc, cd].Nodup := by
  simp only [List.nodup_cons, List.mem_cons, List.not_mem_nil, or_false, not_or, List.nodup_nil, and_true, not_false_eq_true]
  omega
theorem start_k {Goal : Prop} {prog : Program} {w : World} {h₀ h : Heap} {L vd la cd c dc ar D r ce ca : Addr} {m : Str → Option Value} {ov o ol oc oD or' : Obj} {zs : List Value} {c7 : Nat} {p f : Int} {tp tf t0 t1 t2 t3 t4 tmx tac tM : Tok} {g0 g1 g2 g3 g4 : Int} {ac : Value} {rs : List Int} {tail : List (Addr × Obj)}
    (F : Fr h₀ L h m) (N : News h₀ L h ((vd, ov) :: tail))
    (ht : tail = (la, listOf #[] 0) :: (cd, o) :: (c, instObj 189 dc) :: (dc, dictOf [⟨g0, .str (Str.ofString "_cache") t0, .ref cd⟩, ⟨g1, .str (Str.ofString "_most_recently_used") t1, .none⟩, ⟨g2, .str (Str.ofString "_least_recently_used") t2, .none⟩, ⟨g3, .str (Str.ofString "_max_cache") t3, .int p tmx⟩, ⟨g4, .str (Str.ofString "_after_cleanup_count") t4, ac⟩] 5) ::
      (ar, listOf zs.toArray c7) :: (D, oD) :: (r, or') :: (ce, ol) :: (ca, oc) :: [])
    (hac : ac = .int p tac) (hf : ∀ p ∈ tail, p.1 ≠ vd)
    (a1 : ar < dc ∧ D < dc ∧ r < dc ∧ ce < dc ∧ ca < dc) (a2 : dc < c) (a3 : c < cd ∧ dc < cd ∧ ar < cd ∧ D < cd ∧ r < cd ∧ ce < cd ∧ ca < cd) (a4 : cd < la ∧ c < la ∧ dc < la ∧ ar < la ∧ D < la ∧ r < la ∧ ce < la ∧ ca < la)
    (a5 : ce ≠ ar) (a6 : ca ≠ ar) (a7 : ce ≠ ca) (b1 : ol.data = .cell (some (.ref la))) (b2 : oc.data = .cell (some (.ref c))) (b3 : (vd == sysModules) = false) (b4 : (cd == sysModules) = false) (b5 : o.IsDictOf (PySem.intKind prog w) []) (b6 : ov.IsDictOf (PySem.intKind prog w) [])
    (e1 : m (Str.ofString "requests") = some (.ref ar)) (e2 : m (Str.ofString "places") = some (.int p tp)) (e3 : m (Str.ofString "fewer") = some (.int f tf)) (e4 : m (Str.ofString "values") = some (.ref vd)) (e5 : m (Str.ofString "missed") = some (.int 0 tM)) (hp1 : 1 ≤ p) (hp4 : p ≤ 4)
    (k : ∀ x : Fx, x = ⟨p.toNat, p, f, tp, tf, ar, zs, c7, ce, ca, c, dc, cd, mtC g0 g1 g2 g3 g4 t0 t1 t2 t3 t4, tmx, tac⟩ → ∀ nx, InvL prog w x rs 0 m nx → News h₀ L h nx → Goal) : Goal := by
  subst ht hac
  simp only [List.forall_mem_cons] at hf
  obtain ⟨v1, v2, v3, v4, v5, v6, v7, v8, v9, -⟩ := hf
  refine k _ rfl (ledL ⟨p.toNat, p, f, tp, tf, ar, zs, c7, ce, ca, c, dc, cd, mtC g0 g1 g2 g3 g4 t0 t1 t2 t3 t4, tmx, tac⟩ [] ol oc ov o vd la [] 0 [] []) ?_ (news_sub N ?_)
  · refine ⟨ol, oc, ov, o, vd, la, [], [], 0, [], [], [], 0, tM, [], ⟨e1, e2, e3, e4, e5, rfl, b1, b2, b3, b4, ⟨b5, List.nodup_nil, Nat.zero_le _, by dsimp only; omega, rfl, (fun _ h => nomatch h), (fun _ h => nomatch h)⟩, b6, Nat.le_refl _, .nil, (fun _ h => nomatch h), ?_⟩, rfl, rfl⟩
    exact nodup8 a1.1 a1.2.2.2.1 a1.2.2.2.2 a2 a3.1 a4.1 a5 a6 a7 v1 v2 v3 v4 v5 v8 v9
  · intro p hp
    simp only [ledL, seg, List.nil_append, List.append_nil, List.mem_cons, List.not_mem_nil, or_false] at hp
    rcases hp with q | q | q | q | q | q | q | q
    · rw [q]; exact .tail _ (.tail _ (.tail _ (.tail _ (.tail _ (.tail _ (.tail _ (.tail _ (.head _))))))))
    · rw [q]; exact .tail _ (.tail _ (.tail _ (.tail _ (.tail _ (.tail _ (.tail _ (.tail _ (.tail _ (.head _)))))))))
    · rw [q]; exact .head _
    · rw [q]; exact .tail _ (.head _)
    · rw [q]; exact .tail _ (.tail _ (.tail _ (.tail _ (.tail _ (.head _)))))
    · rw [q]; exact .tail _ (.tail _ (.tail _ (.head _)))
    · rw [q]; exact .tail _ (.tail _ (.tail _ (.tail _ (.head _))))
    · rw [q]; exact .tail _ (.tail _ (.head _))

theorem item_lst {prog : Program} {w : World} {A : Around} {E : Value → Shared → Prop} {s : Shared} {h₀ : Heap} {L : Addr} {news : List (Addr × Obj)} {value slice : PySem.Expr} {l : Addr} {vs : List Value} {ns : List Int} {i : Nat} {u : Tok} {c : Nat} {Q : Value → Shared → Prop} (N : News h₀ L s.heap news) (hm : (l, listOf vs.toArray c) ∈ news) (hi : IntsAre vs ns)
    (h1 : i < ns.length ∧ ns.length ≤ 1000) (h : ∀ t, Q (.int (ns.getD i 0) t) s)
    (hs : subscripted slice false (.ref l) (.int (i : Int) u) = operate [.ref l, .int (i : Int) u] (getItem (.ref l) (.int (i : Int) u)) := by with_unfolding_all rfl) :
    wpAny (model prog w) A (subscriptTail value slice (.ref l) (.int (i : Int) u)) Q E s :=
  item_anyK (k := (i : Int)) ⟨_, (N _ hm).1, rfl, _, rfl⟩ hi (by omega) (by omega) (by omega) h hs
end Mine
end


/-! TK -/
section
open PySem PySem.W PyProof.Rows PySem.Spec PySem.Calls
set_option maxRecDepth 100000
set_option maxHeartbeats 8000000
set_option linter.unusedVariables false
set_option linter.unusedSimpArgs false
namespace Mine

/-! ## list.remove of an int that is there -/
theorem ints_kf : ∀ {vs : List Value} {ns : List Int}, IntsAre vs ns → kf_ints vs = true
  | _, _, .nil => rfl
  | _, _, .cons (vs := vs) n t r => (ints_kf r : kf_ints vs = true)
theorem find_int {k : Int} : ∀ {vs : List Value} {ns : List Int}, IntsAre vs ns → k ∈ ns → ∃ j, ∃ hj : j < vs.length, PyProof.Rows.isInt k vs[j] = true ∧ (∀ i (hi : i < vs.length), i < j → PyProof.Rows.isInt k vs[i] = false) ∧ IntsAre (vs.eraseIdx j) (ns.erase k)
  | _, _, .nil, h => nomatch h
  | _, _, .cons (vs := vs) (ns := ns) n t r, h => by
    by_cases q : n = k
    · subst q
      refine ⟨0, by simp, by simp [PyProof.Rows.isInt], fun i _ hi => absurd hi (Nat.not_lt_zero _), ?_⟩
      simpa using r
    · have hk : k ∈ ns := by
        rcases List.mem_cons.mp h with e | e
        · exact absurd e.symm q
        · exact e
      obtain ⟨j, hj, h1, h2, h3⟩ := find_int r hk
      refine ⟨j + 1, by simp; exact hj, by simpa using h1, fun i hi hlt => ?_, ?_⟩
      · cases i with
        | zero => simp [PyProof.Rows.isInt, q]
        | succ i => simpa using h2 i (by simpa using hi) (by omega)
      · rw [List.erase_cons_tail (by simpa using q)]
        exact .cons n t h3
section
variable {prog : Program} {w : World} {A : Around} {E : Value → Shared → Prop} {s : Shared} {h₀ : Heap} {L D : Addr} {m : Str → Option Value} {news : List (Addr × Obj)} {g : Obj → List (Addr × Obj)} {n : Nat}
theorem remove_lst {k : Int} {t : Tok} {vs : List Value} {ns : List Int} {Q : Value → Shared → Prop} (F : Fr h₀ L s.heap m) (N : News h₀ L s.heap news) (hi : IntsAre vs ns) (hk : k ∈ ns) (hz : vs.length ≤ 1000) (U : UpdF D (listOf vs.toArray n) news g)
    (h : ∀ h' vs', Fr h₀ L h' m → News h₀ L h' (g (listOf (List.toArray vs') (n + 1))) → IntsAre vs' (ns.erase k) → Q .none { s with heap := h' }) : wpAny (model prog w) A (call (.builtin "list.remove") [.ref D, .int k t]) Q E s := by
  obtain ⟨pre, post, rfl, hg, a', b'⟩ := U.split
  have z := N (D, listOf vs.toArray n) (List.mem_append_right _ (.head _))
  obtain ⟨j, hj, b, c, d⟩ := find_int hi hk
  refine call_meets PySem.F.slot_list_remove ⟨_, z.1, rfl⟩ PySem.F.entry_list_remove (PySem.F.args_list_remove_2 _ _)
    (MeetsSeq.list_remove D vs.toArray n (.int k t) (PyProof.Rows.isInt k) (fun y hy => kf_eq (ints_kf hi) y (by simpa using hy)) j (by simpa using hj) (by simpa using b) (fun i hi hlt => by simpa using c i (by simpa using hi) hlt) (by rw [sizeLine_eq, List.size_toArray]; omega))
    ⟨z.1, h _ (vs.eraseIdx j) (F.change (Heap.SameBut.update ..) z.2.1 z.2.2) ?_ d⟩
  rw [hg]
  refine ki_turn _ N a' b' ?_ ?_
  · apply Array.toList_inj.mp
    simp [Array.toList_eraseIdxIfInBounds]
  · have hl : (vs.eraseIdx j).length + 1 = vs.length := by rw [List.length_eraseIdx_of_lt hj]; omega
    have hq : (vs.eraseIdx j).toArray.size ≠ vs.toArray.size := by rw [List.size_toArray, List.size_toArray]; omega
    rw [if_neg (by simpa using hq)]
theorem len_lst {l : Addr} {vs : List Value} {c : Nat} {Q : Value → Shared → Prop} (N : News h₀ L s.heap news) (hm : (l, listOf vs.toArray c) ∈ news) (hz : vs.length ≤ 1000)
    (h : ∀ t tk, Q (.int vs.length t) { s with toks := tk }) : wpAny (model prog w) A (call (.builtin "len") [.ref l]) Q E s := by
  refine len_list (l := l) (items := vs.toArray) ⟨_, (N _ hm).1, rfl, _, rfl⟩ (by rw [List.size_toArray]; omega) ?_
  rw [List.size_toArray]; exact h _ _
theorem add_lst2 {t b : Addr} {c c2 : Nat} {vs vs2 : List Value} {k k2 : List Int} {Q : Value → Shared → Prop} (F : Fr h₀ L s.heap m) (N : News h₀ L s.heap news) (hp : (t, listOf vs.toArray c) ∈ news) (hi : IntsAre vs k) (hb : (b, listOf vs2.toArray c2) ∈ news) (hi2 : IntsAre vs2 k2) (hz : k.length + k2.length ≤ 1000)
    (h : ∀ x h' vs', Fr h₀ L h' m → News h₀ L h' ((x, listOf (List.toArray vs') 0) :: news) → IntsAre vs' (k ++ k2) → (∀ p ∈ news, p.1 < x) → Q (.ref x) { s with heap := h' }) :
    wpAny (model prog w) A (binaryOp .Add (.ref t) (.ref b)) Q E s :=
  add_lists_ints F N ⟨_, (N _ hp).1, rfl, _, rfl⟩ ⟨_, (N _ hb).1, rfl, _, rfl⟩ hi hi2 (fun h' F' N' i => h _ h' (vs ++ vs2) F' N' i fun p hp => Heap.lt_size (N p hp).1) (by rw [sizeLine_eq]; omega)
end

/-! ## the ledger behind a call of the cache -/
theorem back_k {h₀ h h' : Heap} {L : Addr} {Z led' : List (Addr × Obj)} {S : List Addr} (N : News h₀ L h Z) (hZ : ∀ p ∈ Z, p.1 ∉ S) (K : Kp S h h') (U : News h₀ L h' led') : News h₀ L h' (Z ++ led') := fun p hp => by
  rcases List.mem_append.mp hp with q | q
  · exact ⟨K _ _ (hZ p q) (N p q).1, (N p q).2⟩
  · exact U p q
theorem addrs_take {k : Nat} {l : List Nd} {a : Addr} (h : a ∈ addrs (l.take k)) : a ∈ addrs l := by
  have := List.take_append_drop k l
  rw [← this, addrs_append]
  exact List.mem_append_left _ h
theorem addrs_drop_count (k : Nat) (l : List Nd) (a : Addr) : (addrs (l.take k)).count a ≤ (addrs l).count a := by
  have : addrs l = addrs (l.take k) ++ addrs (l.drop k) := by rw [← addrs_append, List.take_append_drop]
  rw [this, List.count_append]; omega
theorem fr_back {h₀ h h' : Heap} {L : Addr} {m : Str → Option Value} {c dc cd : Addr} {q : Mt} {o : Obj} {l : List Nd} {mx ac : Value} (F : Fr h₀ L h m) (N : News h₀ L h (cacheLed c dc cd q o l mx ac)) (K : Kp (c :: dc :: cd :: addrs l) h h') : Fr h₀ L h' m :=
  fr_kp F N K fun a ha => by simpa only [cacheLed, List.map_cons, seg_addrs] using ha

section
variable {I ce ca vd la ar c dc cd : Addr} {l l' : List Nd} {T : List (Addr × Obj)}
theorem nd_perm (ND : (I :: ce :: ca :: vd :: la :: ar :: c :: dc :: cd :: (addrs l ++ T.map (·.1))).Nodup) (P : (addrs l').Perm (addrs l)) : (I :: ce :: ca :: vd :: la :: ar :: c :: dc :: cd :: (addrs l' ++ T.map (·.1))).Nodup := by
  refine nd_of ND fun x => ?_
  have := P.count_eq x
  simp only [List.count_cons, List.count_append]; omega
theorem nd_core (ND : (I :: ce :: ca :: vd :: la :: ar :: c :: dc :: cd :: (addrs l ++ T.map (·.1))).Nodup) : (c :: dc :: cd :: addrs l).Nodup := by
  refine nd_of ND fun x => ?_
  simp only [List.count_cons, List.count_append]; omega
/-- what is not the cache's stands apart from it -/
theorem nd_apart {oI oe oa ov ol or' : Obj} (ND : (I :: ce :: ca :: vd :: la :: ar :: c :: dc :: cd :: (addrs l ++ T.map (·.1))).Nodup) : ∀ p ∈ (I, oI) :: (ce, oe) :: (ca, oa) :: (vd, ov) :: (la, ol) :: (ar, or') :: T, p.1 ∉ c :: dc :: cd :: addrs l := by
  intro p hp
  refine off_of (T := I :: ce :: ca :: vd :: la :: ar :: T.map (·.1)) ND ?_ ?_
  · simp only [List.mem_cons] at hp ⊢
    rcases hp with rfl | rfl | rfl | rfl | rfl | rfl | hp
    · simp
    · simp
    · simp
    · simp
    · simp
    · simp
    · simp only [List.mem_map_of_mem (f := (·.1)) hp, or_true]
  · simp only [List.count_cons, List.count_append]; omega
theorem nd_facts (ND : (I :: ce :: ca :: vd :: la :: ar :: c :: dc :: cd :: (addrs l ++ T.map (·.1))).Nodup) :
    (I ≠ ce ∧ I ≠ ca ∧ I ≠ vd ∧ I ≠ la ∧ I ≠ ar ∧ I ≠ c ∧ I ≠ dc ∧ I ≠ cd) ∧ (ce ≠ ca ∧ ce ≠ vd ∧ ce ≠ la ∧ ce ≠ ar ∧ ce ≠ c ∧ ce ≠ dc ∧ ce ≠ cd) ∧ (ca ≠ vd ∧ ca ≠ la ∧ ca ≠ ar ∧ ca ≠ c ∧ ca ≠ dc ∧ ca ≠ cd) ∧
    (vd ≠ la ∧ vd ≠ ar ∧ vd ≠ c ∧ vd ≠ dc ∧ vd ≠ cd) ∧ (la ≠ ar ∧ la ≠ c ∧ la ≠ dc ∧ la ≠ cd) ∧
    (∀ p ∈ seg .none .none l ++ T, p.1 ≠ I) ∧ (∀ p ∈ seg .none .none l ++ T, p.1 ≠ ce) ∧ (∀ p ∈ seg .none .none l ++ T, p.1 ≠ ca) ∧ (∀ p ∈ seg .none .none l ++ T, p.1 ≠ vd) ∧ (∀ p ∈ seg .none .none l ++ T, p.1 ≠ la) := by
  have tl : ∀ p ∈ seg .none .none l ++ T, p.1 ∈ addrs l ++ T.map (·.1) := fun p hp => by
    rcases List.mem_append.mp hp with h | h
    · exact List.mem_append_left _ (seg_mem h)
    · exact List.mem_append_right _ (List.mem_map_of_mem h)
  simp only [List.nodup_cons, List.mem_cons, not_or] at ND
  obtain ⟨⟨a1, a2, a3, a4, a5, a6, a7, a8, a9⟩, ⟨b1, b2, b3, b4, b5, b6, b7, b8⟩, ⟨c1, c2, c3, c4, c5, c6, c7⟩, ⟨d1, d2, d3, d4, d5, d6⟩, ⟨e1, e2, e3, e4, e5⟩, -⟩ := ND
  exact ⟨⟨a1, a2, a3, a4, a5, a6, a7, a8⟩, ⟨b1, b2, b3, b4, b5, b6, b7⟩, ⟨c1, c2, c3, c4, c5, c6⟩, ⟨d1, d2, d3, d4, d5⟩, ⟨e1, e2, e3, e4⟩,
    fun p hp q => a9 (q ▸ tl p hp), fun p hp q => b8 (q ▸ tl p hp), fun p hp q => c7 (q ▸ tl p hp), fun p hp q => d6 (q ▸ tl p hp), fun p hp q => e5 (q ▸ tl p hp)⟩
/-- a turn's new node and the two new lists -/
theorem nd_add {k : Nat} {n : Nd} {x1 x2 : Addr} (ND : (I :: ce :: ca :: vd :: la :: ar :: c :: dc :: cd :: (addrs l ++ T.map (·.1))).Nodup) (h1 : x1 ∉ I :: ce :: ca :: vd :: la :: ar :: c :: dc :: cd :: (addrs l ++ T.map (·.1))) (h2 : x2 ∉ x1 :: I :: ce :: ca :: vd :: la :: ar :: c :: dc :: cd :: (addrs l ++ T.map (·.1)))
    (hn : ∀ z ∈ x2 :: x1 :: I :: ce :: ca :: vd :: la :: ar :: T.map (·.1), z ≠ n.a ∧ z ≠ n.d) (NC : (c :: dc :: cd :: addrs (n :: l.take k)).Nodup) :
    (I :: ce :: ca :: vd :: la :: ar :: c :: dc :: cd :: (addrs (n :: l.take k) ++ (x2 :: x1 :: T.map (·.1)))).Nodup := by
  refine List.nodup_iff_count.mpr fun x => ?_
  have f1 := List.nodup_iff_count.mp ND x
  have f2 := List.nodup_iff_count.mp NC x
  have f3 := addrs_drop_count k l x
  have g1 : (x2 :: x1 :: I :: ce :: ca :: vd :: la :: ar :: c :: dc :: cd :: (addrs l ++ T.map (·.1))).count x ≤ 1 := List.nodup_iff_count.mp (List.nodup_cons.mpr ⟨h2, List.nodup_cons.mpr ⟨h1, ND⟩⟩) x
  by_cases q : x ∈ x2 :: x1 :: I :: ce :: ca :: vd :: la :: ar :: T.map (·.1)
  · obtain ⟨q1, q2⟩ := hn x q
    have e1 : (n.a == x) = false := by simpa using Ne.symm q1
    have e2 : (n.d == x) = false := by simpa using Ne.symm q2
    simp only [addrs, List.count_cons, List.count_append, e1, e2] at f1 f2 f3 g1 ⊢
    simp only [Bool.false_eq_true, if_false] at *
    omega
  · have q0 := List.count_eq_zero.mpr q
    simp only [addrs, List.count_cons, List.count_append] at f1 f2 f3 g1 q0 ⊢
    omega
end

/-! ## keys and values behind a turn -/
theorem erase_mid {pr po : List Nd} {n : Nd} (h : ((pr ++ n :: po).map (·.k)).Nodup) : (n :: (pr ++ po)).map (·.k) = n.k :: ((pr ++ n :: po).map (·.k)).erase n.k := by
  rw [List.map_append, List.map_cons] at h ⊢
  have hn : n.k ∉ pr.map (·.k) := fun q => by
    have := (List.nodup_append.mp h).2.2 n.k q n.k (.head _)
    exact this rfl
  rw [List.erase_append_right _ hn, List.map_cons, List.erase_cons_head, List.map_append]
theorem Vals.perm {l l' : List Nd} {T : List (Addr × Obj)} {kvs : List (Int × Value)} (V : Vals l T kvs) (h : ∀ n ∈ l', n ∈ l) : Vals l' T kvs := fun n hn => V n (h n hn)
theorem told_mem {k : Int} {l l' : List Nd} {v : Value} (h : Told k l v l') : ∀ n ∈ l', n ∈ l := by
  rcases h with ⟨pr, n, po, rfl, _, _, rfl⟩ | ⟨_, _, rfl⟩
  · intro x hx; exact List.perm_middle.mem_iff.mpr hx
  · exact fun _ h => h
theorem Vals.add {l : List Nd} {T : List (Addr × Obj)} {kvs : List (Int × Value)} (V : Vals l T kvs) {n : Nd} {x1 x2 : Addr} {j : Int} {t1 t2 t3 t4 : Tok} {c1 c2 : Nat} (hk : n.k ∉ l.map (·.k)) (hv : n.v = .ref x2) (k : Nat) :
    Vals (n :: l.take k) ((x2, listOf [.int n.k t1, .int j t2].toArray c1) :: (x1, listOf [.int n.k t3, .int j t4].toArray c2) :: T) (stored kvs n.k (.ref x1)) := by
  intro y hy
  rcases List.mem_cons.mp hy with rfl | hy
  · exact ⟨x2, x1, j, t1, t2, t3, t4, c1, c2, hv, .head _, by rw [valueAt_set, if_pos rfl], .tail _ (.head _)⟩
  · have hyl := List.mem_of_mem_take hy
    obtain ⟨va, vb, i, u1, u2, u3, u4, d1, d2, e1, e2, e3, e4⟩ := V y hyl
    exact ⟨va, vb, i, u1, u2, u3, u4, d1, d2, e1, .tail _ (.tail _ e2), by rw [valueAt_set, if_neg (fun q => hk (by rw [q]; exact List.mem_map_of_mem hyl))]; exact e3, .tail _ (.tail _ e4)⟩

section
variable {I ce ca vd la ar c dc cd : Addr} {l l' : List Nd} {T : List (Addr × Obj)} {q : Mt} {o o' : Obj} {mx ac : Value} {A1 A2 A3 A4 A5 A6 A7 A8 : Addr × Obj}
theorem nd_I {o1 o2 o3 o4 o5 o6 o7 o8 : Obj} (ND : (ce :: ca :: vd :: la :: ar :: c :: dc :: cd :: (addrs l ++ T.map (·.1))).Nodup)
    (off : ∀ p ∈ (ce, o1) :: (ca, o2) :: (vd, o3) :: (la, o4) :: (ar, o5) :: (c, o6) :: (dc, o7) :: (cd, o8) :: (seg .none .none l ++ T), p.1 ≠ I) : (I :: ce :: ca :: vd :: la :: ar :: c :: dc :: cd :: (addrs l ++ T.map (·.1))).Nodup := by
  refine List.nodup_cons.mpr ⟨fun hI => ?_, ND⟩
  simp only [List.forall_mem_cons] at off
  obtain ⟨a1, a2, a3, a4, a5, a6, a7, a8, a9⟩ := off
  simp only [List.mem_cons, List.mem_append] at hI
  rcases hI with e | e | e | e | e | e | e | e | e | e
  · exact a1 e.symm
  · exact a2 e.symm
  · exact a3 e.symm
  · exact a4 e.symm
  · exact a5 e.symm
  · exact a6 e.symm
  · exact a7 e.symm
  · exact a8 e.symm
  · rw [← seg_addrs .none .none l] at e
    obtain ⟨p, hp, rfl⟩ := List.mem_map.mp e
    exact a9 p (List.mem_append_left _ hp) rfl
  · obtain ⟨p, hp, rfl⟩ := List.mem_map.mp e
    exact a9 p (List.mem_append_right _ hp) rfl
theorem led_in : ∀ p ∈ cacheLed c dc cd q o l mx ac, p ∈ A1 :: A2 :: A3 :: A4 :: A5 :: A6 :: (c, instObj 189 dc) :: (dc, cacheD q cd (hr l) (lr .none l) mx ac) :: (cd, o) :: (seg .none .none l ++ T) := by
  intro p hp
  simp only [cacheLed, List.mem_cons, List.mem_append] at hp ⊢
  rcases hp with e | e | e | e <;> simp only [e, true_or, or_true]
theorem led_out : ∀ p ∈ A1 :: A2 :: A3 :: A4 :: A5 :: A6 :: T, p ∈ A1 :: A2 :: A3 :: A4 :: A5 :: A6 :: (c, instObj 189 dc) :: (dc, cacheD q cd (hr l) (lr .none l) mx ac) :: (cd, o) :: (seg .none .none l ++ T) := by
  intro p hp
  simp only [List.mem_cons, List.mem_append] at hp ⊢
  rcases hp with e | e | e | e | e | e | e <;> simp only [e, true_or, or_true]
theorem led_back : ∀ p ∈ A1 :: A2 :: A3 :: A4 :: A5 :: A6 :: (c, instObj 189 dc) :: (dc, cacheD q cd (hr l') (lr .none l') mx ac) :: (cd, o') :: (seg .none .none l' ++ T), p ∈ (A1 :: A2 :: A3 :: A4 :: A5 :: A6 :: T) ++ cacheLed c dc cd q o' l' mx ac := by
  intro p hp
  simp only [cacheLed, List.mem_cons, List.mem_append] at hp ⊢
  rcases hp with e | e | e | e | e | e | e | e | e | e | e <;> simp only [e, true_or, or_true]
theorem vals_handed {kvs : List (Int × Value)} (V : Vals l T kvs) : ∀ n ∈ l, handedIn n.v = true := fun n hn => by
  obtain ⟨va, _, _, _, _, _, _, _, _, e, _⟩ := V n hn
  rw [e]; rfl
end

/-! ## behind the If of a turn -/
def P3 (prog : Program) (w : World) (x : Fx) (X : List (Addr × Obj)) (i : Nat) (key : Int) (lns : List Int) (M : Int) (m : Str → Option Value) (nx : List (Addr × Obj)) : Prop :=
  ∃ ol oc ov o vd la lvs nl l ckv kvs tM T tk, Co prog w x X ol oc ov o vd la lvs (lns.erase key) nl l ckv kvs (lruStep x.pn (lns, M) key).2 tM T (i + 1) m nx ∧ m (Str.ofString "key") = some (.int key tk) ∧ l.map (·.k) = (lruStep x.pn (lns, M) key).1

section
variable {prog : Program} {w : World} {x : Fx} {ol oc ov o oi : Obj} {I vd la : Addr} {lvs vs' : List Value} {lns : List Int} {nl nl' : Nat} {l l8 : List Nd} {ckv kvs : List (Int × Value)} {M key : Int} {tM tk : Tok} {T : List (Addr × Obj)} {i : Nat} {m₁ m' : Str → Option Value} {nx : List (Addr × Obj)}
theorem p3_hit {pr po : List Nd} {n : Nd} (C : Co prog w x [] ol oc ov o vd la lvs lns nl l ckv kvs M tM T i m₁ nx) (hlk : l.map (·.k) = lns) (C8 : CacheOk prog w x.pn l8 o ckv) (V8 : Vals l8 T kvs) (ND8 : (I :: x.ce :: x.ca :: vd :: la :: x.ar :: x.c :: x.dc :: x.cd :: (addrs l8 ++ T.map (·.1))).Nodup)
    (hl : l = pr ++ n :: po) (hk : n.k = key) (hl8 : l8 = n :: (pr ++ po)) (e1 : m' (Str.ofString "requests") = some (.ref x.ar)) (e2 : m' (Str.ofString "places") = some (.int x.p x.tp)) (e3 : m' (Str.ofString "fewer") = some (.int x.f x.tf)) (e4 : m' (Str.ofString "values") = some (.ref vd)) (e5 : m' (Str.ofString "missed") = some (.int M tM)) (e6 : m' (Str.ofString "key") = some (.int key tk))
    (hi' : IntsAre vs' (lns.erase key)) : P3 prog w x [(I, oi)] i key lns M m' (ledL x [(I, oi)] ol oc ov o vd la vs' nl' l8 T) := by
  have hmem : key ∈ lns := by rw [← hlk, hl, ← hk]; simp
  have hM : (lruStep x.pn (lns, M) key).2 = M := if_pos hmem
  refine ⟨ol, oc, ov, o, vd, la, vs', nl', l8, ckv, kvs, tM, T, tk, ⟨e1, e2, e3, e4, by rw [hM]; exact e5, rfl, C.dl, C.dc, C.lov, C.loc, C8, C.dv, Nat.le_succ_of_le C.sz, hi', V8, ND8⟩, e6, ?_⟩
  rw [hl8, erase_mid (by rw [← hl]; exact C.ok.keys), ← hl, hlk, hk]
  have h1 := C.ok.size
  have h2 : l.length = lns.length := by rw [← hlk, List.length_map]
  have h3 := List.length_erase_of_mem hmem
  show key :: lns.erase key = key :: (lns.erase key).take (x.pn - 1)
  rw [List.take_of_length_le (by omega)]
theorem p3_miss {k1 k2 : Nat} {n : Nd} {x1 x2 : Addr} {ov' o' : Obj} {ckv' : List (Int × Value)} {j : Int} {t1 t2 t3 t4 tM' : Tok} {c1 c2 : Nat} (C : Co prog w x [] ol oc ov o vd la lvs lns nl l ckv kvs M tM T i m₁ nx) (hlk : l.map (·.k) = lns) (hnm : key ∉ l.map (·.k)) (hk : n.k = key) (hv : n.v = .ref x2)
    (C8 : CacheOk prog w x.pn (n :: l.take (x.pn - 1)) o' ckv') (hdv : ov'.IsDictOf (PySem.intKind prog w) (stored kvs key (.ref x1)))
    (ND8 : (I :: x.ce :: x.ca :: vd :: la :: x.ar :: x.c :: x.dc :: x.cd :: (addrs (n :: l.take (x.pn - 1)) ++ (x2 :: x1 :: T.map (·.1)))).Nodup)
    (e1 : m' (Str.ofString "requests") = some (.ref x.ar)) (e2 : m' (Str.ofString "places") = some (.int x.p x.tp)) (e3 : m' (Str.ofString "fewer") = some (.int x.f x.tf)) (e4 : m' (Str.ofString "values") = some (.ref vd)) (e5 : m' (Str.ofString "missed") = some (.int (M + 1) tM')) (e6 : m' (Str.ofString "key") = some (.int key tk)) :
    P3 prog w x [(I, oi)] i key lns M m' (ledL x [(I, oi)] ol oc ov' o' vd la lvs nl (n :: l.take (x.pn - 1)) ((x2, listOf [.int key t1, .int j t2].toArray c1) :: (x1, listOf [.int key t3, .int j t4].toArray c2) :: T)) := by
  have hmem : key ∉ lns := by rw [← hlk]; exact hnm
  have hM : (lruStep x.pn (lns, M) key).2 = M + 1 := if_neg hmem
  have her : lns.erase key = lns := List.erase_of_not_mem hmem
  subst hk
  refine ⟨ol, oc, ov', o', vd, la, lvs, nl, _, ckv', stored kvs n.k (.ref x1), tM', _, tk, ⟨e1, e2, e3, e4, by rw [hM]; exact e5, rfl, C.dl, C.dc, C.lov, C.loc, C8, hdv, ?_, by rw [her]; exact C.isl, C.vals.add hnm hv _, ND8⟩, e6, ?_⟩
  · have h1 := stored_le kvs n.k (.ref x1)
    have h2 := C.sz
    omega
  · show (n :: l.take (x.pn - 1)).map (·.k) = n.k :: (lns.erase n.k).take (x.pn - 1)
    rw [her, List.map_cons, List.map_take, hlk]
end

theorem mono_p3 {prog : Program} {w : World} {x : Fx} {ol oc ov o : Obj} {vd la : Addr} {lvs : List Value} {lns : List Int} {nl : Nat} {l : List Nd} {ckv kvs : List (Int × Value)} {M : Int} {tM : Tok} {T : List (Addr × Obj)} {i : Nat} {m₁ m' : Str → Option Value} {nx : List (Addr × Obj)}
    {Md : Model} {A : Around} {E : Value → Shared → Prop} {t : Sem Flow} {Q : Flow → Shared → Prop} {s : Shared} {h₀ : Heap} {L : Addr} (C : Co prog w x [] ol oc ov o vd la lvs lns nl l ckv kvs M tM T i m₁ nx) (F : Fr h₀ L s.heap m') (I : Addr) (oi : Obj) (key : Int)
    (a : wpAny Md A t (MidP h₀ L s (P3 prog w x [(I, oi)] i key lns M)) E s) (b : ∀ fl s', MidP h₀ L s (P3 prog w x [(I, oi)] i key lns M) fl s' → Q fl s') : wpAny Md A t Q E s := wpAny_mono a b fun _ _ e => e

section
variable {I ce ca vd la ar c dc cd x1 x2 : Addr} {l l' : List Nd} {T : List (Addr × Obj)} {q : Mt} {o o' : Obj} {mx ac : Value} {A1 A2 A3 A4 A5 A6 B1 B2 : Addr × Obj}
theorem nd_lt1 (h : I < x1 ∧ ce < x1 ∧ ca < x1 ∧ vd < x1 ∧ la < x1 ∧ ar < x1 ∧ c < x1 ∧ dc < x1 ∧ cd < x1 ∧ AllLt x1 (seg .none .none l ++ T)) : x1 ∉ I :: ce :: ca :: vd :: la :: ar :: c :: dc :: cd :: (addrs l ++ T.map (·.1)) := by
  obtain ⟨a1, a2, a3, a4, a5, a6, a7, a8, a9, a10⟩ := h
  have irr : ∀ {y : Addr}, y < x1 → x1 = y → False := fun {y} h e => absurd h (by rw [e]; exact Nat.lt_irrefl _)
  intro hx
  simp only [List.mem_cons, List.mem_append] at hx
  rcases hx with e | e | e | e | e | e | e | e | e | e | e
  · exact irr a1 e
  · exact irr a2 e
  · exact irr a3 e
  · exact irr a4 e
  · exact irr a5 e
  · exact irr a6 e
  · exact irr a7 e
  · exact irr a8 e
  · exact irr a9 e
  · rw [← seg_addrs .none .none l] at e
    obtain ⟨p, hp, e⟩ := List.mem_map.mp e
    exact irr (allLt_mem a10 p (List.mem_append_left _ hp)) e.symm
  · obtain ⟨p, hp, e⟩ := List.mem_map.mp e
    exact irr (allLt_mem a10 p (List.mem_append_right _ hp)) e.symm
theorem nd_lt2 (h0 : x1 < x2) (h : I < x2 ∧ ce < x2 ∧ ca < x2 ∧ vd < x2 ∧ la < x2 ∧ ar < x2 ∧ c < x2 ∧ dc < x2 ∧ cd < x2 ∧ AllLt x2 (seg .none .none l ++ T)) : x2 ∉ x1 :: I :: ce :: ca :: vd :: la :: ar :: c :: dc :: cd :: (addrs l ++ T.map (·.1)) := by
  intro hx
  rcases List.mem_cons.mp hx with e | e
  · exact absurd h0 (by rw [e]; exact Nat.lt_irrefl _)
  · exact nd_lt1 h e
theorem led_in8 : ∀ p ∈ cacheLed c dc cd q o l mx ac, p ∈ B2 :: B1 :: A1 :: A2 :: A3 :: A4 :: A5 :: A6 :: (c, instObj 189 dc) :: (dc, cacheD q cd (hr l) (lr .none l) mx ac) :: (cd, o) :: (seg .none .none l ++ T) := fun p hp => .tail _ (.tail _ (led_in p hp))
theorem led_out8 : ∀ p ∈ B2 :: B1 :: A1 :: A2 :: A3 :: A4 :: A5 :: A6 :: T, p ∈ B2 :: B1 :: A1 :: A2 :: A3 :: A4 :: A5 :: A6 :: (c, instObj 189 dc) :: (dc, cacheD q cd (hr l) (lr .none l) mx ac) :: (cd, o) :: (seg .none .none l ++ T) := by
  intro p hp
  simp only [List.mem_cons, List.mem_append] at hp ⊢
  rcases hp with e | e | e | e | e | e | e | e | e <;> simp only [e, true_or, or_true]
theorem led_back8 : ∀ p ∈ A1 :: A2 :: A3 :: A4 :: A5 :: A6 :: (c, instObj 189 dc) :: (dc, cacheD q cd (hr l') (lr .none l') mx ac) :: (cd, o') :: (seg .none .none l' ++ B2 :: B1 :: T), p ∈ (B2 :: B1 :: A1 :: A2 :: A3 :: A4 :: A5 :: A6 :: T) ++ cacheLed c dc cd q o' l' mx ac := by
  intro p hp
  simp only [cacheLed, List.mem_cons, List.mem_append] at hp ⊢
  rcases hp with e | e | e | e | e | e | e | e | e | e | e | e | e <;> simp only [e, true_or, or_true]
theorem nd_apart8 {oI oe oa ov ol or' o1 o2 : Obj} (ND : (I :: ce :: ca :: vd :: la :: ar :: c :: dc :: cd :: (addrs l ++ T.map (·.1))).Nodup) (h1 : x1 ∉ I :: ce :: ca :: vd :: la :: ar :: c :: dc :: cd :: (addrs l ++ T.map (·.1))) (h2 : x2 ∉ x1 :: I :: ce :: ca :: vd :: la :: ar :: c :: dc :: cd :: (addrs l ++ T.map (·.1))) :
    ∀ p ∈ (x2, o2) :: (x1, o1) :: (I, oI) :: (ce, oe) :: (ca, oa) :: (vd, ov) :: (la, ol) :: (ar, or') :: T, p.1 ∉ c :: dc :: cd :: addrs l := by
  have up : ∀ y, y ∈ c :: dc :: cd :: addrs l → y ∈ I :: ce :: ca :: vd :: la :: ar :: c :: dc :: cd :: (addrs l ++ T.map (·.1)) := fun y hy => by
    simp only [List.mem_cons, List.mem_append] at hy ⊢
    rcases hy with e | e | e | e <;> simp only [e, true_or, or_true]
  intro p hp
  rcases List.mem_cons.mp hp with rfl | hp
  · exact fun q => h2 (.tail _ (up _ q))
  · rcases List.mem_cons.mp hp with rfl | hp
    · exact fun q => h1 (up _ q)
    · exact nd_apart ND p hp
theorem fresh_all {h₀ h : Heap} {L a d : Addr} {big : List (Addr × Obj)} (N : News h₀ L h big) (h1 : h.get? a = none) (h2 : h.get? d = none) : ∀ z ∈ big.map (·.1), z ≠ a ∧ z ≠ d := by
  intro z hz
  obtain ⟨p, hp, rfl⟩ := List.mem_map.mp hz
  have e := (N p hp).1
  exact ⟨fun z => by (rw [z, h1] at e; cases e), fun z => by (rw [z, h2] at e; cases e)⟩
end

theorem miss_mid {prog : Program} {w : World} {x : Fx} {ol oc ov o oi : Obj} {I vd la : Addr} {lvs : List Value} {lns : List Int} {nl : Nat} {l : List Nd} {ckv kvs : List (Int × Value)} {M key : Int} {tM tk : Tok} {T : List (Addr × Obj)} {i : Nat} {m₁ m' : Str → Option Value} {nx : List (Addr × Obj)} {h₀ h' : Heap} {L : Addr} {s : Shared} {tk' : Nat}
    {n : Nd} {x1 x2 : Addr} {ov' o' : Obj} {ckv' : List (Int × Value)} {j : Int} {t1 t2 t3 t4 tM' : Tok} {c1 c2 : Nat} (C : Co prog w x [] ol oc ov o vd la lvs lns nl l ckv kvs M tM T i m₁ nx) (hlk : l.map (·.k) = lns) (hnm : key ∉ l.map (·.k)) (hk : n.k = key) (hv : n.v = .ref x2)
    (C8 : CacheOk prog w x.pn (n :: l.take (x.pn - 1)) o' ckv') (hdv : ov'.IsDictOf (PySem.intKind prog w) (stored kvs key (.ref x1)))
    (ND8 : (I :: x.ce :: x.ca :: vd :: la :: x.ar :: x.c :: x.dc :: x.cd :: (addrs (n :: l.take (x.pn - 1)) ++ (x2 :: x1 :: T.map (·.1)))).Nodup) (F : Fr h₀ L h' m')
    (N : News h₀ L h' ((I, oi) :: (x.ce, ol) :: (x.ca, oc) :: (vd, ov') :: (la, listOf lvs.toArray nl) :: (x.ar, listOf x.zs.toArray x.c7) :: (x.c, instObj 189 x.dc) :: (x.dc, cacheD x.q x.cd (hr (n :: l.take (x.pn - 1))) (lr .none (n :: l.take (x.pn - 1))) (.int x.p x.tmx) (.int x.p x.tac)) :: (x.cd, o') ::
      (seg .none .none (n :: l.take (x.pn - 1)) ++ (x2, listOf [.int key t1, .int j t2].toArray c1) :: (x1, listOf [.int key t3, .int j t4].toArray c2) :: T)))
    (e1 : m' (Str.ofString "requests") = some (.ref x.ar)) (e2 : m' (Str.ofString "places") = some (.int x.p x.tp)) (e3 : m' (Str.ofString "fewer") = some (.int x.f x.tf)) (e4 : m' (Str.ofString "values") = some (.ref vd)) (e5 : m' (Str.ofString "missed") = some (.int (M + 1) tM')) (e6 : m' (Str.ofString "key") = some (.int key tk)) :
    MidP h₀ L s (P3 prog w x [(I, oi)] i key lns M) .next ⟨h', s.gens, s.drawn, tk', s.os⟩ :=
  MidP.intro _ F N (fun _ h => h) (p3_miss (k1 := 0) (k2 := 0) C hlk hnm hk hv C8 hdv ND8 e1 e2 e3 e4 e5 e6)

theorem slice_upto {prog : Program} {w : World} {A : Around} {E : Value → Shared → Prop} {s : Shared} {h₀ : Heap} {L : Addr} {m : Str → Option Value} {news : List (Addr × Obj)} {value slice : PySem.Expr} {l : Addr} {vs : List Value} {ns : List Int} {y : Int} {ty : Tok} {c : Nat} {Q : Value → Shared → Prop}
    (F : Fr h₀ L s.heap m) (N : News h₀ L s.heap news) (hm : (l, listOf vs.toArray c) ∈ news) (hi : IntsAre vs ns) (hy : 0 ≤ y) (hz : ns.length ≤ 1000)
    (h : ∀ D ws h', Fr h₀ L h' m → News h₀ L h' ((D, listOf (List.toArray ws) 0) :: news) → (∀ p ∈ news, p.1 < D) → IntsAre ws (ns.take y.toNat) → Q (.ref D) { s with heap := h' })
    (hs : subscripted slice false (.ref l) (.ref s.heap.objs.size) = operate [.ref s.heap.objs.size, .ref l] (getItem (.ref l) (.ref s.heap.objs.size))) (ht : ∀ r, letTemporaryGo value (.ref l) r = pure ()) :
    wpAny (model prog w) A (subscriptTail value slice (.ref l) (.ref s.heap.objs.size)) Q E { s with heap := s.heap.push { cls := .type "slice", data := .fields #[.none, .int y ty, .none] } } :=
  kmk_slice_ints (c := (ns.take y.toNat).length) F N ⟨_, (N _ hm).1, rfl, _, rfl⟩ .none (.int y ty) hi (kmk_upto hi hy) rfl (fun D ws h' F' N' l1 hI _ _ => h D ws h' F' N' l1 hI) hs ht (by have := IntsAre.length hi; rw [List.size_toArray, sizeLine_eq]; omega)

theorem led_drop {A0 A1 A2 A3 A4 A5 A6 A7 A8 A9 D1 D2 : Addr × Obj} {W : List (Addr × Obj)} : ∀ p ∈ A0 :: A1 :: A2 :: A3 :: A4 :: A6 :: A7 :: A8 :: A9 :: W, p ∈ A0 :: D1 :: D2 :: A1 :: A2 :: A3 :: A4 :: A5 :: A6 :: A7 :: A8 :: A9 :: W := by
  intro p hp
  simp only [List.mem_cons] at hp ⊢
  rcases hp with e | e | e | e | e | e | e | e | e | e <;> simp only [e, true_or, or_true]
section
variable {I ce ca vd la ar c dc cd y : Addr} {l : List Nd} {T : List (Addr × Obj)}
theorem nd_la (ND : (I :: ce :: ca :: vd :: la :: ar :: c :: dc :: cd :: (addrs l ++ T.map (·.1))).Nodup) (h : y ∉ I :: ce :: ca :: vd :: la :: ar :: c :: dc :: cd :: (addrs l ++ T.map (·.1))) : (I :: ce :: ca :: vd :: y :: ar :: c :: dc :: cd :: (addrs l ++ T.map (·.1))).Nodup := by
  refine nd_of (List.nodup_cons.mpr ⟨h, ND⟩) fun x => ?_
  simp only [List.count_cons, List.count_append]; omega
theorem off_I {o1 o2 o3 o4 o5 o6 o7 o8 : Obj} (ND : (I :: ce :: ca :: vd :: la :: ar :: c :: dc :: cd :: (addrs l ++ T.map (·.1))).Nodup) : ∀ p ∈ (ce, o1) :: (ca, o2) :: (vd, o3) :: (la, o4) :: (ar, o5) :: (c, o6) :: (dc, o7) :: (cd, o8) :: (seg .none .none l ++ T), p.1 ≠ I := by
  obtain ⟨⟨i1, i2, i3, i4, i5, i6, i7, i8⟩, -, -, -, -, tI, -⟩ := nd_facts ND
  simp only [List.forall_mem_cons]
  exact ⟨Ne.symm i1, Ne.symm i2, Ne.symm i3, Ne.symm i4, Ne.symm i5, Ne.symm i6, Ne.symm i7, Ne.symm i8, tI⟩
end
theorem inv_next {prog : Program} {w : World} {x : Fx} {ol oc ov o oN oi : Obj} {I vd la x9 : Addr} {lvs vs9 : List Value} {lns : List Int} {nl : Nat} {l : List Nd} {ckv kvs : List (Int × Value)} {M key : Int} {tM : Tok} {T : List (Addr × Obj)} {rs : List Int} {i : Nat} {m₁ m' : Str → Option Value} {nx : List (Addr × Obj)} {h₀ h' : Heap} {L : Addr} (F : Fr h₀ L h' m')
    (D : Co prog w x [(I, oi)] ol oc ov o vd la lvs (lns.erase key) nl l ckv kvs (lruStep x.pn (lns, M) key).2 tM T (i + 1) m₁ nx) (hlk : l.map (·.k) = (lruStep x.pn (lns, M) key).1) (hlt : i < rs.length) (hlr : (lns, M) = lru x.pn (rs.take i)) (hkey : key = rs.getD i 0)
    (dN : oN.data = .cell (some (.ref x9))) (hk9 : IntsAre vs9 (lruStep x.pn (lns, M) key).1) (hx : x9 ∉ I :: x.ce :: x.ca :: vd :: la :: x.ar :: x.c :: x.dc :: x.cd :: (addrs l ++ T.map (·.1)))
    (e1 : m' (Str.ofString "requests") = some (.ref x.ar)) (e2 : m' (Str.ofString "places") = some (.int x.p x.tp)) (e3 : m' (Str.ofString "fewer") = some (.int x.f x.tf)) (e4 : m' (Str.ofString "values") = some (.ref vd)) (e5 : m' (Str.ofString "missed") = some (.int (lruStep x.pn (lns, M) key).2 tM)) :
    InvL prog w x rs (i + 1) m' (ledL x [] oN oc ov o vd x9 vs9 0 l T) ∧ ∀ p ∈ ledL x [] oN oc ov o vd x9 vs9 0 l T, p.1 ≠ I := by
  have ND := nd_la D.nd hx
  refine ⟨⟨oN, oc, ov, o, vd, x9, vs9, _, 0, l, ckv, kvs, _, tM, T, ⟨e1, e2, e3, e4, e5, rfl, dN, D.dc, D.lov, D.loc, D.ok, D.dv, D.sz, hk9, D.vals, (List.nodup_cons.mp ND).2⟩, hlk, ?_⟩, off_I ND⟩
  rw [lru_step hlt, ← hlr, ← hkey]

theorem led_c {A0 A1 A2 A3 A4 A6 A7 A8 A9 : Addr × Obj} {W : List (Addr × Obj)} : ∀ p ∈ A7 :: A8 :: A9 :: A0 :: A1 :: A2 :: A3 :: A4 :: A6 :: W, p ∈ A0 :: A1 :: A2 :: A3 :: A4 :: A6 :: A7 :: A8 :: A9 :: W := by
  intro p hp
  simp only [List.mem_cons] at hp ⊢
  rcases hp with e | e | e | e | e | e | e | e | e | e <;> simp only [e, true_or, or_true]
theorem led_d {A0 A1 A2 A3 A4 A6 A7 A8 A9 : Addr × Obj} {W : List (Addr × Obj)} : ∀ p ∈ A0 :: A1 :: A2 :: A3 :: A4 :: A6 :: A7 :: A8 :: A9 :: W, p ∈ A7 :: A8 :: A9 :: A0 :: A1 :: A2 :: A3 :: A4 :: A6 :: W := by
  intro p hp
  simp only [List.mem_cons] at hp ⊢
  rcases hp with e | e | e | e | e | e | e | e | e | e <;> simp only [e, true_or, or_true]
theorem led_c3 {A0 A1 A2 A3 A4 A6 A7 A8 A9 B1 B2 B3 : Addr × Obj} {W : List (Addr × Obj)} : ∀ p ∈ A7 :: A8 :: A9 :: B1 :: B2 :: B3 :: A0 :: A1 :: A2 :: A3 :: A4 :: A6 :: W, p ∈ B1 :: B2 :: B3 :: A0 :: A1 :: A2 :: A3 :: A4 :: A6 :: A7 :: A8 :: A9 :: W := by
  intro p hp
  simp only [List.mem_cons] at hp ⊢
  rcases hp with e | e | e | e | e | e | e | e | e | e | e | e | e <;> simp only [e, true_or, or_true]
theorem led_d3 {A0 A1 A2 A3 A4 A6 A7 A8 A9 B1 B2 B3 : Addr × Obj} {W : List (Addr × Obj)} : ∀ p ∈ B1 :: B2 :: B3 :: A0 :: A1 :: A2 :: A3 :: A4 :: A6 :: A7 :: A8 :: A9 :: W, p ∈ A7 :: A8 :: A9 :: B1 :: B2 :: B3 :: A0 :: A1 :: A2 :: A3 :: A4 :: A6 :: W := by
  intro p hp
  simp only [List.mem_cons] at hp ⊢
  rcases hp with e | e | e | e | e | e | e | e | e | e | e | e | e <;> simp only [e, true_or, or_true]

theorem led_fin {A0 A1 A2 A3 A6 A7 A8 A9 AI : Addr × Obj} {W : List (Addr × Obj)} : ∀ p ∈ AI :: A1 :: A2 :: A3 :: A0 :: A6 :: A7 :: A8 :: A9 :: W, p ∈ A0 :: AI :: A1 :: A2 :: A3 :: A6 :: A7 :: A8 :: A9 :: W := by
  intro p hp
  simp only [List.mem_cons] at hp ⊢
  rcases hp with e | e | e | e | e | e | e | e | e | e <;> simp only [e, true_or, or_true]
theorem no_more' {p f : Int} (hf : 1 ≤ f) (hp : f ≤ p) (rs : List Int) {M1 M : Int} (hM : M = (lru p.toNat rs).2) (h : M1 ∈ (finalS f rs).map (·.2)) : (p - f + 1) * M ≤ p * M1 + (p - f + 1) * f := by
  have a : ((p.toNat : Nat) : Int) = p := by omega
  have b : ((f.toNat : Nat) : Int) = f := by omega
  have := no_more (k := p.toNat) (h := f.toNat) (by omega) (by omega) rs (M := M1) (by rw [b]; exact h)
  rw [a, b] at this
  rw [hM]; exact this
theorem never_fewer' {p : Int} (hp : 1 ≤ p) (rs : List Int) {M1 M : Int} (hM : M = (lru p.toNat rs).2) (h : ∀ a ∈ (finalS p rs).map (·.2), M1 ≤ a) : M1 ≤ M := by
  have a : ((p.toNat : Nat) : Int) = p := by omega
  rw [hM]
  exact never_fewer (k := p.toNat) (by omega) rs (by rw [a]; exact h)
theorem fr_same {h₀ h h' : Heap} {L : Addr} {m : Str → Option Value} (F : Fr h₀ L h m) (K : Kp [] h h') : Fr h₀ L h' m := Kp.fr F K fun a ha => nomatch ha
theorem news_kp {h₀ h h' : Heap} {L : Addr} {nx : List (Addr × Obj)} (N : News h₀ L h nx) (K : Kp [] h h') : News h₀ L h' nx := fun p hp => ⟨K _ _ (fun x => nomatch x) (N p hp).1, (N p hp).2⟩

theorem led_req {A1 A2 A3 A4 A5 : Addr × Obj} {W : List (Addr × Obj)} : ∀ p ∈ [A1, A2, A5], p ∈ [] ++ A1 :: A2 :: A3 :: A4 :: A5 :: W := by
  intro p hp
  simp only [List.nil_append, List.mem_cons, List.not_mem_nil, or_false] at hp ⊢
  rcases hp with e | e | e <;> simp only [e, true_or, or_true]
end Mine
end


/-! LW -/
section
open PySem PySem.W PyProof.Rows PySem.Spec PySem.Calls
set_option maxRecDepth 100000
set_option maxHeartbeats 8000000
set_option linter.unusedVariables false
set_option linter.unusedSimpArgs false
namespace Mine
example : (fun (_ : OpenLaw) (_ : Params → Frag) => True) PySem.Challenge.rw_ft5003_01 hd.heap_39 := by k_fill; trivial
local macro_rules | `(tactic| walk_at "call ref") => `(tactic| (k_here; (with_reducible show wpAny _ _ (call (Value.ref 198) _) _ _ _); refine Held.out ?_))
local macro_rules | `(tactic| walk_at "call ref") => `(tactic| (k_here; (with_reducible show wpAny _ _ (call (Value.ref 203) _) _ _ _); refine Held.out ?_))
local macro_rules | `(tactic| walk_at "binaryOp Mod int int") => `(tactic| (k_here; k_dflt (refine mod_int' (by first | decide | exact fm4 _ | assumption | omega) ?_)))
local macro_rules | `(tactic| walk_at "exec Assign cons ListComp") => `(tactic| (k_here; refine Held.out ?_))
local macro_rules | `(tactic| walk_at "eval ListComp") => `(tactic| (k_here; refine Held.out ?_))
theorem get13 {vs : List Value} {ns : List Int} (hi : IntsAre vs ns) (h : ns.length = 13) : ∃ n0 n1 n2 n3 n4 n5 n6 n7 n8 n9 n10 n11 n12 t0 t1 t2 t3 t4 t5 t6 t7 t8 t9 t10 t11 t12,
    ns = [n0, n1, n2, n3, n4, n5, n6, n7, n8, n9, n10, n11, n12] ∧ vs = [.int n0 t0, .int n1 t1, .int n2 t2, .int n3 t3, .int n4 t4, .int n5 t5, .int n6 t6, .int n7 t7, .int n8 t8, .int n9 t9, .int n10 t10, .int n11 t11, .int n12 t12] := by
  match ns, h with
  | [n0, n1, n2, n3, n4, n5, n6, n7, n8, n9, n10, n11, n12], _ =>
    obtain ⟨t0, v0, rfl, h0⟩ := hi.cons_inv
    obtain ⟨t1, v1, rfl, h1⟩ := h0.cons_inv
    obtain ⟨t2, v2, rfl, h2⟩ := h1.cons_inv
    obtain ⟨t3, v3, rfl, h3⟩ := h2.cons_inv
    obtain ⟨t4, v4, rfl, h4⟩ := h3.cons_inv
    obtain ⟨t5, v5, rfl, h5⟩ := h4.cons_inv
    obtain ⟨t6, v6, rfl, h6⟩ := h5.cons_inv
    obtain ⟨t7, v7, rfl, h7⟩ := h6.cons_inv
    obtain ⟨t8, v8, rfl, h8⟩ := h7.cons_inv
    obtain ⟨t9, v9, rfl, h9⟩ := h8.cons_inv
    obtain ⟨t10, v10, rfl, h10⟩ := h9.cons_inv
    obtain ⟨t11, v11, rfl, h11⟩ := h10.cons_inv
    obtain ⟨t12, v12, rfl, h12⟩ := h11.cons_inv
    obtain rfl := h12.nil_inv
    exact ⟨n0, n1, n2, n3, n4, n5, n6, n7, n8, n9, n10, n11, n12, t0, t1, t2, t3, t4, t5, t6, t7, t8, t9, t10, t11, t12, rfl, rfl⟩
local macro_rules | `(tactic| k_ne) => `(tactic| (refine neN ?_; (try dsimp only); first | assumption | exact Ne.symm (by assumption) | omega))
local macro_rules | `(tactic| walk_at "WhlIf") => `(tactic| (first | (refine WhlIf.yes (by simp only [decide_eq_true_eq, List.length_nil, ite_self]; omega) ?_) | (refine WhlIf.no (by simp only [decide_eq_false_iff_not, List.length_nil, ite_self]; omega) ?_)))
local macro_rules | `(tactic| walk_at "exec For") => `(tactic| (k_here; refine Held.out ?_))
local macro_rules | `(tactic| walk_at "exec For Name") => `(tactic| (k_here; refine Held.out ?_))
local macro_rules | `(tactic| walk_at "exec For Name Call") => `(tactic| (k_here; refine Held.out ?_))
local macro_rules | `(tactic| walk_at "exec For Name Call cons") => `(tactic| (k_here; refine Held.out ?_))
local macro_rules | `(tactic| walk_at "exec For Name Call cons nil") => `(tactic| (k_here; refine Held.out ?_))
local macro_rules | `(tactic| walk_at "subscriptTail") => `(tactic| (k_here; (with_reducible show wpAny _ _ (subscriptTail _ _ (Value.ref _) (Value.int _ _)) _ _ _); k_dflt (refine' item_lst ?N ?hm ?hi ?hl ?_ ?hs; (case N => k_asm); (case hm => k_mem); (case hi => assumption); (case hl => assumption); (case hs => with_unfolding_all rfl); k_whole); intro t'))
local macro_rules | `(tactic| walk_at "call ref") => `(tactic| (k_here; (with_reducible show wpAny _ _ (call (Value.ref 116) _) _ _ _); refine Held.out ?_))
local macro_rules | `(tactic| walk_at "call ref") => `(tactic| (k_here; (with_reducible show wpAny _ _ (call (Value.ref 101) _) _ _ _); refine Held.out ?_))
local macro_rules | `(tactic| walk_at "exec If") => `(tactic| (k_here; (with_reducible show wpAny _ (Around.deeper callerA _) _ _ _ _); refine Held.out ?_))
local macro_rules | `(tactic| walk_at "pyIter ref") => `(tactic| (k_here; refine Held.out ?_))
local macro_rules | `(tactic| k_mem) => `(tactic| first | exact List.Mem.head _ | assumption | (refine' List.Mem.tail _ ?_; k_mem))
local macro_rules | `(tactic| k_all) => `(tactic| first | exact List.forall_mem_nil _ | (refine' List.forall_mem_cons.mpr ⟨?a, ?b⟩; (case a => k_ne); (case b => k_all)) | assumption | exact fun p hp => Nat.ne_of_lt (ktn_ltOf (by assumption) p hp))
local macro_rules | `(tactic| walk_at "compareOp In int ref") => `(tactic| (k_here; k_dflt (refine' in_lst ?N ?m ?i ?b ?_; (case N => k_asm); (case m => k_mem); (case i => assumption); (case b => assumption); k_whole)))
local macro_rules | `(tactic| walk_at "getMethod ref") => `(tactic| (k_here; (with_reducible show wpAny _ _ (getMethod (Value.ref _) (PySem.Str.ofString "remove") _) _ _ _); k_dflt (refine' kf_method ?N ?m PySem.F.slot_list_remove PySem.F.type_list_remove ?_; (case N => k_asm); (case m => k_mem); k_whole)))
local macro_rules | `(tactic| walk_at "setItem ref int") => `(tactic| (k_here; k_dflt (refine' kda_set (knd := PySem.intKind _ _) ?F ?N ?U ?d (intKind_is _ _ _ _) ?z ?_; (case F => k_asm); (case N => k_asm); (case U => k_updF); (case d => k_asm); (case z => assumption)); intro h' o' F' N' hd'; (try dsimp only at N'); (try k_sweep)))
local macro_rules | `(tactic| walk_at "compareOp NotEq ref ref") => `(tactic| (k_here; refine Held.out ?_))
local macro_rules | `(tactic| walk_at "subscriptTail") => `(tactic| (k_here; (with_reducible show wpAny _ _ (subscriptTail _ _ (Value.ref _) (Value.int _ _)) _ _ _); k_dflt (refine kda_item (knd := PySem.intKind _ _) (by k_asm) (by k_mem) (by k_asm) (intKind_is _ _ _ _) (by assumption) ?_)))
local macro_rules | `(tactic| walk_at "call builtin:list.remove") => `(tactic| (k_here; k_dflt (refine' remove_lst ?F ?N ?i ?k ?z ?U ?_; (case F => k_asm); (case N => k_asm); (case U => k_updF); (case i => assumption); (case k => assumption); (case z => assumption)); intro h' vs' F' N' hi'; (try dsimp only at N'); (try k_sweep)))
local macro_rules | `(tactic| walk_at "subscriptTail Name Slice ref ref") => `(tactic| (k_here; (with_reducible show wpAny _ _ (subscriptTail _ (PySem.Expr.Slice none _ none _) (Value.ref _) (Value.ref _)) _ _ _); k_dflt (refine' slice_upto ?F ?N ?m ?i ?y ?z ?_ ?s ?t; (case F => k_asm); (case N => k_asm); (case m => k_mem); (case i => assumption); (case y => assumption); (case z => assumption); (case s => with_unfolding_all rfl); (case t => (intro _; with_unfolding_all rfl))); intro D' ws' h' F' N' l1 hI'; (try k_lt l1); (try k_sweep)))
local macro_rules | `(tactic| walk_at "binaryOp Add ref ref") => `(tactic| (k_here; k_dflt (refine' add_lst2 ?F ?N ?m ?i ?m2 ?i2 ?z ?_; (case F => k_asm); (case N => k_asm); (case m => k_mem); (case m2 => k_mem); (case i => exact .cons _ _ .nil); (case i2 => assumption); (case z => assumption)); intro x' h' vs' F' N' hk' l1; (try k_lt l1); (try k_sweep)))
local macro_rules | `(tactic| walk_at "call builtin:len") => `(tactic| (k_here; k_dflt (refine' len_lst ?N ?m ?z ?_; (case N => k_asm); (case m => k_mem); (case z => assumption)); intro t' tk'))
local macro_rules | `(tactic| walk_at "call builtin:len") => `(tactic| (k_here; (with_reducible show wpAny _ _ (call (Value.builtin "len") [Value.ref (Fx.c _)]) _ _ _); refine Held.out ?_))
local macro_rules | `(tactic| walk_at "compareOp In int ref") => `(tactic| (k_here; (with_reducible show wpAny _ _ (compareOp CmpOp.In _ (Value.ref (Fx.c _))) _ _ _); refine Held.out ?_))
local macro_rules | `(tactic| walk_at "CompSrcT") => `(tactic| (refine Held.out ?_))
theorem law_holds : PySem.Challenge.rw_ft5003_01.Holds := hd (by
  k_go0
  all_goals try k_fold
  k_steps
  refine Held.in ?_
  rename Below callerA _ _ _ => KB
  rename Fr _ _ _ _ => F1
  rename News _ _ _ _ => N1
  rename Frag.In _ _ => KX
  rename Top _ _ _ _ _ _ => KT
  rename Heap.IsList _ _ _ => hL
  rename IntsAre _ _ => hI
  refine law_numbers KB F1 KX KT rfl (by decide) (by decide) hL hI (by omega) News.nil ?_
  intro h1 tk1 r vs' ns' nn K1 R1 hI1 hn13 hr0
  obtain ⟨F2, N2, offr⟩ := frn_new F1 N1 (fun b o e => K1 b o (by simp) e) hr0 (R1 _ (.head _)).1
  clear F1 N1 R1
  simp only [List.forall_mem_cons] at offr
  obtain ⟨or1, or2, -⟩ := offr
  (try dsimp only)
  (try k_fold)
  k_steps
  refine Held.in ?_
  rename Fr _ _ _ _ => F3
  rename News _ _ _ _ => N3
  obtain ⟨m3, hm3, F4⟩ := fr_view F3
  obtain ⟨p, tp, v1, hp⟩ : ∃ p tp, m3 (Str.ofString "places") = some (.int p tp) ∧ p = 1 + Int.fmod (ns'.getD 0 0 + 1) 4 := ⟨_, _, by rw [hm3]; rfl, rfl⟩
  obtain ⟨f, tf, v2, hf⟩ : ∃ f tf, m3 (Str.ofString "fewer") = some (.int f tf) ∧ f = 1 + Int.fmod (ns'.getD 1 0) p := ⟨_, _, by rw [hm3]; rfl, by rw [hp]; rfl⟩
  have v3 : m3 (Str.ofString "found") = some (.ref r) := by rw [hm3]; rfl
  clear F3 hm3
  obtain ⟨hp1, hp4⟩ := places_bound hp
  obtain ⟨hf1, hf4⟩ := fewer_bound hp1 hf
  have F5 := fr_put (fr_put (fr_put F4 v2) ((if_neg (by decide)).trans v1)) ((if_neg (by decide)).trans ((if_neg (by decide)).trans v3))
  clear F4
  refine' Assign_mod5 ?a0 ?a1 ?a2 ?a3 ?a4 ?a5 ?a6 ?a7 ?a8 ?a9 ?aa ?ab ?ac ?ad
  case a0 => exact F5
  case a1 => rfl
  case a2 => with_unfolding_all rfl
  case a3 => rfl
  case a4 => with_unfolding_all rfl
  case a5 => decide
  case a6 => rfl
  case a7 => decide
  case a8 => rfl
  case a9 => decide
  case aa => rfl
  case ab => rfl
  case ad => intro _; rfl
  case ac =>
    (try dsimp only)
    (try k_fold)
    k_steps
    rename Fr _ _ _ _ => F6
    rename News _ _ _ _ => N6
    rename IntsAre _ (List.take _ _) => hI6
    rename _ ≤ ns'.length => hL6
    refine ModSrc.intro F6 N6 (.head _) hI6 (by rw [IntsAre.length hI6]; omega) ?_
    clear F6
    intro h7 tk7 lr c7 zs F7 N7 off7 hI7
    refine reqs_k hn13 hI7 rfl fun rs hrsl hrs5 hI8 => ?_
    clear hI7
    clear N6 hI6
    simp only [List.forall_mem_cons] at off7
    have o71 := off7.1
    have o72 := off7.2.1
    have o73 := off7.2.2.1
    have o74 := off7.2.2.2.1
    clear off7
    (try dsimp only)
    (try k_fold)
    k_steps
    refine Held.in ?_
    refine' wpAny_For ?f1 ?f2
    case f2 => (intro _; rfl)
    k_steps
    refine Held.in ?_
    rename Fr _ _ _ _ => F9
    rename News _ _ _ _ => N9
    rename IsRange _ _ _ _ _ _ _ _ => hR9
    refine start_k (rs := rs) F9 N9 rfl (by rw [ite_self, ite_self]) (by assumption) (by assumption) (by assumption) (by assumption) (by assumption) o73 o74 (Ne.symm (Nat.ne_of_lt (Nat.lt_succ_self _))) (by assumption) (by assumption) (by assumption) (by assumption) (by assumption) (by assumption) rfl rfl rfl rfl rfl hp1 hp4 ?_
    intro x hx nx hJ N10
    refine loop_range (n := rs.length) (InvL _ _ x rs) rfl F9 N10 hJ hR9 (by omega) ?it ?id
    case id =>
      clear N9 N10 F9 hJ hR9
      obtain ⟨h01, h02, h03, h04, h05, h06, h07, h08, h09, h10, h11, h12, h13, h14, h15, h16⟩ := Fx.mk.inj ((show x = ⟨x.pn, x.p, x.f, x.tp, x.tf, x.ar, x.zs, x.c7, x.ce, x.ca, x.c, x.dc, x.cd, x.q, x.tmx, x.tac⟩ from rfl).symm.trans hx)
      clear hx h11 h12 h13 h14 h15 h16
      intro m₁ nx₁ h tk hJ₁ F11 N11
      obtain ⟨ol, oc, ov, o, vd, la, lvs, lns, nl, l, ckv, kvs, M, tM, T, hC, hlk, hlr⟩ := hJ₁
      have F12 := fr_as5 F11 hC.m1 hC.m2 hC.m3 hC.m4 hC.m5
      clear F11
      rw [hC.led] at N11
      unfold ledL at N11
      rw [h02, h03, h04, h05, h06] at F12
      rw [h06, h07, h02, h09, h10] at N11
      rw [List.take_length] at hlr
      have hMM : M = (lru p.toNat rs).2 := by rw [← h01, ← hlr]
      have hMb := lru_bounds p.toNat rs
      rw [← hMM] at hMb
      obtain ⟨hM0, hM1⟩ := hMb
      have hM10 : M ≤ 10 := by omega
      have N13 := news_sub N11 (led_req)
      clear N11 hC
      (try dsimp only)
      (try k_fold)
      k_steps
      refine Held.in ?_
      refine wpAny_If ?_
      k_steps
      refine Held.in ?_
      rename Fr _ _ _ _ => F14
      rename News _ _ _ _ => N14
      refine law_least KB F14 KX KT rfl (by decide) (by decide) ⟨_, (N14 _ (.tail _ (.tail _ (.head _)))).1, rfl, _, rfl⟩ hI8 hrsl hf1 (Int.le_trans hf4 hp4) ?_
      intro h15 tk15 M1 t15 K15 hm15 hl15
      have F15 := fr_same F14 K15
      have N15 := news_kp N14 K15
      clear F14 N14 K15
      have hno := no_more' hf1 hf4 rs hMM hm15
      obtain ⟨b10, b11⟩ := final_bounds hm15
      have b12 : M1 ≤ 10 := by omega
      clear hl15 hm15 b11
      (try dsimp only)
      k_steps
      refine Held.in ?_
      rename Fr _ _ _ _ => F16
      rename News _ _ _ _ => N16
      refine law_least KB F16 KX KT rfl (by decide) (by decide) ⟨_, (N16 _ (.tail _ (.tail _ (.head _)))).1, rfl, _, rfl⟩ hI8 hrsl hp1 hp4 ?_
      intro h17 tk17 M2 t17 K17 hm17 hl17
      have F17 := fr_same F16 K17
      have N17 := news_kp N16 K17
      clear F16 N16 K17
      have hnf := never_fewer' hp1 rs hMM hl17
      clear hl17 hm17
      (try dsimp only)
      k_steps
    case it =>
      clear N9 N10 F9 hJ hR9
      obtain ⟨h01, h02, h03, h04, h05, h06, h07, h08, h09, h10, h11, h12, h13, h14, h15, h16⟩ := Fx.mk.inj ((show x = ⟨x.pn, x.p, x.f, x.tp, x.tf, x.ar, x.zs, x.c7, x.ce, x.ca, x.c, x.dc, x.cd, x.q, x.tmx, x.tac⟩ from rfl).symm.trans hx)
      clear hx h11 h12 h13 h14 h15 h16
      rename_i z66 z67 z68 z69 z70 z71 z72 z73 z74 z75 z76 z77 z78 z79 z80 z81 z82 z83 z84 z85 z86 z87 z88 z89 z90 z91 z92 z93 z94 z95 z96 z97 z98 z99 z100 z101 z102 z103 z104 z105 z106 z107 z108 z109 z110 z111 z112 z113 z114 z115 z116 z117 z118 z119 z120 z121 z122 z123 z124 z125 z126 z127 z128 z129 z130 z131 z132 z133 z134 z135 z136 z137 z138 z139 z140 z141 z142 z143 z144 z145 z146 z147 z148 z149 z150 z151 z152 z153 z154 z155 z156 z157 z158 z159 z160 z161 z162 z163 z164 z165 z166 z167 z168 z169 z170 z171 z172 z173 z174 z175
      (try clear z175); (try clear z174); (try clear z173); (try clear z172); (try clear z171); (try clear z170); (try clear z169); (try clear z168); (try clear z167); (try clear z166); (try clear z165); (try clear z164); (try clear z163); (try clear z162); (try clear z161); (try clear z160); (try clear z159); (try clear z158); (try clear z157); (try clear z156); (try clear z155); (try clear z154); (try clear z153); (try clear z152); (try clear z151); (try clear z150); (try clear z149); (try clear z148); (try clear z147); (try clear z146); (try clear z145); (try clear z144); (try clear z143); (try clear z142); (try clear z141); (try clear z140); (try clear z139); (try clear z138); (try clear z137); (try clear z136); (try clear z135); (try clear z134); (try clear z133); (try clear z132); (try clear z131); (try clear z130); (try clear z129); (try clear z128); (try clear z127); (try clear z126); (try clear z125); (try clear z124); (try clear z123); (try clear z122); (try clear z121); (try clear z120); (try clear z119); (try clear z118); (try clear z117); (try clear z116); (try clear z115); (try clear z114); (try clear z113); (try clear z112); (try clear z111); (try clear z110); (try clear z109); (try clear z108); (try clear z107); (try clear z106); (try clear z105); (try clear z104); (try clear z103); (try clear z102); (try clear z101); (try clear z100); (try clear z99); (try clear z98); (try clear z97); (try clear z96); (try clear z95); (try clear z94); (try clear z93); (try clear z92); (try clear z91); (try clear z90); (try clear z89); (try clear z88); (try clear z87); (try clear z86); (try clear z85); (try clear z84); (try clear z83); (try clear z82); (try clear z81); (try clear z80); (try clear z79); (try clear z78); (try clear z77); (try clear z76); (try clear z75); (try clear z74); (try clear z73); (try clear z72); (try clear z71); (try clear z70); (try clear z69); (try clear z68); (try clear z67); (try clear z66)
      (try clear lifted)
      intro i m₁ nx₁ h tk I oi E₁ hlt hJ₁ F11 N11 off11
      obtain ⟨ol, oc, ov, o, vd, la, lvs, lns, nl, l, ckv, kvs, M, tM, T, hC, hlk, hlr⟩ := hJ₁
      have F12 := fr_as5 F11 hC.m1 hC.m2 hC.m3 hC.m4 hC.m5
      clear F11
      rw [hC.led] at N11 off11
      unfold ledL at N11 off11
      rw [h02, h03, h04, h05, h06] at F12
      rw [h06, h07, h02, h09, h10] at N11 off11
      have hoc := hC.dc
      have hol := hC.dl
      have ND0 := hC.nd
      rw [h06, h09, h10] at ND0
      have ND := nd_I ND0 off11
      clear ND0 off11
      obtain ⟨⟨i1, i2, i3, i4, i5, i6, i7, i8⟩, ⟨e1, e2, e3, e4, e5, e6, e7⟩, ⟨a1, a2, a3, a4, a5, a6⟩, ⟨v1, v2, v3, v4, v5⟩, ⟨w1, w2, w3, w4⟩, -⟩ := nd_facts ND
      generalize hW : seg .none .none l ++ T = W at N11
      generalize hmru : hr l = mru at N11
      generalize hlru : Mine.lr .none l = lru at N11
      simp only [List.nil_append] at N11
      have hlt9 : i < rs.length ∧ rs.length ≤ 1000 := ⟨hlt, by omega⟩
      refine wpAny_assign_Name ?_
      (try dsimp only)
      (try k_fold)
      k_steps
      refine Held.in ?_
      rename Fr _ _ _ _ => F13
      rename News _ _ _ _ => N13
      subst hmru hlru hW
      have NC := news_sub N13 (led_in (c := x.c) (dc := x.dc) (cd := x.cd))
      refine get_any (l := l) (q := x.q) KB F13 KX KT rfl (by decide) (by decide) (nd_core ND) hC.ok hC.loc (vals_handed hC.vals) NC ?_
      intro h8 tk8 v8 l8 K8 N8 C8 P8 hT
      have F14 := fr_back F13 NC K8
      have N14 := news_sub (back_k (news_sub N13 led_out) (nd_apart ND) K8 N8) led_back
      clear NC F13 N13 K8 N8
      have ND8 := nd_perm ND P8
      have V8 := hC.vals.perm (told_mem hT)
      obtain ⟨-, -, -, -, -, tI, te, ta, tv, tw⟩ := nd_facts ND8
      generalize hW : seg .none .none l8 ++ T = W at N14 tI te ta tv tw
      generalize hmru : hr l8 = mru at N14
      generalize hlru : Mine.lr .none l8 = lru at N14
      (try dsimp only)
      (try k_fold)
      k_steps
      refine Held.in ?_
      rename Fr _ _ _ _ => F16
      rename News _ _ _ _ => N16
      rw [Int.toNat_natCast] at F16 hT
      obtain ⟨key, hkey⟩ : ∃ key, key = rs.getD i 0 := ⟨_, rfl⟩
      rw [← hkey] at F16 hT
      refine mono_p3 hC F16 I oi key ?pA ?pB
      case pA =>
        refine wpAny_If ?_
        have hI9 := hC.isl
        have hdv9 := hC.dv
        have hz9 : lvs.length ≤ 1000 := by
          have z1 := IntsAre.length hI9
          have z2 := hC.ok.size
          have z3 := hC.ok.small
          rw [← hlk, List.length_map] at z1
          omega
        rcases hT with ⟨pr, n, po, hl, hnk, hv8, hl8⟩ | ⟨hnm, hv8, hl8⟩
        · obtain ⟨va, vb, j, t1, t2, t3, t4, d1, d2, hva, hTa, hvb, hTb⟩ := V8 n (by rw [hl8]; exact .head _)
          rw [hv8, hva] at F16
          rw [hnk] at hvb hTa hTb
          have hmem9 : key ∈ lns := by rw [← hlk, hl, ← hnk]; simp
          have hin9 : decide (key ∈ lns) = true := decide_eq_true hmem9
          have hTaW : (va, listOf [.int key t1, .int j t2].toArray d1) ∈ W := by rw [← hW]; exact List.mem_append_right _ hTa
          have hTbW : (vb, listOf [.int key t3, .int j t4].toArray d2) ∈ W := by rw [← hW]; exact List.mem_append_right _ hTb
          k_steps
          refine Held.in ?_
          refine wpAny_If ?_
          k_steps
          refine Held.in ?_
          rename News _ _ _ _ => N17
          refine ne_intsK ⟨_, (N17 _ (show (va, listOf [.int key t1, .int j t2].toArray d1) ∈ _ by k_mem)).1, rfl, _, rfl⟩ (.cons _ _ (.cons _ _ .nil)) ⟨_, (N17 _ (show (vb, listOf [.int key t3, .int j t4].toArray d2) ∈ _ by k_mem)).1, rfl, _, rfl⟩ (.cons _ _ (.cons _ _ .nil)) (by ktr_units) ?_
          rw [decide_eq_true rfl]
          (try dsimp only)
          k_steps
          rename Fr _ _ _ _ => F18
          rename News _ _ _ _ => N18
          rename IntsAre _ (List.erase _ _) => hi18
          subst hmru hlru hW
          refine MidP.intro (ledL x [(I, oi)] ol oc ov o vd la _ (nl + 1) l8 T) F18 N18 ?_ (p3_hit (nl' := nl + 1) hC hlk C8 V8 (by rw [h06, h09, h10]; exact ND8) hl hnk hl8 (by rw [h06]; rfl) (by rw [h02, h04]; rfl) (by rw [h03, h05]; rfl) rfl rfl rfl hi18)
          intro p hp
          unfold ledL at hp
          rw [h06, h07, h02, h09, h10] at hp
          exact hp
        · have hmem9 : key ∉ lns := by rw [← hlk]; exact hnm
          have hin9 : decide (key ∈ lns) = false := decide_eq_false hmem9
          have hz8 : kvs.length ≤ sizeLine := by have := hC.sz; rw [sizeLine_eq]; omega
          rw [hv8] at F16
          k_steps
          refine Held.in ?_
          refine wpAny_If ?_
          k_steps
          refine Held.in ?_
          rename Fr _ _ _ _ => F18
          rename News _ _ _ _ => N18
          rename_i x1 hA lA hB ov9 hd9 x2 hX lB
          obtain rfl : l = l8 := hl8.symm
          subst hmru hlru hW
          have hp9 : 1 ≤ x.pn := by rw [h01]; omega
          have hpn : p = (x.pn : Int) := by rw [h01]; omega
          have f1 := nd_lt1 lA
          have f2 := nd_lt2 lB.1 lB.2
          have NC := news_sub N18 (led_in8 (c := x.c) (dc := x.dc) (cd := x.cd))
          have NO := news_sub N18 led_out8
          refine add_any (l := l) (q := x.q) KB F18 KX KT rfl (by decide) (by decide) (nd_core ND8) C8 hC.loc hp9 hpn hpn hnm NC ?_
          intro h9 tk9 n o9 ckv9 hnk hnv hna hnd NDn C9 K9 N9
          have F19 := fr_back F18 NC K9
          have N19 := news_sub (back_k NO (nd_apart8 ND8 f1 f2) K9 N9) led_back8
          have ND9 := nd_add ND8 f1 f2 (fresh_all NO hna hnd) NDn
          clear NC NO F18 N18 K9 N9
          (try dsimp only)
          k_steps
          rename Fr _ _ _ _ => F20
          rename News _ _ _ _ => N20
          rw [← h09, ← h10, ← h06, ← h07, ← h02] at N20
          rw [← h06, ← h09, ← h10] at ND9
          exact miss_mid hC hlk hnm hnk hnv C9 hd9 ND9 F20 N20 (by rw [h06]; rfl) (by rw [h02, h04]; rfl) (by rw [h03, h05]; rfl) rfl rfl rfl
      case pB =>
        intro fl s9 hM
        obtain ⟨rfl, h20, tk20, m20, nx20, rfl, F20, N20, ol20, oc20, ov20, o20, vd20, la20, lvs20, nl20, l20, ckv20, kvs20, tM20, T20, tk21, hD, e6, hlk20⟩ := hM
        have F21 := fr_as7 F20 hD.m1 hD.m2 hD.m3 hD.m4 hD.m5 e6 e6
        have hC8sz : lns.length ≤ 4 := by
          have z2 := hC.ok.size
          have z3 := hC.ok.small
          rw [← hlk, List.length_map]
          omega
        clear F20 hC F16 N16 hT V8 ND8 C8 hW hmru hlru tI te ta tv tw
        rw [hD.led] at N20
        unfold ledL at N20
        have ND9 := hD.nd
        rw [h02, h03, h04, h05, h06] at F21
        rw [h06, h07, h02, h09, h10] at N20
        rw [h06, h09, h10] at ND9
        have hoc9 := hD.dc
        have hol9 := hD.dl
        have hI20 := hD.isl
        obtain ⟨⟨j1, j2, j3, j4, j5, j6, j7, j8⟩, ⟨f1, f2, f3, f4, f5, f6, f7⟩, ⟨g1, g2, g3, g4, g5, g6⟩, ⟨u1, u2, u3, u4, u5⟩, ⟨y1, y2, y3, y4⟩, tI, te, ta, tv, tw⟩ := nd_facts ND9
        generalize hW : seg .none .none l20 ++ T20 = W20 at N20 tI te ta tv tw
        generalize hmru : hr l20 = mru20 at N20
        generalize hlru : Mine.lr .none l20 = lru20 at N20
        simp only [List.cons_append, List.nil_append] at N20
        have hz20 : (lns.erase key).length ≤ 1000 := by
          have z1 := hC8sz
          have z2 := List.length_erase_le (a := key) (l := lns)
          omega
        have hz21 : [key].length + ((lns.erase key).take (p - 1).toNat).length ≤ 1000 := by
          rw [List.length_take, List.length_singleton]; omega
        have hy20 : 0 ≤ p - 1 := by omega
        (try dsimp only)
        (try k_fold)
        k_steps
        refine Held.in ?_
        rename Fr _ _ _ _ => F22
        rename News _ _ _ _ => N22
        rename_i q1 q2 q3 D9 ws9 q6 hI9 q8 x9 q10 vs9 hk9 lX q14 oN dN
        have N23 := news_sub N22 led_drop
        clear N22
        (try clear hI9)
        (try clear q3)
        (try clear q8)
        rw [show [key] ++ List.take (p - 1).toNat (lns.erase key) = (lruStep x.pn (lns, M) key).1 by
          rw [h01, show (p - 1).toNat = p.toNat - 1 by omega]; rfl] at hk9
        have hx9 := lX.2.2
        rw [← hW] at hx9
        replace hx9 := nd_lt1 hx9
        have hlen9 : vs9.length = ckv20.length := by
          have z1 := IntsAre.length hk9
          rw [← hlk20, List.length_map] at z1
          rw [z1]; exact hD.ok.len.symm
        have hz9 : vs9.length ≤ 1000 := by
          have z2 := hD.ok.size
          have z3 := hD.ok.small
          have z4 := hD.ok.len
          omega
        have hzc : ckv20.length ≤ 60 := by
          have z2 := hD.ok.size
          have z3 := hD.ok.small
          have z4 := hD.ok.len
          omega
        have hin := fun z => hD.ok.at z
        rw [hlk20] at hin
        generalize hl9 : (lruStep x.pn (lns, M) key).1 = lns9 at hk9 hin
        refine wpAny_If ?_
        k_steps
        refine Held.in ?_
        rename Fr _ _ _ _ => F24
        rename News _ _ _ _ => N24
        refine len_any KB F24 KX KT rfl (by decide) (by decide) hD.ok.dict hD.loc hzc (news_sub N24 led_c) ?_
        intro h25 tk25 t25 F25 N25
        replace N25 := news_sub N25 led_d
        clear N24 F24
        rw [← hlen9]
        (try dsimp only)
        k_steps
        · exact absurd rfl (show ¬ ((vs9.length : Int) = (vs9.length : Int)) by assumption)
        refine Held.in ?_
        rename Fr _ _ _ _ => F26
        rename News _ _ _ _ => N26
        refine LCt.ListComp_T (F₀ := F26) (by with_unfolding_all rfl) (by decide) (by rfl) (by decide) (by rfl) ?_
        k_steps
        refine Held.in ?_
        rename Fr _ _ _ _ => F27
        rename News _ _ _ _ => N27
        rename IsRange _ _ _ _ _ _ _ _ => hR27
        refine LCt.CompSrcT.range (n := 5) rfl F27 N27 hR27 (by decide) rfl (by rw [sizeLine_eq]; omega) ?_
        intro g27
        refine rest_none trivial ?tt ?tf 5 0 rfl
        case tf =>
          intro D28 h28 tk28 F28 N28 off28
          (try dsimp only)
          k_steps
          refine Held.in ?_
          rename News _ _ _ _ => N29
          refine ne_intsK (vs := []) (us := []) ⟨_, (N29 _ (.tail _ (.head _))).1, rfl, _, rfl⟩ .nil ⟨_, (N29 _ (.head _)).1, rfl, _, rfl⟩ .nil (by ktr_units) ?_
          rw [decide_eq_true rfl]
          (try dsimp only)
          k_steps
          rename Fr _ _ _ _ => F30
          rename News _ _ _ _ => N30
          rw [← hl9] at hk9
          obtain ⟨jj, oo⟩ := inv_next F30 hD hlk20 hlt hlr hkey dN hk9 (by rw [h06, h09, h10]; exact hx9) (by rw [h06]; rfl) (by rw [h02, h04]; rfl) (by rw [h03, h05]; rfl) rfl rfl
          subst hW hmru hlru
          refine TurnEnd.intro F30 (news_sub N30 ?_) oo jj
          intro p hp
          unfold ledL at hp
          rw [h06, h07, h02, h09, h10] at hp
          have hp := led_fin p hp
          repeat (first | exact hp | refine List.Mem.tail _ ?_)
        case tt =>
          intro i9 v9 I9 oI9 C9 oC9 D9 m9 h28 tk28 E9 hi9 hv9 hC9 hm9 F28 N28 off9 ne9
          obtain ⟨t28, rfl⟩ := hv9
          obtain ⟨zz, hzz⟩ : ∃ z, z = 0 + (i9 : Int) := ⟨_, rfl⟩
          rw [← hzz] at hm9
          obtain ⟨b9, hb9⟩ : ∃ b, decide (zz ∈ lns9) = b := ⟨_, rfl⟩
          have hc9 : (valueAt ckv20 zz).isSome = b9 := (hin zz).trans hb9
          (try dsimp only)
          k_steps
          refine Held.in ?_
          rename Fr _ _ _ _ => F29
          rename News _ _ _ _ => N29
          refine contains_any KB F29 KX KT rfl (by decide) (by decide) hD.ok.dict hD.loc hc9 (news_sub N29 led_c3) ?_
          intro h30 tk30 F30 N30
          replace N30 := news_sub N30 led_d3
          clear N29 F29
          (try dsimp only)
          k_steps
          exact TestNo.intro (by cases b9 <;> rfl) F30 N30 (fun _ h => h))
end Mine
end


open PySem PySem.W PyProof.Rows
theorem PySem.Challenge.cw_ft5003_01_holds : PySem.Challenge.rw_ft5003_01.Holds := by
  exact Mine.law_holds
