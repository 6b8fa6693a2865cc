import PyProof.Rows.All
import Wide.All
import OpenK.AllK
import Wide.FinOn
import PySem.Challenge.RW_ae5043_01
open PySem PySem.W PyProof.Rows
set_option Elab.async false
set_option linter.unusedVariables false
set_option linter.unusedSimpArgs false
namespace Mine
set_option maxRecDepth 100000 in
set_option maxHeartbeats 8000000 in
open_top hd for PySem.Challenge.rw_ae5043_01
end Mine
set_option maxRecDepth 100000
namespace Mine



structure Base (w : World) (mean : ExcName → Option Value) (mg mb : Str → Option Value) (h : Heap) : Prop where
  K : (Mine.hd.heap_39 w.params).In h
  T : Top Mine.hd.view_39 (looseW Mine.hd.view_39 [Str.ofString "itemgetter", Str.ofString "LRUCache"]) mean mg mb h

theorem Base.keeps {w : World} {mean mg mb h h'} (B : Base w mean mg mb h) (k : h.StaysIn h') : Base w mean mg mb h' := ⟨B.K.keeps k, B.T.keeps k⟩

/-- everything but what stands at T is kept -/
def Keep (T : List Addr) (h h' : Heap) : Prop := ∀ b o, b ∉ T → h.get? b = some o → h'.get? b = some o

theorem call_raw {prog : Program} {w : World} {A : Around} {s : Shared} {mean : ExcName → Option Value} {mg mb : Str → Option Value} {b₀ : Heap} {news : List (Addr × Obj)}
    {R : Result → Shared → Prop} {name qual : Str} {params : Arguments} {body : List Stmt} {scope : Scope} {dV kV doc pm cdv ct oc : Value} {an od : Option Addr} {osl : Array (Option Value)} {f : Addr} {args : Args} {binds : List (Str × Value)}
    (B : Base w mean mg mb b₀) (hst : b₀.StaysIn s.heap) (hn : ∀ p ∈ news, s.heap.get? p.1 = some p.2 ∧ b₀.get? p.1 = none)
    (ho : (Mine.hd.heap_39 w.params).lookup f = some ⟨oc, od, .func (fnOf name qual params body scope dV kV doc pm an cdv ct), osl⟩) (hcd : codeIn (Mine.hd.heap_39 w.params) cdv qual = true)
    (hroom : A.depth < recursionLimit)
    (hbind : BindsTo s (fnOf name qual params body scope dV kV doc pm an cdv ct) args binds) (hloc : ∀ y ∈ binds, scope.names.lookup y.1 = some .local)
    (h : ∀ g L' h₁, Fr g L' h₁ (fun y => binds.reverse.lookup y) → News g L' h₁ news → (Mine.hd.heap_39 w.params).In g → Top Mine.hd.view_39 (looseW Mine.hd.view_39 [Str.ofString "itemgetter", Str.ofString "LRUCache"]) mean mg mb g →
      Keep (news.map (·.1)) s.heap g → (∀ p ∈ news, p.1 < L') → (∀ b o, g.get? b = some o → s.heap.get? b = some o) →
      wpAny (model prog w) (A.deeper (envOf qual scope L' f cdv)) (execs body (envOf qual scope L' f cdv))
        (fun fl s' => R (.ok (.ret (match fl with | .ret v => v | _ => .none))) s')
        (fun e s' => wpAny (model prog w) (A.deeper (envOf qual scope L' f cdv)) (leaving (envOf qual scope L' f cdv) e) (fun _ s'' => R (.error e) s'') (fun e' s'' => R (.error e') s'') s')
        { s with heap := h₁, toks := s.toks + binds.length })
    (hco : scope.isCoroutine = false := by rfl) (hgen : scope.isGenerator = false := by rfl) (hk : scope.kind = .function := by rfl)
    (hcell : ∀ x ∈ scope.names, x.2 ≠ .cell := by decide) : codeAny (model prog w) A (.call (.ref f) args) R s := by
  have nm : ∀ b o, b₀.get? b = some o → b ∉ news.map (·.1) := fun b o e q => by
    obtain ⟨p, hp, rfl⟩ := List.mem_map.mp q
    rw [(hn p hp).2] at e; cases e
  have st : ∀ b o, b₀.get? b = some o → (hideAll s.heap (news.map (·.1))).get? b = some o := fun b o e => hideAll_get _ (hst b o e) (nm b o e)
  refine codeAny_call_def (fd := fnOf name qual params body scope dV kV doc pm an cdv ct) (body := body) (binds := binds) hroom (B.K.keeps hst _ _ ho) rfl (B.T.nolimit.keeps hst) (codeRec_of (B.K.keeps hst) hcd) rfl hbind hcell hloc (fun h₁ hns hk₁ => ?_) hco hgen hk
  exact h (hideAll s.heap (news.map (·.1))) s.heap.objs.size h₁ ⟨hns, fun b o e => hk₁ b o (of_hideAll _ e), Nat.le_of_eq (hideAll_size _ _)⟩
    (fun p hp => ⟨hk₁ _ _ (hn p hp).1, Nat.ne_of_lt (Heap.lt_size (hn p hp).1), hideAll_none _ (List.mem_map_of_mem hp)⟩) (B.K.keeps (h' := hideAll s.heap (news.map (·.1))) st) (B.T.keeps st)
    (fun b o hb e => hideAll_get _ e hb) (fun p hp => Heap.lt_size (hn p hp).1) (fun b o e => of_hideAll _ e)

/-- a cache's own object -/
abbrev cacheObj (dc : Addr) (cnt : Int) (tc : Tok) (d x : Addr) (cap : Int) (tcap : Tok) (tth : Tok) : Obj :=
  ⟨.ref 185, some dc, .plain, #[some (.int cnt tc), some (.ref d), some (.ref x), some (.int cap tcap), some .none, some (.int 0 tth)]⟩


theorem keep_frnews {g h h' : Heap} {L : Addr} {m : Str → Option Value} {pre post : List (Addr × Obj)} {c : Addr} {o o' : Obj} (F : Fr g L h m) (N : News g L h (pre ++ (c, o) :: post))
    (K : Keep [c] h h') (hc : h'.get? c = some o') (h1 : ∀ p ∈ pre, p.1 ≠ c) (h2 : ∀ p ∈ post, p.1 ≠ c) : Fr g L h' m ∧ News g L h' (pre ++ (c, o') :: post) := by
  have D := N (c, o) (by simp)
  obtain ⟨oL, es, ep, hL, r⟩ := F.ns
  have nn : ∀ b, b ≠ c → b ∉ [c] := fun b hb q => hb (List.mem_singleton.mp q)
  refine ⟨⟨⟨oL, es, ep, K _ _ (nn _ (Ne.symm D.2.1)) hL, r⟩, fun b x q => K _ _ (nn _ fun z => ?_) (F.keep b x q), F.above⟩, fun p hp => ?_⟩
  · have := D.2.2; rw [← z, q] at this; cases this
  · rcases List.mem_append.mp hp with q | q
    · have P := N p (List.mem_append_left _ q); exact ⟨K _ _ (nn _ (h1 p q)) P.1, P.2⟩
    · rcases List.mem_cons.mp q with rfl | q
      · exact ⟨hc, D.2⟩
      · have P := N p (List.mem_append_right _ (.tail _ q)); exact ⟨K _ _ (nn _ (h2 p q)) P.1, P.2⟩

/-- what a callee's end gives: all but the ledger's addresses kept, the ledger as it stands -/
theorem keep_of {g s h' : Heap} {L : Addr} {m : Str → Option Value} {as : List Addr} {news' : List (Addr × Obj)} (hK : Keep as s g) (F : Fr g L h' m) (N : News g L h' news') : Keep as s h' :=
  fun b o hb e => F.keep b o (hK b o hb e)


local macro_rules | `(tactic| k_room) => `(tactic| ((try simp only [depth_under_make, depth_under_kw, depth_in1, depth_deeper, depth_caller] at *); (try simp only [recursionLimit] at *); omega))

theorem Upd.fst {d : Addr} {o o' : Obj} {l l' : List (Addr × Obj)} (u : Upd d o o' l l') : (d, o) ∈ l := by
  obtain ⟨pre, post, rfl, -, -, -⟩ := u.split; simp

section
variable {prog : Program} {w : World} {A : Around} {s : Shared} {mean : ExcName → Option Value} {mg mb : Str → Option Value} {g : Heap} {L : Addr} {m : Str → Option Value} {news : List (Addr × Obj)}

set_option maxHeartbeats 4000000 in
theorem inc_code {b₀ : Heap}
    {R : Result → Shared → Prop} {c dc d x : Addr} {cnt cap : Int} {tc tcap tth : Tok}
    (B : Base w mean mg mb b₀) (hst : ∀ b o, b₀.get? b = some o → s.heap.get? b = some o) (hroom : A.depth < 800)
    (hc : s.heap.get? c = some (cacheObj dc cnt tc d x cap tcap tth)) (hc0 : b₀.get? c = none) (hd : s.heap.get? dc = some (dictOf [] 0)) (hd0 : b₀.get? dc = none) (hcd : c ≠ dc)
    (h : ∀ h' tk t, Keep [c] s.heap h' → h'.get? c = some (cacheObj dc (cnt + 1) t d x cap tcap tth) → R (.ok (.ret (.int (cnt + 1) t))) { s with heap := h', toks := tk }) :
    codeAny (model prog w) A (.call (.ref 123) ⟨[.ref c], []⟩) R s := by
  refine' call_raw (news := [(c, cacheObj dc cnt tc d x cap tcap tth), (dc, dictOf [] 0)]) B hst ?hn ?ho ?hcd ?hr ?hbind ?hloc ?h ?hco ?hgen ?hk ?hcell
  case ho => k_dflt k_is
  case hcd => k_dflt k_is
  case hr => k_room
  case hbind => exact BindsTo.of_eq rfl
  case hloc => exact locs rfl
  case hco => rfl
  case hgen => rfl
  case hk => rfl
  case hcell => decide
  case hn =>
    intro p hp
    rcases List.mem_cons.mp hp with rfl | hp
    · exact ⟨hc, hc0⟩
    · rcases List.mem_cons.mp hp with rfl | hp
      · exact ⟨hd, hd0⟩
      · cases hp
  case h =>
    intro g L' h₁ F N X T hK l1 hof
    have hcd' := neN hcd
    (try dsimp only)
    (try k_fold)
    k_steps
    (rename Fr _ _ _ _ => F')
    (rename News _ _ _ _ => N')
    refine h _ _ _ (fun b o hb e => ?_) (N' _ (.head _)).1
    by_cases hbd : b = dc
    · subst hbd
      rw [hd] at e; cases e
      exact (N' _ (.tail _ (.head _))).1
    · exact F'.keep b o (hK b o (by simp at hb ⊢; exact ⟨hb, hbd⟩) e)

theorem inc_walk {E : Value → Shared → Prop} {Q : Value → Shared → Prop} {c dc d x : Addr} {cnt cap : Int} {tc tcap tth : Tok} {news' : Tok → List (Addr × Obj)} (F : Fr g L s.heap m) (X : (Mine.hd.heap_39 w.params).In g)
    (T : Top Mine.hd.view_39 (looseW Mine.hd.view_39 [Str.ofString "itemgetter", Str.ofString "LRUCache"]) mean mg mb g) (N : News g L s.heap news) (hroom : A.depth < 800)
    (U : ∀ t, Upd c (cacheObj dc cnt tc d x cap tcap tth) (cacheObj dc (cnt + 1) t d x cap tcap tth) news (news' t)) (hd : (dc, dictOf [] 0) ∈ news) (hcd : c ≠ dc)
    (h : ∀ h' tk t, Fr g L h' m → News g L h' (news' t) → Q (.int (cnt + 1) t) { s with heap := h', toks := tk }) :
    wpAny (model prog w) A (call (.ref 123) [.ref c]) Q E s := by
  have hc := N _ (Upd.fst (U 0))
  have hdd := N _ hd
  refine wpAny_call (inc_code ⟨X, T⟩ F.keep hroom hc.1 hc.2.2 hdd.1 hdd.2.2 hcd fun h' tk t K e => ?_)
  obtain ⟨pre, post, e1, e2, h1, h2⟩ := (U t).split
  rw [e1] at N
  obtain ⟨F', N'⟩ := keep_frnews F N K e h1 h2
  exact h h' tk t F' (e2 ▸ N')
end


section
local macro_rules | `(tactic| k_room) => `(tactic| ((try simp only [depth_under_make, depth_under_kw, depth_in1, depth_deeper, depth_caller] at *); (try simp only [recursionLimit] at *); omega))
local macro_rules | `(tactic| walk_at "call ref") => `(tactic| (k_here; k_dflt (refine' inc_walk ?k1 ?k2 ?k3 ?k4 ?k5 ?k6 ?k7 ?k8 ?_; (case k1 => k_asm); (case k2 => k_asm); (case k3 => k_asm); (case k4 => k_asm); (case k5 => k_room); (case k6 => (intro t'; k_upd)); (case k7 => k_mem); (case k8 => k_ne); k_whole); intro h' tk' t' F' N'))
local macro_rules | `(tactic| walk_at "call builtin:dict.get") => `(tactic| (k_here; k_dflt (refine kdg_get1 (knd := PySem.intKind _ _) (by k_asm) (by k_mem) (by k_asm) (by k_asm) (intKind_is _ _ _ _) _ (by assumption) ?_); (try dsimp only [Option.getD])))
local macro_rules | `(tactic| walk_at "call builtin:len") => `(tactic| (k_here; k_dflt (refine kda_len (knd := PySem.intKind _ _) (by k_asm) (by k_mem) (by k_asm) (by k_asm) (by omega) ?_)))
local macro_rules | `(tactic| walk_at "getItem ref int") => `(tactic| (k_here; k_dflt (refine kdt_getItem (knd := PySem.intKind _ _) (by k_asm) (by k_mem) (by k_asm) (intKind_is _ _ _ _) (by assumption) ?_)))

abbrev tupObj (nm : Int) (tn : Tok) (vl : Int) (tv : Tok) (l : Addr) : Obj := { cls := .type "tuple", data := .seq [.int nm tn, .int vl tv, .ref l].toArray }
abbrev ctrObj (ct : Int) (tl : Tok) (ep : Nat) : Obj := PySem.W.listOf [.int ct tl].toArray ep

theorem keep_end {s g h' : Heap} {L : Addr} {m : Str → Option Value} {T : List Addr} {news0 news' : List (Addr × Obj)} (hK : Keep (news0.map (·.1)) s g) (F : Fr g L h' m) (N : News g L h' news')
    (hs : ∀ p ∈ news0, s.get? p.1 = some p.2) (ht : ∀ p ∈ news0, p.1 ∈ T ∨ p ∈ news') : Keep T s h' := by
  intro b o hb e
  by_cases hm : b ∈ news0.map (·.1)
  · obtain ⟨p, hp, rfl⟩ := List.mem_map.mp hm
    have e2 := hs p hp
    rw [e] at e2; cases e2
    rcases ht p hp with h1 | h1
    · exact absurd h1 hb
    · exact (N p h1).1
  · exact F.keep b o (hK b o hm e)

theorem new_none {s g : Heap} {a : Addr} {news0 : List (Addr × Obj)} (hK : Keep (news0.map (·.1)) s g) (hg : g.get? a = none) (hne : ∀ p ∈ news0, p.1 ≠ a) : s.get? a = none := by
  cases q : s.get? a with
  | none => rfl
  | some o =>
    have := hK a o (fun hm => by obtain ⟨p, hp, e⟩ := List.mem_map.mp hm; exact hne p hp e) q
    rw [hg] at this; cases this

section
variable {prog : Program} {w : World} {A : Around} {s : Shared} {mean : ExcName → Option Value} {mg mb : Str → Option Value} {g : Heap} {L : Addr} {m : Str → Option Value} {news : List (Addr × Obj)}

set_option maxHeartbeats 4000000 in
theorem get_hit_code {b₀ : Heap}
    {R : Result → Shared → Prop} {c dc d x t l : Addr} {cnt cap nm vl ct key : Int} {tc tcap tth tn tv tl tk : Tok} {ep : Nat} {od : Obj} {kvs : List (Int × Value)}
    (B : Base w mean mg mb b₀) (hst : ∀ b o, b₀.get? b = some o → s.heap.get? b = some o) (hroom : A.depth < 790)
    (hc : s.heap.get? c = some (cacheObj dc cnt tc d x cap tcap tth)) (hc0 : b₀.get? c = none) (hd : s.heap.get? dc = some (dictOf [] 0)) (hd0 : b₀.get? dc = none)
    (hdd : s.heap.get? d = some od) (hdd0 : b₀.get? d = none) (hod : od.IsDictOf (PySem.intKind prog w) kvs) (lo : (d == sysModules) = false) (hv : valueAt kvs key = some (.ref t))
    (ht : s.heap.get? t = some (tupObj nm tn vl tv l)) (ht0 : b₀.get? t = none) (hl : s.heap.get? l = some (ctrObj ct tl ep)) (hl0 : b₀.get? l = none)
    (hnd : [c, dc, d, t, l].Nodup)
    (h : ∀ h' tk t1 t2, Keep [c, l] s.heap h' → h'.get? c = some (cacheObj dc (cnt + 1) t1 d x cap tcap tth) → h'.get? l = some (ctrObj (cnt + 1) t2 ep) → R (.ok (.ret (.int vl tv))) { s with heap := h', toks := tk }) :
    codeAny (model prog w) A (.call (.ref 131) ⟨[.ref c, .int key tk], []⟩) R s := by
  refine' call_raw (news := [(c, cacheObj dc cnt tc d x cap tcap tth), (dc, dictOf [] 0), (d, od), (t, tupObj nm tn vl tv l), (l, ctrObj ct tl ep)]) B hst ?hn ?ho ?hcd ?hr ?hbind ?hloc ?h ?hco ?hgen ?hk ?hcell
  case ho => k_dflt k_is
  case hcd => k_dflt k_is
  case hr => k_room
  case hbind => exact binds_K (B.K.keeps hst) rfl (by k_dflt k_is) rfl rfl rfl
  case hloc => exact locs rfl
  case hco => rfl
  case hgen => rfl
  case hk => rfl
  case hcell => decide
  case hn => exact List.forall_mem_cons.mpr ⟨⟨hc, hc0⟩, List.forall_mem_cons.mpr ⟨⟨hd, hd0⟩, List.forall_mem_cons.mpr ⟨⟨hdd, hdd0⟩, List.forall_mem_cons.mpr ⟨⟨ht, ht0⟩, List.forall_mem_cons.mpr ⟨⟨hl, hl0⟩, List.forall_mem_nil _⟩⟩⟩⟩⟩
  case h =>
    intro g L' h₁ F N X T hK l1 hof
    have hnd' := hnd
    simp only [List.nodup_cons, List.mem_cons, List.not_mem_nil, or_false, not_or, List.nodup_nil, and_true, not_false_iff] at hnd'
    obtain ⟨⟨n0_1, n0_2, n0_3, n0_4⟩, ⟨n1_2, n1_3, n1_4⟩, ⟨n2_3, n2_4⟩, n3_4⟩ := hnd'
    replace n0_1 := neN n0_1
    replace n0_2 := neN n0_2
    replace n0_3 := neN n0_3
    replace n0_4 := neN n0_4
    replace n1_2 := neN n1_2
    replace n1_3 := neN n1_3
    replace n1_4 := neN n1_4
    replace n2_3 := neN n2_3
    replace n2_4 := neN n2_4
    replace n3_4 := neN n3_4
    (try dsimp only)
    (try k_fold)
    k_steps
    (rename Fr _ _ _ _ => F')
    (rename News _ _ _ _ => N')
    have hs0 : ∀ p ∈ [(c, cacheObj dc cnt tc d x cap tcap tth), (dc, dictOf [] 0), (d, od), (t, tupObj nm tn vl tv l), (l, ctrObj ct tl ep)], s.heap.get? p.1 = some p.2 :=
      List.forall_mem_cons.mpr ⟨hc, List.forall_mem_cons.mpr ⟨hd, List.forall_mem_cons.mpr ⟨hdd, List.forall_mem_cons.mpr ⟨ht, List.forall_mem_cons.mpr ⟨hl, List.forall_mem_nil _⟩⟩⟩⟩⟩
    refine h _ _ _ _ (keep_end (T := [c, l]) hK F' N' hs0 ?_) (N' (c, cacheObj dc (cnt + 1) _ d x cap tcap tth) (by k_mem)).1 (N' (l, ctrObj (cnt + 1) _ ep) (by k_mem)).1
    exact List.forall_mem_cons.mpr ⟨.inl (.head _), List.forall_mem_cons.mpr ⟨.inr (by k_mem), List.forall_mem_cons.mpr ⟨.inr (by k_mem), List.forall_mem_cons.mpr ⟨.inr (by k_mem), List.forall_mem_cons.mpr ⟨.inl (.tail _ (.head _)), List.forall_mem_nil _⟩⟩⟩⟩⟩

set_option maxHeartbeats 4000000 in
theorem getitem_code {b₀ : Heap}
    {R : Result → Shared → Prop} {c dc d x t l : Addr} {cnt cap nm vl ct key : Int} {tc tcap tth tn tv tl tk : Tok} {ep : Nat} {od : Obj} {kvs : List (Int × Value)}
    (B : Base w mean mg mb b₀) (hst : ∀ b o, b₀.get? b = some o → s.heap.get? b = some o) (hroom : A.depth < 790)
    (hc : s.heap.get? c = some (cacheObj dc cnt tc d x cap tcap tth)) (hc0 : b₀.get? c = none) (hd : s.heap.get? dc = some (dictOf [] 0)) (hd0 : b₀.get? dc = none)
    (hdd : s.heap.get? d = some od) (hdd0 : b₀.get? d = none) (hod : od.IsDictOf (PySem.intKind prog w) kvs) (lo : (d == sysModules) = false) (hv : valueAt kvs key = some (.ref t))
    (ht : s.heap.get? t = some (tupObj nm tn vl tv l)) (ht0 : b₀.get? t = none) (hl : s.heap.get? l = some (ctrObj ct tl ep)) (hl0 : b₀.get? l = none)
    (hnd : [c, dc, d, t, l].Nodup)
    (h : ∀ h' tk t1 t2, Keep [c, l] s.heap h' → h'.get? c = some (cacheObj dc (cnt + 1) t1 d x cap tcap tth) → h'.get? l = some (ctrObj (cnt + 1) t2 ep) → R (.ok (.ret (.int vl tv))) { s with heap := h', toks := tk }) :
    codeAny (model prog w) A (.call (.ref 138) ⟨[.ref c, .int key tk], []⟩) R s := by
  refine' call_raw (news := [(c, cacheObj dc cnt tc d x cap tcap tth), (dc, dictOf [] 0), (d, od), (t, tupObj nm tn vl tv l), (l, ctrObj ct tl ep)]) B hst ?hn ?ho ?hcd ?hr ?hbind ?hloc ?h ?hco ?hgen ?hk ?hcell
  case ho => k_dflt k_is
  case hcd => k_dflt k_is
  case hr => k_room
  case hbind => exact BindsTo.of_eq rfl
  case hloc => exact locs rfl
  case hco => rfl
  case hgen => rfl
  case hk => rfl
  case hcell => decide
  case hn => exact List.forall_mem_cons.mpr ⟨⟨hc, hc0⟩, List.forall_mem_cons.mpr ⟨⟨hd, hd0⟩, List.forall_mem_cons.mpr ⟨⟨hdd, hdd0⟩, List.forall_mem_cons.mpr ⟨⟨ht, ht0⟩, List.forall_mem_cons.mpr ⟨⟨hl, hl0⟩, List.forall_mem_nil _⟩⟩⟩⟩⟩
  case h =>
    intro g L' h₁ F N X T hK l1 hof
    have hnd' := hnd
    simp only [List.nodup_cons, List.mem_cons, List.not_mem_nil, or_false, not_or, List.nodup_nil, and_true, not_false_iff] at hnd'
    obtain ⟨⟨n0_1, n0_2, n0_3, n0_4⟩, ⟨n1_2, n1_3, n1_4⟩, ⟨n2_3, n2_4⟩, n3_4⟩ := hnd'
    replace n0_1 := neN n0_1
    replace n0_2 := neN n0_2
    replace n0_3 := neN n0_3
    replace n0_4 := neN n0_4
    replace n1_2 := neN n1_2
    replace n1_3 := neN n1_3
    replace n1_4 := neN n1_4
    replace n2_3 := neN n2_3
    replace n2_4 := neN n2_4
    replace n3_4 := neN n3_4
    (try dsimp only)
    (try k_fold)
    k_steps
    (rename Fr _ _ _ _ => F')
    (rename News _ _ _ _ => N')
    have hs0 : ∀ p ∈ [(c, cacheObj dc cnt tc d x cap tcap tth), (dc, dictOf [] 0), (d, od), (t, tupObj nm tn vl tv l), (l, ctrObj ct tl ep)], s.heap.get? p.1 = some p.2 :=
      List.forall_mem_cons.mpr ⟨hc, List.forall_mem_cons.mpr ⟨hd, List.forall_mem_cons.mpr ⟨hdd, List.forall_mem_cons.mpr ⟨ht, List.forall_mem_cons.mpr ⟨hl, List.forall_mem_nil _⟩⟩⟩⟩⟩
    refine h _ _ _ _ (keep_end (T := [c, l]) hK F' N' hs0 ?_) (N' (c, cacheObj dc (cnt + 1) _ d x cap tcap tth) (by k_mem)).1 (N' (l, ctrObj (cnt + 1) _ ep) (by k_mem)).1
    exact List.forall_mem_cons.mpr ⟨.inl (.head _), List.forall_mem_cons.mpr ⟨.inr (by k_mem), List.forall_mem_cons.mpr ⟨.inr (by k_mem), List.forall_mem_cons.mpr ⟨.inr (by k_mem), List.forall_mem_cons.mpr ⟨.inl (.tail _ (.head _)), List.forall_mem_nil _⟩⟩⟩⟩⟩

set_option maxHeartbeats 4000000 in
theorem get_miss_code {b₀ : Heap}
    {R : Result → Shared → Prop} {c dc d x : Addr} {cnt cap key : Int} {tc tcap tth tk : Tok} {od : Obj} {kvs : List (Int × Value)}
    (B : Base w mean mg mb b₀) (hst : ∀ b o, b₀.get? b = some o → s.heap.get? b = some o) (hroom : A.depth < 790)
    (hc : s.heap.get? c = some (cacheObj dc cnt tc d x cap tcap tth)) (hc0 : b₀.get? c = none) (hd : s.heap.get? dc = some (dictOf [] 0)) (hd0 : b₀.get? dc = none)
    (hdd : s.heap.get? d = some od) (hdd0 : b₀.get? d = none) (hod : od.IsDictOf (PySem.intKind prog w) kvs) (lo : (d == sysModules) = false) (hv : valueAt kvs key = none)
    (h : ∀ h' tk, Keep [] s.heap h' → R (.ok (.ret .none)) { s with heap := h', toks := tk }) :
    codeAny (model prog w) A (.call (.ref 131) ⟨[.ref c, .int key tk], []⟩) R s := by
  refine' call_raw (news := [(c, cacheObj dc cnt tc d x cap tcap tth), (dc, dictOf [] 0), (d, od)]) B hst ?hn ?ho ?hcd ?hr ?hbind ?hloc ?h ?hco ?hgen ?hk ?hcell
  case ho => k_dflt k_is
  case hcd => k_dflt k_is
  case hr => k_room
  case hbind => exact binds_K (B.K.keeps hst) rfl (by k_dflt k_is) rfl rfl rfl
  case hloc => exact locs rfl
  case hco => rfl
  case hgen => rfl
  case hk => rfl
  case hcell => decide
  case hn => exact List.forall_mem_cons.mpr ⟨⟨hc, hc0⟩, List.forall_mem_cons.mpr ⟨⟨hd, hd0⟩, List.forall_mem_cons.mpr ⟨⟨hdd, hdd0⟩, List.forall_mem_nil _⟩⟩⟩
  case h =>
    intro g L' h₁ F N X T hK l1 hof
    (try dsimp only)
    (try k_fold)
    k_steps
    (rename Fr _ _ _ _ => F')
    (rename News _ _ _ _ => N')
    have hs0 : ∀ p ∈ [(c, cacheObj dc cnt tc d x cap tcap tth), (dc, dictOf [] 0), (d, od)], s.heap.get? p.1 = some p.2 :=
      List.forall_mem_cons.mpr ⟨hc, List.forall_mem_cons.mpr ⟨hd, List.forall_mem_cons.mpr ⟨hdd, List.forall_mem_nil _⟩⟩⟩
    refine h _ _ (keep_end (T := []) hK F' N' hs0 ?_)
    exact List.forall_mem_cons.mpr ⟨.inr (by k_mem), List.forall_mem_cons.mpr ⟨.inr (by k_mem), List.forall_mem_cons.mpr ⟨.inr (by k_mem), List.forall_mem_nil _⟩⟩⟩

set_option maxHeartbeats 4000000 in
theorem len_code {b₀ : Heap}
    {R : Result → Shared → Prop} {c dc d x : Addr} {cnt cap key : Int} {tc tcap tth tk : Tok} {od : Obj} {kvs : List (Int × Value)}
    (B : Base w mean mg mb b₀) (hst : ∀ b o, b₀.get? b = some o → s.heap.get? b = some o) (hroom : A.depth < 790)
    (hc : s.heap.get? c = some (cacheObj dc cnt tc d x cap tcap tth)) (hc0 : b₀.get? c = none) (hd : s.heap.get? dc = some (dictOf [] 0)) (hd0 : b₀.get? dc = none)
    (hdd : s.heap.get? d = some od) (hdd0 : b₀.get? d = none) (hod : od.IsDictOf (PySem.intKind prog w) kvs) (lo : (d == sysModules) = false) (hlen : kvs.length ≤ 1000)
    (h : ∀ h' tk t, Keep [] s.heap h' → R (.ok (.ret (.int kvs.length t))) { s with heap := h', toks := tk }) :
    codeAny (model prog w) A (.call (.ref 152) ⟨[.ref c], []⟩) R s := by
  refine' call_raw (news := [(c, cacheObj dc cnt tc d x cap tcap tth), (dc, dictOf [] 0), (d, od)]) B hst ?hn ?ho ?hcd ?hr ?hbind ?hloc ?h ?hco ?hgen ?hk ?hcell
  case ho => k_dflt k_is
  case hcd => k_dflt k_is
  case hr => k_room
  case hbind => exact BindsTo.of_eq rfl
  case hloc => exact locs rfl
  case hco => rfl
  case hgen => rfl
  case hk => rfl
  case hcell => decide
  case hn => exact List.forall_mem_cons.mpr ⟨⟨hc, hc0⟩, List.forall_mem_cons.mpr ⟨⟨hd, hd0⟩, List.forall_mem_cons.mpr ⟨⟨hdd, hdd0⟩, List.forall_mem_nil _⟩⟩⟩
  case h =>
    intro g L' h₁ F N X T hK l1 hof
    (try dsimp only)
    (try k_fold)
    k_steps
    (rename Fr _ _ _ _ => F')
    (rename News _ _ _ _ => N')
    have hs0 : ∀ p ∈ [(c, cacheObj dc cnt tc d x cap tcap tth), (dc, dictOf [] 0), (d, od)], s.heap.get? p.1 = some p.2 :=
      List.forall_mem_cons.mpr ⟨hc, List.forall_mem_cons.mpr ⟨hd, List.forall_mem_cons.mpr ⟨hdd, List.forall_mem_nil _⟩⟩⟩
    refine h _ _ _ (keep_end (T := []) hK F' N' hs0 ?_)
    exact List.forall_mem_cons.mpr ⟨.inr (by k_mem), List.forall_mem_cons.mpr ⟨.inr (by k_mem), List.forall_mem_cons.mpr ⟨.inr (by k_mem), List.forall_mem_nil _⟩⟩⟩

set_option maxHeartbeats 4000000 in
theorem iter_code {b₀ : Heap}
    {R : Result → Shared → Prop} {c dc d x : Addr} {cnt cap key : Int} {tc tcap tth tk : Tok} {od : Obj} {kvs : List (Int × Value)}
    (B : Base w mean mg mb b₀) (hst : ∀ b o, b₀.get? b = some o → s.heap.get? b = some o) (hroom : A.depth < 790)
    (hc : s.heap.get? c = some (cacheObj dc cnt tc d x cap tcap tth)) (hc0 : b₀.get? c = none) (hd : s.heap.get? dc = some (dictOf [] 0)) (hd0 : b₀.get? dc = none)
    (hdd : s.heap.get? d = some od) (hdd0 : b₀.get? d = none) (hod : od.IsDictOf (PySem.intKind prog w) kvs) (lo : (d == sysModules) = false) (hlen : kvs.length ≤ 1000)
    (h : ∀ h' tk it oi epk, Keep [] s.heap h' → s.heap.get? it = none → h'.get? it = some oi → KdkIter oi d 0 kvs.length epk → KdkAt (PySem.intKind prog w) od kvs epk → R (.ok (.ret (.ref it))) { s with heap := h', toks := tk }) :
    codeAny (model prog w) A (.call (.ref 145) ⟨[.ref c], []⟩) R s := by
  refine' call_raw (news := [(c, cacheObj dc cnt tc d x cap tcap tth), (dc, dictOf [] 0), (d, od)]) B hst ?hn ?ho ?hcd ?hr ?hbind ?hloc ?h ?hco ?hgen ?hk ?hcell
  case ho => k_dflt k_is
  case hcd => k_dflt k_is
  case hr => k_room
  case hbind => exact BindsTo.of_eq rfl
  case hloc => exact locs rfl
  case hco => rfl
  case hgen => rfl
  case hk => rfl
  case hcell => decide
  case hn => exact List.forall_mem_cons.mpr ⟨⟨hc, hc0⟩, List.forall_mem_cons.mpr ⟨⟨hd, hd0⟩, List.forall_mem_cons.mpr ⟨⟨hdd, hdd0⟩, List.forall_mem_nil _⟩⟩⟩
  case h =>
    intro g L' h₁ F N X T hK l1 hof
    (try dsimp only)
    (try k_fold)
    k_steps
    (rename Fr _ _ _ _ => F')
    (rename News _ _ _ _ => N')
    (rename KdkIter _ _ _ _ _ => hi')
    (rename KdkAt _ _ _ _ => ha')
    have hs0 : ∀ p ∈ [(c, cacheObj dc cnt tc d x cap tcap tth), (dc, dictOf [] 0), (d, od)], s.heap.get? p.1 = some p.2 :=
      List.forall_mem_cons.mpr ⟨hc, List.forall_mem_cons.mpr ⟨hd, List.forall_mem_cons.mpr ⟨hdd, List.forall_mem_nil _⟩⟩⟩
    have hnew := N' _ (.head _)
    refine h _ _ _ _ _ (keep_end (T := []) hK F' N' hs0 ?_) ?_ hnew.1 hi' ha'
    exact List.forall_mem_cons.mpr ⟨.inr (by k_mem), List.forall_mem_cons.mpr ⟨.inr (by k_mem), List.forall_mem_cons.mpr ⟨.inr (by k_mem), List.forall_mem_nil _⟩⟩⟩
    (rename (c < _ ∧ dc < _ ∧ d < _) => l9)
    exact new_none hK hnew.2.2 (by rintro p hp; simp only [List.mem_cons, List.not_mem_nil, or_false] at hp; rcases hp with rfl | rfl | rfl <;> exact Nat.ne_of_lt (by first | exact l9.1 | exact l9.2.1 | exact l9.2.2))
end
end


section
local macro_rules | `(tactic| k_room) => `(tactic| ((try simp only [depth_under_make, depth_under_kw, depth_in1, depth_deeper, depth_caller] at *); (try simp only [recursionLimit] at *); omega))

abbrev lockObj (dx : Addr) : Obj := instObj 53 dx
abbrev heldObj (P : Params) (th : Tok) (b : Bool) : Obj := dictOf [⟨PyData.keyHash P (Str.ofString "held"), .str (Str.ofString "held") th, .bool b⟩] 1

section
variable {prog : Program} {w : World} {A : Around} {s : Shared} {mean : ExcName → Option Value} {mg mb : Str → Option Value} {g : Heap} {L : Addr} {m : Str → Option Value} {news : List (Addr × Obj)}

set_option maxHeartbeats 4000000 in
theorem acquire_code {b₀ : Heap}
    {R : Result → Shared → Prop} {x dx : Addr} {th : Tok}
    (B : Base w mean mg mb b₀) (hst : ∀ b o, b₀.get? b = some o → s.heap.get? b = some o) (hroom : A.depth < 800)
    (hx : s.heap.get? x = some (lockObj dx)) (hx0 : b₀.get? x = none) (hd : s.heap.get? dx = some (heldObj w.params th false)) (hd0 : b₀.get? dx = none) (hnd : x ≠ dx)
    (h : ∀ h' tk, Keep [dx] s.heap h' → h'.get? dx = some (heldObj w.params th true) → R (.ok (.ret (.bool true))) { s with heap := h', toks := tk }) :
    codeAny (model prog w) A (.call (.ref 43) ⟨[.ref x, .bool false], []⟩) R s := by
  refine' call_raw (news := [(x, lockObj dx), (dx, heldObj w.params th false)]) B hst ?hn ?ho ?hcd ?hr ?hbind ?hloc ?h ?hco ?hgen ?hk ?hcell
  case ho => k_dflt k_is
  case hcd => k_dflt k_is
  case hr => k_room
  case hbind => exact binds_K (B.K.keeps hst) rfl (by k_dflt k_is) rfl rfl rfl
  case hloc => exact locs rfl
  case hco => rfl
  case hgen => rfl
  case hk => rfl
  case hcell => decide
  case hn => exact List.forall_mem_cons.mpr ⟨⟨hx, hx0⟩, List.forall_mem_cons.mpr ⟨⟨hd, hd0⟩, List.forall_mem_nil _⟩⟩
  case h =>
    intro g L' h₁ F N X T hK l1 hof
    (try dsimp only)
    (try k_fold)
    have n0_1 := neN hnd
    k_steps
    (rename Fr _ _ _ _ => F')
    (rename News _ _ _ _ => N')
    have hs0 : ∀ p ∈ [(x, lockObj dx), (dx, heldObj w.params th false)], s.heap.get? p.1 = some p.2 :=
      List.forall_mem_cons.mpr ⟨hx, List.forall_mem_cons.mpr ⟨hd, List.forall_mem_nil _⟩⟩
    refine h _ _ (keep_end (T := [dx]) hK F' N' hs0 ?_) (N' (dx, heldObj w.params th true) (by k_mem)).1
    exact List.forall_mem_cons.mpr ⟨.inr (by k_mem), List.forall_mem_cons.mpr ⟨.inl (.head _), List.forall_mem_nil _⟩⟩

set_option maxHeartbeats 4000000 in
theorem release_code {b₀ : Heap}
    {R : Result → Shared → Prop} {x dx : Addr} {th : Tok} {b : Bool}
    (B : Base w mean mg mb b₀) (hst : ∀ b o, b₀.get? b = some o → s.heap.get? b = some o) (hroom : A.depth < 800)
    (hx : s.heap.get? x = some (lockObj dx)) (hx0 : b₀.get? x = none) (hd : s.heap.get? dx = some (heldObj w.params th b)) (hd0 : b₀.get? dx = none) (hnd : x ≠ dx)
    (h : ∀ h' tk, Keep [dx] s.heap h' → h'.get? dx = some (heldObj w.params th false) → R (.ok (.ret .none)) { s with heap := h', toks := tk }) :
    codeAny (model prog w) A (.call (.ref 50) ⟨[.ref x], []⟩) R s := by
  refine' call_raw (news := [(x, lockObj dx), (dx, heldObj w.params th b)]) B hst ?hn ?ho ?hcd ?hr ?hbind ?hloc ?h ?hco ?hgen ?hk ?hcell
  case ho => k_dflt k_is
  case hcd => k_dflt k_is
  case hr => k_room
  case hbind => exact BindsTo.of_eq rfl
  case hloc => exact locs rfl
  case hco => rfl
  case hgen => rfl
  case hk => rfl
  case hcell => decide
  case hn => exact List.forall_mem_cons.mpr ⟨⟨hx, hx0⟩, List.forall_mem_cons.mpr ⟨⟨hd, hd0⟩, List.forall_mem_nil _⟩⟩
  case h =>
    intro g L' h₁ F N X T hK l1 hof
    (try dsimp only)
    (try k_fold)
    have n0_1 := neN hnd
    k_steps
    (rename Fr _ _ _ _ => F')
    (rename News _ _ _ _ => N')
    have hs0 : ∀ p ∈ [(x, lockObj dx), (dx, heldObj w.params th b)], s.heap.get? p.1 = some p.2 :=
      List.forall_mem_cons.mpr ⟨hx, List.forall_mem_cons.mpr ⟨hd, List.forall_mem_nil _⟩⟩
    refine h _ _ (keep_end (T := [dx]) hK F' N' hs0 ?_) (N' (dx, heldObj w.params th false) (by k_mem)).1
    exact List.forall_mem_cons.mpr ⟨.inr (by k_mem), List.forall_mem_cons.mpr ⟨.inl (.head _), List.forall_mem_nil _⟩⟩

/-- an itemgetter made by itemgetter(2): its slot holds a tuple with the one int -/
abbrev getterObj (dq tq : Addr) : Obj := ⟨.ref 97, some dq, .plain, #[some (.ref tq)]⟩
abbrev twoObj (t2 : Tok) : Obj := { cls := .type "tuple", data := .seq [.int 2 t2].toArray }

set_option maxHeartbeats 4000000 in
theorem getter_call_code {b₀ : Heap} {R : Result → Shared → Prop} {q dq tq t l : Addr} {nm vl : Int} {t2 tn tv : Tok}
    (B : Base w mean mg mb b₀) (hst : ∀ b o, b₀.get? b = some o → s.heap.get? b = some o) (hroom : A.depth < 800)
    (hq : s.heap.get? q = some (getterObj dq tq)) (hq0 : b₀.get? q = none) (hd : s.heap.get? dq = some (dictOf [] 0)) (hd0 : b₀.get? dq = none)
    (hti : s.heap.get? tq = some (twoObj t2)) (hti0 : b₀.get? tq = none) (ht : s.heap.get? t = some (tupObj nm tn vl tv l)) (ht0 : b₀.get? t = none)
    (hnd : [q, dq, tq, t].Nodup)
    (h : ∀ h' tk, Keep [] s.heap h' → R (.ok (.ret (.ref l))) { s with heap := h', toks := tk }) :
    codeAny (model prog w) A (.call (.ref 79) ⟨[.ref q, .ref t], []⟩) R s := by
  refine' call_raw (news := [(q, getterObj dq tq), (dq, dictOf [] 0), (tq, twoObj t2), (t, tupObj nm tn vl tv l)]) B hst ?hn ?ho ?hcd ?hr ?hbind ?hloc ?h ?hco ?hgen ?hk ?hcell
  case ho => k_dflt k_is
  case hcd => k_dflt k_is
  case hr => k_room
  case hbind => exact BindsTo.of_eq rfl
  case hloc => exact locs rfl
  case hco => rfl
  case hgen => rfl
  case hk => rfl
  case hcell => decide
  case hn => exact List.forall_mem_cons.mpr ⟨⟨hq, hq0⟩, List.forall_mem_cons.mpr ⟨⟨hd, hd0⟩, List.forall_mem_cons.mpr ⟨⟨hti, hti0⟩, List.forall_mem_cons.mpr ⟨⟨ht, ht0⟩, List.forall_mem_nil _⟩⟩⟩⟩
  case h =>
    intro g L' h₁ F N X T hK l1 hof
    have hnd' := hnd
    simp only [List.nodup_cons, List.mem_cons, List.not_mem_nil, or_false, not_or, List.nodup_nil, and_true, not_false_iff] at hnd'
    obtain ⟨⟨n0_1, n0_2, n0_3⟩, ⟨n1_2, n1_3⟩, n2_3⟩ := hnd'
    replace n0_1 := neN n0_1
    replace n0_2 := neN n0_2
    replace n0_3 := neN n0_3
    replace n1_2 := neN n1_2
    replace n1_3 := neN n1_3
    replace n2_3 := neN n2_3
    (try dsimp only)
    (try k_fold)
    k_steps
    (rename Fr _ _ _ _ => F')
    (rename News _ _ _ _ => N')
    have hs0 : ∀ p ∈ [(q, getterObj dq tq), (dq, dictOf [] 0), (tq, twoObj t2), (t, tupObj nm tn vl tv l)], s.heap.get? p.1 = some p.2 :=
      List.forall_mem_cons.mpr ⟨hq, List.forall_mem_cons.mpr ⟨hd, List.forall_mem_cons.mpr ⟨hti, List.forall_mem_cons.mpr ⟨ht, List.forall_mem_nil _⟩⟩⟩⟩
    refine h _ _ (keep_end (T := []) hK F' N' hs0 ?_)
    exact List.forall_mem_cons.mpr ⟨.inr (by k_mem), List.forall_mem_cons.mpr ⟨.inr (by k_mem), List.forall_mem_cons.mpr ⟨.inr (by k_mem), List.forall_mem_cons.mpr ⟨.inr (by k_mem), List.forall_mem_nil _⟩⟩⟩⟩

theorem call_rest {b₀ : Heap} {news : List (Addr × Obj)} {vs : List Value}
    {R : Result → Shared → Prop} {name qual : Str} {params : Arguments} {body : List Stmt} {scope : Scope} {dV kV doc pm cdv ct oc : Value} {an od : Option Addr} {osl : Array (Option Value)} {f : Addr} {args : Args} {binds : Value → List (Str × Value)}
    (B : Base w mean mg mb b₀) (hst : ∀ b o, b₀.get? b = some o → s.heap.get? b = some o) (hn : ∀ p ∈ news, s.heap.get? p.1 = some p.2 ∧ b₀.get? p.1 = none)
    (ho : (Mine.hd.heap_39 w.params).lookup f = some ⟨oc, od, .func (fnOf name qual params body scope dV kV doc pm an cdv ct), osl⟩) (hcd : codeIn (Mine.hd.heap_39 w.params) cdv qual = true)
    (hroom : A.depth < recursionLimit)
    (hbind : bindArgs (fnOf name qual params body scope dV kV doc pm an cdv ct) args = newTuple vs >>= fun v => pure (binds v)) (hvs : vs.length ≤ sizeLine) (hloc : ∀ v, ∀ y ∈ binds v, scope.names.lookup y.1 = some .local)
    (h : ∀ g D L' h₁, Fr g L' h₁ (fun y => (binds (.ref D)).reverse.lookup y) → News g L' h₁ ((D, ({ cls := .type "tuple", data := .seq vs.toArray } : Obj)) :: news) → (Mine.hd.heap_39 w.params).In g → Top Mine.hd.view_39 (looseW Mine.hd.view_39 [Str.ofString "itemgetter", Str.ofString "LRUCache"]) mean mg mb g →
      Keep (news.map (·.1)) s.heap g → (∀ p ∈ news, p.1 < D) → (∀ b o, g.get? b = some o → s.heap.get? b = some o) → 
      wpAny (model prog w) (A.deeper (envOf qual scope L' f cdv)) (execs body (envOf qual scope L' f cdv))
        (fun fl s' => R (.ok (.ret (match fl with | .ret v => v | _ => .none))) s')
        (fun e s' => wpAny (model prog w) (A.deeper (envOf qual scope L' f cdv)) (leaving (envOf qual scope L' f cdv) e) (fun _ s'' => R (.error e) s'') (fun e' s'' => R (.error e') s'') s')
        { s with heap := h₁, toks := s.toks + (binds (.ref D)).length })
    (hco : scope.isCoroutine = false := by rfl) (hgen : scope.isGenerator = false := by rfl) (hk : scope.kind = .function := by rfl)
    (hcell : ∀ x ∈ scope.names, x.2 ≠ .cell := by decide) : codeAny (model prog w) A (.call (.ref f) args) R s := by
  have nm : ∀ b o, b₀.get? b = some o → b ∉ news.map (·.1) := fun b o e q => by
    obtain ⟨p, hp, rfl⟩ := List.mem_map.mp q
    rw [(hn p hp).2] at e; cases e
  have st : ∀ b o, b₀.get? b = some o → (hideAll s.heap (news.map (·.1))).get? b = some o := fun b o e => hideAll_get _ (hst b o e) (nm b o e)
  refine codeAny_call_function (fd := fnOf name qual params body scope dV kV doc pm an cdv ct) (body := body) hroom (B.K.keeps hst _ _ ho) rfl hco hgen rfl (codeRec_of (B.K.keeps hst) hcd) ?_
  rw [hbind]
  refine wpAny_bind (wpAny_newTuple ?_ hvs)
  refine wpAny_pure ?_
  have kp : ∀ b o, s.heap.get? b = some o → (s.heap.push ({ cls := .type "tuple", data := .seq vs.toArray } : Obj)).get? b = some o := fun b o e => Heap.get?_push_of_some _ e
  refine wpAny_newFunctionEnv hcell (hloc _) (fun h₁ hns hsb => ⟨((B.T.nolimit.keeps hst).keeps kp).fresh _ hsb, codeAny_func ?_⟩) hk
  have hk₁ : ∀ b o, (s.heap.push ({ cls := .type "tuple", data := .seq vs.toArray } : Obj)).get? b = some o → h₁.get? b = some o := fun b o e => hsb.extBut b o (Nat.ne_of_lt (Heap.lt_size e)) (Heap.get?_push_of_some _ e)
  refine h (hideAll s.heap (news.map (·.1))) s.heap.objs.size _ h₁ ⟨hns, fun b o e => hk₁ b o (kp b o (of_hideAll _ e)), ?_⟩
    (fun p hp => ?_) (B.K.keeps (h' := hideAll s.heap (news.map (·.1))) st) (B.T.keeps st)
    (fun b o hb e => hideAll_get _ e hb) (fun p hp => Heap.lt_size (hn p hp).1) (fun b o e => of_hideAll _ e)
  · rw [hideAll_size]; show s.heap.objs.size ≤ (s.heap.push _).objs.size; rw [Heap.size_push]; omega
  · rcases List.mem_cons.mp hp with rfl | hp
    · refine ⟨hk₁ _ _ (Heap.get?_push_size _ rfl), ?_, ?_⟩
      · show s.heap.objs.size ≠ (s.heap.push _).objs.size; rw [Heap.size_push]; omega
      · cases q : (hideAll s.heap (news.map (·.1))).get? s.heap.objs.size with
        | none => rfl
        | some o => exact absurd (Heap.lt_size (of_hideAll _ q)) (Nat.lt_irrefl _)
    · exact ⟨hk₁ _ _ (kp _ _ (hn p hp).1), Nat.ne_of_lt (by show p.1 < (s.heap.push _).objs.size; rw [Heap.size_push]; exact Nat.lt_succ_of_lt (Heap.lt_size (hn p hp).1)), hideAll_none _ (List.mem_map_of_mem hp)⟩

set_option maxHeartbeats 4000000 in
theorem getter_init_code {b₀ : Heap} {R : Result → Shared → Prop} {q dq : Addr} {t2 : Tok}
    (B : Base w mean mg mb b₀) (hst : ∀ b o, b₀.get? b = some o → s.heap.get? b = some o) (hroom : A.depth < 800)
    (hq : s.heap.get? q = some (instObj 97 dq)) (hq0 : b₀.get? q = none) (hd : s.heap.get? dq = some (dictOf [] 0)) (hd0 : b₀.get? dq = none) (hnd : [q, dq].Nodup)
    (h : ∀ h' tk tq t3, Keep [q] s.heap h' → h'.get? q = some (getterObj dq tq) → s.heap.get? tq = none → q < tq → h'.get? tq = some (twoObj t3) → R (.ok (.ret .none)) { s with heap := h', toks := tk }) :
    codeAny (model prog w) A (.call (.ref 72) ⟨[.ref q, .int 2 t2], []⟩) R s := by
  refine' call_rest (news := [(q, instObj 97 dq), (dq, dictOf [] 0)]) (vs := []) B hst ?hn ?ho ?hcd ?hr ?hbind ?hvs ?hloc ?h ?hco ?hgen ?hk ?hcell
  case ho => k_dflt k_is
  case hcd => k_dflt k_is
  case hr => k_room
  case hbind => rfl
  case hvs => exact Nat.zero_le _
  case hloc => intro v; exact locs rfl
  case hco => rfl
  case hgen => rfl
  case hk => rfl
  case hcell => decide
  case hn => exact List.forall_mem_cons.mpr ⟨⟨hq, hq0⟩, List.forall_mem_cons.mpr ⟨⟨hd, hd0⟩, List.forall_mem_nil _⟩⟩
  case h =>
    intro g D L' h₁ F N X T hK l1 hof
    have hnd' := hnd
    simp only [List.nodup_cons, List.mem_cons, List.not_mem_nil, or_false, not_or, List.nodup_nil, and_true, not_false_iff] at hnd'
    have n0_1 := neN hnd'
    k_lt l1
    (try dsimp only)
    (try k_fold)
    k_steps
    (rename Fr _ _ _ _ => F')
    (rename News _ _ _ _ => N')
    (rename (D < _ ∧ q < _ ∧ dq < _) => l9)
    have hs0 : ∀ p ∈ [(q, instObj 97 dq), (dq, dictOf [] 0)], s.heap.get? p.1 = some p.2 :=
      List.forall_mem_cons.mpr ⟨hq, List.forall_mem_cons.mpr ⟨hd, List.forall_mem_nil _⟩⟩
    have hnew := N' _ (.head _)
    refine h _ _ _ _ (keep_end (T := [q]) hK F' N' hs0 ?_) (N' _ (.tail _ (.tail _ (.head _)))).1 ?_ l9.2.1 hnew.1
    · exact List.forall_mem_cons.mpr ⟨.inl (.head _), List.forall_mem_cons.mpr ⟨.inr (by k_mem), List.forall_mem_nil _⟩⟩
    · exact new_none hK hnew.2.2 (by rintro p hp; simp only [List.mem_cons, List.not_mem_nil, or_false] at hp; rcases hp with rfl | rfl <;> exact Nat.ne_of_lt (by first | exact l9.2.1 | exact l9.2.2))

set_option maxHeartbeats 4000000 in
theorem lock_init_code {b₀ : Heap} {R : Result → Shared → Prop} {x dx : Addr}
    (B : Base w mean mg mb b₀) (hst : ∀ b o, b₀.get? b = some o → s.heap.get? b = some o) (hroom : A.depth < 800)
    (hx : s.heap.get? x = some (lockObj dx)) (hx0 : b₀.get? x = none) (hd : s.heap.get? dx = some (dictOf [] 0)) (hd0 : b₀.get? dx = none) (hnd : [x, dx].Nodup)
    (h : ∀ h' tk th, Keep [dx] s.heap h' → h'.get? dx = some (heldObj w.params th false) → R (.ok (.ret .none)) { s with heap := h', toks := tk }) :
    codeAny (model prog w) A (.call (.ref 35) ⟨[.ref x], []⟩) R s := by
  refine' call_raw (news := [(x, lockObj dx), (dx, dictOf [] 0)]) B hst ?hn ?ho ?hcd ?hr ?hbind ?hloc ?h ?hco ?hgen ?hk ?hcell
  case ho => k_dflt k_is
  case hcd => k_dflt k_is
  case hr => k_room
  case hbind => exact BindsTo.of_eq rfl
  case hloc => exact locs rfl
  case hco => rfl
  case hgen => rfl
  case hk => rfl
  case hcell => decide
  case hn => exact List.forall_mem_cons.mpr ⟨⟨hx, hx0⟩, List.forall_mem_cons.mpr ⟨⟨hd, hd0⟩, List.forall_mem_nil _⟩⟩
  case h =>
    intro g L' h₁ F N X T hK l1 hof
    have hnd' := hnd
    simp only [List.nodup_cons, List.mem_cons, List.not_mem_nil, or_false, not_or, List.nodup_nil, and_true, not_false_iff] at hnd'
    have n0_1 := hnd'
    replace n0_1 := neN n0_1
    (try dsimp only)
    (try k_fold)
    k_steps
    (rename Fr _ _ _ _ => F')
    (rename News _ _ _ _ => N')
    have hs0 : ∀ p ∈ [(x, lockObj dx), (dx, dictOf [] 0)], s.heap.get? p.1 = some p.2 :=
      List.forall_mem_cons.mpr ⟨hx, List.forall_mem_cons.mpr ⟨hd, List.forall_mem_nil _⟩⟩
    refine h _ _ _ (keep_end (T := [dx]) hK F' N' hs0 ?_) (N' _ (.tail _ (.head _))).1
    exact List.forall_mem_cons.mpr ⟨.inr (by k_mem), List.forall_mem_cons.mpr ⟨.inl (.head _), List.forall_mem_nil _⟩⟩

theorem lock_make_walk {E : Value → Shared → Prop} {Q : Value → Shared → Prop} (F : Fr g L s.heap m) (X : (Mine.hd.heap_39 w.params).In g)
    (T : Top Mine.hd.view_39 (looseW Mine.hd.view_39 [Str.ofString "itemgetter", Str.ofString "LRUCache"]) mean mg mb g) (N : News g L s.heap news) (hroom : A.depth < 790)
    (h : ∀ x dx h' tk th, Fr g L h' m → News g L h' ((x, lockObj dx) :: (dx, heldObj w.params th false) :: news) → (∀ p ∈ news, p.1 < dx) → dx < x → Q (.ref x) { s with heap := h', toks := tk }) :
    wpAny (model prog w) A (call (.ref 53) []) Q E s := by
  refine' call_cls F X N ?hm ?hi ?hf fun x dx h' F' N' l1 l2 => ?_
  case hm => k_dflt k_is
  case hi => k_dflt k_is
  case hf => k_dflt k_is
  have hx := N' _ (.head _)
  have hd := N' _ (.tail _ (.head _))
  refine lock_init_code (s := { s with heap := h' }) ⟨X, T⟩ F'.keep (by k_room) hx.1 hx.2.2 hd.1 hd.2.2 (by simp; exact Nat.ne_of_gt l2) fun h'' tk th K e => ?_
  refine ⟨rfl, ?_⟩
  obtain ⟨F2, N2⟩ := keep_frnews (pre := [(x, lockObj dx)]) F' N' K e (by rintro p hp; rw [List.mem_singleton.mp hp]; exact Nat.ne_of_gt l2) (fun p hp => Nat.ne_of_lt (l1 p hp))
  exact h x dx h'' tk th F2 N2 l1 l2

end
section
local macro_rules | `(tactic| walk_at "call ref") => `(tactic| (k_here; k_dflt (refine' lock_make_walk ?k1 ?k2 ?k3 ?k4 ?k5 ?_; (case k1 => k_asm); (case k2 => k_asm); (case k3 => k_asm); (case k4 => k_asm); (case k5 => k_room); k_whole); intro x' d' h' tk' t' F' N' l1 l2; (try k_lt l1); (try k_lt2 l2); (try k_sweep)))
local macro_rules | `(tactic| walk_at "no key z501") => `(tactic| skip)
local macro_rules | `(tactic| walk_at "no key z502") => `(tactic| skip)
local macro_rules | `(tactic| walk_at "no key z503") => `(tactic| skip)
local macro_rules | `(tactic| walk_at "no key z504") => `(tactic| skip)
variable {prog : Program} {w : World} {A : Around} {s : Shared} {mean : ExcName → Option Value} {mg mb : Str → Option Value} {g : Heap} {L : Addr} {m : Str → Option Value} {news : List (Addr × Obj)}
set_option maxHeartbeats 4000000 in
theorem cache_init_code {b₀ : Heap} {R : Result → Shared → Prop} {c dc : Addr} {cap : Int} {tcap tth : Tok}
    (B : Base w mean mg mb b₀) (hst : ∀ b o, b₀.get? b = some o → s.heap.get? b = some o) (hroom : A.depth < 780)
    (hc : s.heap.get? c = some (instObj 185 dc)) (hc0 : b₀.get? c = none) (hd : s.heap.get? dc = some (dictOf [] 0)) (hd0 : b₀.get? dc = none) (hnd : [c, dc].Nodup)
    (h : ∀ h' tk tc d od x dx th, Keep [c] s.heap h' → h'.get? c = some (cacheObj dc 0 tc d x cap tcap tth) → h'.get? d = some od → od.IsDictOf (PySem.intKind prog w) [] → (d == sysModules) = false →
      h'.get? x = some (lockObj dx) → h'.get? dx = some (heldObj w.params th false) → s.heap.get? d = none → s.heap.get? x = none → s.heap.get? dx = none → [d, x, dx].Nodup → R (.ok (.ret .none)) { s with heap := h', toks := tk }) :
    codeAny (model prog w) A (.call (.ref 116) ⟨[.ref c, .int cap tcap, .int 0 tth], []⟩) R s := by
  refine' call_raw (news := [(c, instObj 185 dc), (dc, dictOf [] 0)]) B hst ?hn ?ho ?hcd ?hr ?hbind ?hloc ?h ?hco ?hgen ?hk ?hcell
  case ho => k_dflt k_is
  case hcd => k_dflt k_is
  case hr => k_room
  case hbind => exact binds_K (B.K.keeps hst) rfl (by k_dflt k_is) rfl rfl rfl
  case hloc => exact locs rfl
  case hco => rfl
  case hgen => rfl
  case hk => rfl
  case hcell => decide
  case hn => exact List.forall_mem_cons.mpr ⟨⟨hc, hc0⟩, List.forall_mem_cons.mpr ⟨⟨hd, hd0⟩, List.forall_mem_nil _⟩⟩
  case h =>
    intro g L' h₁ F N X T hK l1 hof
    have hnd' := hnd
    simp only [List.nodup_cons, List.mem_cons, List.not_mem_nil, or_false, not_or, List.nodup_nil, and_true, not_false_iff] at hnd'
    have n0_1 := hnd'
    replace n0_1 := neN n0_1
    (try dsimp only)
    (try k_fold)
    k_steps
    (rename Fr _ _ _ _ => F')
    (rename News _ _ _ _ => N')
    (rename Obj.IsDictOf (PySem.intKind _ _) _ _ => hi')
    (rename (_ == sysModules) = false => lo')
    (rename (_ < _ ∧ _ < _ ∧ c < _ ∧ dc < _) => l8)
    (rename (_ < _) => l7)
    (rename (c < _ ∧ dc < _) => l6)
    have hs0 : ∀ p ∈ [(c, instObj 185 dc), (dc, dictOf [] 0)], s.heap.get? p.1 = some p.2 :=
      List.forall_mem_cons.mpr ⟨hc, List.forall_mem_cons.mpr ⟨hd, List.forall_mem_nil _⟩⟩
    have e1 := N' _ (.head _)
    have e2 := N' _ (.tail _ (.head _))
    have e3 := N' _ (.tail _ (.tail _ (.head _)))
    have e4 := N' _ (.tail _ (.tail _ (.tail _ (.head _))))
    have nn : ∀ {a : Addr}, g.get? a = none → c ≠ a → dc ≠ a → s.heap.get? a = none := fun ha h1 h2 => new_none hK ha (by rintro p hp; simp only [List.mem_cons, List.not_mem_nil, or_false] at hp; rcases hp with rfl | rfl; exact h1; exact h2)
    have l8a := ltN l8.1
    have l8b := ltN l8.2.1
    have l8c := ltN l8.2.2.1
    have l8d := ltN l8.2.2.2
    have l6a := ltN l6.1
    have l6b := ltN l6.2
    replace l7 := ltN l7
    refine h _ _ _ _ _ _ _ _ (keep_end (T := [c]) hK F' N' hs0 ?_) e4.1 e1.1 hi' lo' e2.1 e3.1 (nn e1.2.2 (Nat.ne_of_lt l8c) (Nat.ne_of_lt l8d)) (nn e2.2.2 (by k_ne) (by k_ne)) (nn e3.2.2 (Nat.ne_of_lt l6a) (Nat.ne_of_lt l6b)) ?_
    · exact List.forall_mem_cons.mpr ⟨.inl (.head _), List.forall_mem_cons.mpr ⟨.inr (by k_mem), List.forall_mem_nil _⟩⟩
    · simp only [List.nodup_cons, List.mem_cons, List.not_mem_nil, or_false, not_or, List.nodup_nil, and_true, not_false_iff]
      exact ⟨⟨by k_ne, by k_ne⟩, by k_ne⟩
end
end


section
local macro_rules | `(tactic| k_room) => `(tactic| ((try simp only [depth_under_make, depth_under_kw, depth_in1, depth_deeper, depth_caller] at *); (try simp only [recursionLimit] at *); omega))

section
variable {prog : Program} {w : World} {A : Around} {s : Shared} {mean : ExcName → Option Value} {mg mb : Str → Option Value} {g : Heap} {L : Addr} {m : Str → Option Value} {news : List (Addr × Obj)}

theorem keep_all {h h' : Heap} (F : Fr g L h m) (N : News g L h news) (K : Keep [] h h') : Fr g L h' m ∧ News g L h' news := by
  obtain ⟨oL, es, ep, hL, r⟩ := F.ns
  have k : ∀ b o, h.get? b = some o → h'.get? b = some o := fun b o e => K b o (by simp) e
  exact ⟨⟨⟨oL, es, ep, k _ _ hL, r⟩, fun b o e => k _ _ (F.keep b o e), F.above⟩, fun p hp => ⟨k _ _ (N p hp).1, (N p hp).2⟩⟩

theorem acquire_walk {E : Value → Shared → Prop} {Q : Value → Shared → Prop} {x dx : Addr} {th : Tok} {news' : List (Addr × Obj)} (F : Fr g L s.heap m) (X : (Mine.hd.heap_39 w.params).In g)
    (T : Top Mine.hd.view_39 (looseW Mine.hd.view_39 [Str.ofString "itemgetter", Str.ofString "LRUCache"]) mean mg mb g) (N : News g L s.heap news) (hroom : A.depth < 800)
    (hx : (x, lockObj dx) ∈ news) (U : Upd dx (heldObj w.params th false) (heldObj w.params th true) news news') (hnd : x ≠ dx)
    (h : ∀ h' tk, Fr g L h' m → News g L h' news' → Q (.bool true) { s with heap := h', toks := tk }) :
    wpAny (model prog w) A (call (.ref 43) [.ref x, .bool false]) Q E s := by
  have hc := N _ hx
  have hd := N _ (Upd.fst U)
  refine wpAny_call (acquire_code ⟨X, T⟩ F.keep hroom hc.1 hc.2.2 hd.1 hd.2.2 hnd fun h' tk K e => ?_)
  obtain ⟨pre, post, e1, e2, h1, h2⟩ := U.split
  rw [e1] at N
  obtain ⟨F', N'⟩ := keep_frnews F N K e h1 h2
  exact h h' tk F' (e2 ▸ N')

theorem release_walk {E : Value → Shared → Prop} {Q : Value → Shared → Prop} {x dx : Addr} {th : Tok} {b : Bool} {news' : List (Addr × Obj)} (F : Fr g L s.heap m) (X : (Mine.hd.heap_39 w.params).In g)
    (T : Top Mine.hd.view_39 (looseW Mine.hd.view_39 [Str.ofString "itemgetter", Str.ofString "LRUCache"]) mean mg mb g) (N : News g L s.heap news) (hroom : A.depth < 800)
    (hx : (x, lockObj dx) ∈ news) (U : Upd dx (heldObj w.params th b) (heldObj w.params th false) news news') (hnd : x ≠ dx)
    (h : ∀ h' tk, Fr g L h' m → News g L h' news' → Q .none { s with heap := h', toks := tk }) :
    wpAny (model prog w) A (call (.ref 50) [.ref x]) Q E s := by
  have hc := N _ hx
  have hd := N _ (Upd.fst U)
  refine wpAny_call (release_code ⟨X, T⟩ F.keep hroom hc.1 hc.2.2 hd.1 hd.2.2 hnd fun h' tk K e => ?_)
  obtain ⟨pre, post, e1, e2, h1, h2⟩ := U.split
  rw [e1] at N
  obtain ⟨F', N'⟩ := keep_frnews F N K e h1 h2
  exact h h' tk F' (e2 ▸ N')

theorem len_walk {E : Value → Shared → Prop} {Q : Value → Shared → Prop} {c dc d x : Addr} {cnt cap : Int} {tc tcap tth : Tok} {od : Obj} {kvs : List (Int × Value)} (F : Fr g L s.heap m) (X : (Mine.hd.heap_39 w.params).In g)
    (T : Top Mine.hd.view_39 (looseW Mine.hd.view_39 [Str.ofString "itemgetter", Str.ofString "LRUCache"]) mean mg mb g) (N : News g L s.heap news) (hroom : A.depth < 790)
    (hc : (c, cacheObj dc cnt tc d x cap tcap tth) ∈ news) (hdc : (dc, dictOf [] 0) ∈ news) (hd : (d, od) ∈ news) (hod : od.IsDictOf (PySem.intKind prog w) kvs) (lo : (d == sysModules) = false) (hlen : kvs.length ≤ 1000)
    (h : ∀ h' tk t, Fr g L h' m → News g L h' news → Q (.int kvs.length t) { s with heap := h', toks := tk }) :
    wpAny (model prog w) A (call (.ref 152) [.ref c]) Q E s := by
  have a := N _ hc
  have b := N _ hdc
  have e := N _ hd
  refine wpAny_call (len_code (key := 0) (tk := 0) ⟨X, T⟩ F.keep hroom a.1 a.2.2 b.1 b.2.2 e.1 e.2.2 hod lo hlen fun h' tk t K => ?_)
  obtain ⟨F', N'⟩ := keep_all F N K
  exact h h' tk t F' N'
end
end
section
variable {prog : Program} {w : World} {A : Around} {s : Shared} {mean : ExcName → Option Value} {mg mb : Str → Option Value} {g : Heap} {L : Addr} {m : Str → Option Value} {news : List (Addr × Obj)}
local macro_rules | `(tactic| k_room) => `(tactic| ((try simp only [depth_under_make, depth_under_kw, depth_in1, depth_deeper, depth_caller] at *); (try simp only [recursionLimit] at *); omega))
local macro_rules | `(tactic| walk_at "call ref") => `(tactic| (k_here; k_dflt (refine' acquire_walk ?k1 ?k2 ?k3 ?k4 ?k5 ?k6 ?k7 ?k8 ?_; (case k1 => k_asm); (case k2 => k_asm); (case k3 => k_asm); (case k4 => k_asm); (case k5 => k_room); (case k6 => k_mem); (case k7 => k_upd); (case k8 => k_ne); k_whole); intro h' tk' F' N'; (try k_sweep)))
local macro_rules | `(tactic| walk_at "call ref") => `(tactic| (k_here; k_dflt (refine' release_walk ?k1 ?k2 ?k3 ?k4 ?k5 ?k6 ?k7 ?k8 ?_; (case k1 => k_asm); (case k2 => k_asm); (case k3 => k_asm); (case k4 => k_asm); (case k5 => k_room); (case k6 => k_mem); (case k7 => k_upd); (case k8 => k_ne); k_whole); intro h' tk' F' N'; (try k_sweep)))
local macro_rules | `(tactic| walk_at "call ref") => `(tactic| (k_here; k_dflt (refine' len_walk ?k1 ?k2 ?k3 ?k4 ?k5 ?k6 ?k7 ?k8 ?k9 ?k10 ?k11 ?_; (case k1 => k_asm); (case k2 => k_asm); (case k3 => k_asm); (case k4 => k_asm); (case k5 => k_room); (case k6 => k_mem); (case k7 => k_mem); (case k8 => k_mem); (case k9 => k_asm); (case k10 => k_asm); (case k11 => omega); k_whole); intro h' tk' t' F' N'; (try k_sweep); (try dsimp only [PySem.W.LenBack]); (try (refine ⟨⟨by omega, by omega⟩, ?_⟩))))
local macro_rules | `(tactic| walk_at "WhlIf") => `(tactic| (first | (refine WhlIf.no (decide_eq_false (by omega)) ?_) | (refine WhlIf.yes (decide_eq_true (by omega)) ?_)))
local macro_rules | `(tactic| walk_at "no key z601") => `(tactic| skip)
local macro_rules | `(tactic| walk_at "no key z602") => `(tactic| skip)

set_option maxHeartbeats 4000000 in
theorem manage_stay_code {b₀ : Heap}
    {R : Result → Shared → Prop} {c dc d x dx : Addr} {cnt cap : Int} {tc tcap tth th : Tok} {od : Obj} {kvs : List (Int × Value)}
    (B : Base w mean mg mb b₀) (hst : ∀ b o, b₀.get? b = some o → s.heap.get? b = some o) (hroom : A.depth < 770)
    (hc : s.heap.get? c = some (cacheObj dc cnt tc d x cap tcap tth)) (hc0 : b₀.get? c = none) (hd : s.heap.get? dc = some (dictOf [] 0)) (hd0 : b₀.get? dc = none)
    (hdd : s.heap.get? d = some od) (hdd0 : b₀.get? d = none) (hod : od.IsDictOf (PySem.intKind prog w) kvs) (lo : (d == sysModules) = false)
    (hx : s.heap.get? x = some (lockObj dx)) (hx0 : b₀.get? x = none) (hdx : s.heap.get? dx = some (heldObj w.params th false)) (hdx0 : b₀.get? dx = none)
    (hnd : [c, dc, d, x, dx].Nodup) (hcap : (kvs.length : Int) ≤ cap) (hcap2 : cap ≤ 100)
    (h : ∀ h' tk, Keep [] s.heap h' → R (.ok (.ret .none)) { s with heap := h', toks := tk }) :
    codeAny (model prog w) A (.call (.ref 181) ⟨[.ref c], []⟩) R s := by
  refine' call_raw (news := [(c, cacheObj dc cnt tc d x cap tcap tth), (dc, dictOf [] 0), (d, od), (x, lockObj dx), (dx, heldObj w.params th false)]) B hst ?hn ?ho ?hcd ?hr ?hbind ?hloc ?h ?hco ?hgen ?hk ?hcell
  case ho => k_dflt k_is
  case hcd => k_dflt k_is
  case hr => k_room
  case hbind => exact BindsTo.of_eq rfl
  case hloc => exact locs rfl
  case hco => rfl
  case hgen => rfl
  case hk => rfl
  case hcell => decide
  case hn => exact List.forall_mem_cons.mpr ⟨⟨hc, hc0⟩, List.forall_mem_cons.mpr ⟨⟨hd, hd0⟩, List.forall_mem_cons.mpr ⟨⟨hdd, hdd0⟩, List.forall_mem_cons.mpr ⟨⟨hx, hx0⟩, List.forall_mem_cons.mpr ⟨⟨hdx, hdx0⟩, List.forall_mem_nil _⟩⟩⟩⟩⟩
  case h =>
    intro g L' h₁ F N X T hK l1 hof
    have hnd' := hnd
    simp only [List.nodup_cons, List.mem_cons, List.not_mem_nil, or_false, not_or, List.nodup_nil, and_true, not_false_iff] at hnd'
    obtain ⟨⟨n0_1, n0_2, n0_3, n0_4⟩, ⟨n1_2, n1_3, n1_4⟩, ⟨n2_3, n2_4⟩, n3_4⟩ := hnd'
    replace n0_1 := neN n0_1
    replace n0_2 := neN n0_2
    replace n0_3 := neN n0_3
    replace n0_4 := neN n0_4
    replace n1_2 := neN n1_2
    replace n1_3 := neN n1_3
    replace n1_4 := neN n1_4
    replace n2_3 := neN n2_3
    replace n2_4 := neN n2_4
    replace n3_4 := neN n3_4
    (try dsimp only)
    (try k_fold)
    k_steps
    (rename Fr _ _ _ _ => F')
    (rename News _ _ _ _ => N')
    have hs0 : ∀ p ∈ [(c, cacheObj dc cnt tc d x cap tcap tth), (dc, dictOf [] 0), (d, od), (x, lockObj dx), (dx, heldObj w.params th false)], s.heap.get? p.1 = some p.2 :=
      List.forall_mem_cons.mpr ⟨hc, List.forall_mem_cons.mpr ⟨hd, List.forall_mem_cons.mpr ⟨hdd, List.forall_mem_cons.mpr ⟨hx, List.forall_mem_cons.mpr ⟨hdx, List.forall_mem_nil _⟩⟩⟩⟩⟩
    refine h _ _ (keep_end (T := []) hK F' N' hs0 ?_)
    exact List.forall_mem_cons.mpr ⟨.inr (by k_mem), List.forall_mem_cons.mpr ⟨.inr (by k_mem), List.forall_mem_cons.mpr ⟨.inr (by k_mem), List.forall_mem_cons.mpr ⟨.inr (by k_mem), List.forall_mem_cons.mpr ⟨.inr (by k_mem), List.forall_mem_nil _⟩⟩⟩⟩⟩
end


section
open PySem.Calls AutoSeq1 MeetsSeq MeetsSeq2 MeetsSeq3
theorem list_lt_of (a b : Addr) (items items2 : Array Value) (x y : Int) (tx ty : Tok) (n n2 : Nat) (h1 : items[(0 : Int).toNat]? = some (.int x tx)) (h2 : items2[(0 : Int).toNat]? = some (.int y ty)) (hne : x ≠ y) :
    Meets (Builtin.«list.__lt__» ⟨[.ref a, .ref b], []⟩)
      (fun _ R s => s.heap.get? a = some (PySem.W.listOf items n) ∧ s.heap.get? b = some (PySem.W.listOf items2 n2) ∧ R (.ok (.ret (.bool (decide (x < y))))) s) := by
  intro prog w A R s h
  obtain ⟨hp, g, d, tk, os⟩ := s; obtain ⟨hl, hb, h⟩ := h
  have f3 := AutoSeq1.sub_list_list
  wp_walk using wpAny_loadPart' hl, wpAny_loadPart' hb
  refine (show _ ∧ codeAny (model prog w) A (.builtin "list.__eq__.loop" ⟨[.ref a, .ref b, rawInt 0, rawInt 0], []⟩) R _ from ⟨plainId_quiet plain_eq_loop _, codeAny_builtin entry_eq_loop ?_⟩)
  rw [Around.under_plainId plain_eq_loop _]
  wp_walk using wpAny_loadPart' hl, wpAny_loadPart' hb
  rw [h1, h2]
  refine wpAny_bind (wpAny_eqBool_int ?_)
  rw [show (x == y) = false from beq_eq_false_iff_ne.mpr hne]
  wp_walk using wpAny_loadPart' hl, wpAny_loadPart' hb
  rw [h1, h2]
  dsimp only
  refine wpAny_bind ?_
  refine wpAny_richCompare_same (op := .Lt) (T := "int") (typeIs_int _ x tx) (typeIs_int _ y ty) slot_int_lt (wpAny_call_entry slot_int_lt (typeIs_int _ x tx) entry_int_lt
      (show wpAny _ _ (ret (.bool (decide (x < y)))) _ _ _ from wpAny_pure ⟨_, rfl, by simp, ?_⟩) (args_int_lt _ _))
  exact wpAny_pure h

variable {prog : Program} {w : World} {A : Around} {s : Shared}

theorem oneLt_lists {E : Value → Shared → Prop} {Q : Bool → Shared → Prop} {a b : Addr} {x y : Int} {tx ty : Tok} {n n2 : Nat} (hu : A.units < cLine)
    (ha : s.heap.get? a = some (ctrObj x tx n)) (hb : s.heap.get? b = some (ctrObj y ty n2)) (hne : x ≠ y) (h : Q (decide (x < y)) s) :
    wpAny (model prog w) A (oneLt' true (.ref a) (.ref b)) Q E s := by
  rw [oneLt'_eq]
  simp only [if_true]
  refine wpAny_bind (wpAny_cRoomFor hu ?_)
  refine wpAny_bind (wpAny_callSpecialIfBound?_slot (T := "list") ⟨_, ha, rfl⟩ PySem.F.slot_list_lt
    (call_meets PySem.F.slot_list_lt ⟨_, ha, rfl⟩ PySem.F.entry_list_lt (PySem.F.args_list_lt_2 _ _) (list_lt_of a b _ _ x y tx ty n n2 rfl rfl hne) ⟨ha, hb, ?_⟩))
  exact wpAny_truthy_bool h
end

/-! the sort of pairs whose keys are distinct by a number -/
section
variable {prog : Program} {w : World} {A : Around} {E : Value → Shared → Prop} {s : Shared}

def nkey (f : Addr → Int) : Value → Int
  | .ref a => f a
  | _ => 0
/-- the number at a place -/
def at_ (f : Addr → Int) (xs : Array Keyed) (i : Nat) : Int := ((xs[i]?).map fun p => nkey f p.1).getD 0

/-- pairs that the comparison of the run tells apart by their numbers -/
structure Told (prog : Program) (w : World) (A : Around) (s : Shared) (f : Addr → Int) (a₀ : Array Keyed) : Prop where
  lt : ∀ p ∈ a₀.toList, ∀ q ∈ a₀.toList, nkey f p.1 ≠ nkey f q.1 → ∀ (E : Value → Shared → Prop) (Q : Bool → Shared → Prop), Q (decide (nkey f p.1 < nkey f q.1)) s → wpAny (model prog w) A (oneLt' true p.1 q.1) Q E s
  apart : (a₀.toList.map fun p => nkey f p.1).Nodup

variable {f : Addr → Int} {a₀ : Array Keyed}

theorem at_congr {xs ys : Array Keyed} {i j : Nat} (h : xs[i]? = ys[j]?) : at_ f xs i = at_ f ys j := by unfold at_; rw [h]
theorem at_bubble {xs : Array Keyed} {src d : Nat} (hs : src < xs.size) (hd : d ≤ src) (k : Nat) :
    at_ f (bubble xs src d) k = if k = src - d then at_ f xs src else if src - d < k ∧ k ≤ src then at_ f xs (k - 1) else at_ f xs k := by
  unfold at_
  rw [getElem?_bubble hs d hd k]
  repeat' split
  all_goals rfl
theorem at_mirror {xs : Array Keyed} {i j : Nat} (hj : j ≤ xs.size) (k : Nat) :
    at_ f (mirror xs i j ((j - i) / 2)) k = if i ≤ k ∧ k < j then at_ f xs (i + j - 1 - k) else at_ f xs k := by
  unfold at_
  rw [getElem?_mirror_all hj k]
  repeat' split
  all_goals rfl

def Up (f : Addr → Int) (xs : Array Keyed) (k : Nat) : Prop := ∀ i j, i < j → j < k → at_ f xs i < at_ f xs j
def Dn (f : Addr → Int) (xs : Array Keyed) (k : Nat) : Prop := ∀ i j, i < j → j < k → at_ f xs j < at_ f xs i

theorem sb_ne {st : SortSt} (hB : SBase a₀ st) (T : Told prog w A s f a₀) {i j : Nat} (hi : i < a₀.size) (hj : j < a₀.size) (hij : i ≠ j) : at_ f (arrOf st) i ≠ at_ f (arrOf st) j := by
  have hs := hB.size
  have hp : ((arrOf st).toList.map fun p => nkey f p.1).Nodup := (((Array.perm_iff_toList_perm.mp hB.perm).map _).nodup_iff).mpr T.apart
  unfold at_
  rw [getElem?_pos _ i (by omega), getElem?_pos _ j (by omega)]
  simp only [Option.map_some, Option.getD_some]
  intro e
  have h1 : ((arrOf st).toList.map fun p => nkey f p.1)[i]'(by simp; omega) = ((arrOf st).toList.map fun p => nkey f p.1)[j]'(by simp; omega) := by simpa using e
  rcases Nat.lt_or_gt_of_ne hij with hlt | hlt
  · exact List.pairwise_iff_getElem.mp hp i j (by simp; omega) (by simp; omega) hlt h1
  · exact List.pairwise_iff_getElem.mp hp j i (by simp; omega) (by simp; omega) hlt h1.symm

theorem sb_cmp {st : SortSt} {i j : Nat} {Q : Option Bool → SortSt → Prop} (hB : SBase a₀ st) (T : Told prog w A s f a₀) (hi : i < a₀.size) (hj : j < a₀.size) (hij : i ≠ j)
    (h : Q (some (decide (at_ f (arrOf st) i < at_ f (arrOf st) j))) st) : wpS (model prog w) A E s (ltAt' i j) Q st := by
  have hs := hB.size
  have ei : (arrOf st)[i]? = some (arrOf st)[i] := getElem?_pos _ i (by omega)
  have ej : (arrOf st)[j]? = some (arrOf st)[j] := getElem?_pos _ j (by omega)
  have mi : (arrOf st)[i] ∈ a₀.toList := (Array.perm_iff_toList_perm.mp hB.perm).mem_iff.mp (by simp)
  have mj : (arrOf st)[j] ∈ a₀.toList := (Array.perm_iff_toList_perm.mp hB.perm).mem_iff.mp (by simp)
  have hne := sb_ne hB T hi hj hij
  have vi : at_ f (arrOf st) i = nkey f (arrOf st)[i].1 := by unfold at_; rw [ei]; rfl
  have vj : at_ f (arrOf st) j = nkey f (arrOf st)[j].1 := by unfold at_; rw [ej]; rfl
  rw [vi, vj] at h hne
  rw [ltAt'_eq]
  refine wpS_bind (wpS_get ?_)
  refine wpS_bind (by rw [elem'_eq, ei]; refine wpS_pure ?_; refine wpS_bind ?_; rw [elem'_eq, ej]; refine wpS_pure ?_; rw [lt'_eq]; refine wpS_bind (wpS_get ?_); rw [hB.kind, keyLt'_oneType]; exact wpS_bind (wpS_lift (wpAny_attempt (T.lt _ mi _ mj hne _ _ ⟨rfl, wpS_pure h⟩))))

theorem up_run {st : SortSt} {a n : Nat} {Q : AscSt → SortSt → Prop} (T : Told prog w A s f a₀) (hB : SBase a₀ st) (hn : n ≤ a₀.size) (h1 : 1 ≤ a) (han : a ≤ n) (hu : Up f (arrOf st) a)
    (h : ∀ m, a ≤ m → m ≤ n → Up f (arrOf st) m → (m < n → at_ f (arrOf st) m < at_ f (arrOf st) (m - 1)) → Q (none, m) st) : wpS (model prog w) A E s (ascLoop a n) Q st := by
  unfold ascLoop
  refine wpS_forRange (I := fun x c st' => st' = st ∧ c = (none, x) ∧ Up f (arrOf st) x) (fun x c st' hx hxn hI => ?_) (fun c st' hI => ?_) ⟨rfl, rfl, hu⟩
  · obtain ⟨rfl, rfl, hu'⟩ := hI
    refine wpS_bind (sb_cmp hB T (by omega) (by omega) (by omega) ?_)
    dsimp only
    by_cases hc : at_ f (arrOf st') x < at_ f (arrOf st') (x - 1)
    · rw [decide_eq_true hc, if_pos rfl]
      exact wpS_pure (h x hx (by omega) hu' fun _ => hc)
    · rw [decide_eq_false hc, if_neg (by simp)]
      refine wpS_pure ⟨rfl, rfl, fun i j hij hj => ?_⟩
      have hne := sb_ne hB T (i := x - 1) (j := x) (by omega) (by omega) (by omega)
      by_cases hjx : j < x
      · exact hu' i j hij hjx
      · have : j = x := by omega
        subst this
        by_cases hi : i = j - 1
        · subst hi; omega
        · have := hu' i (j - 1) (by omega) (by omega); omega
  · obtain ⟨rfl, rfl, hu'⟩ := hI
    rw [show max a n = n by omega] at hu' ⊢
    exact h n han (Nat.le_refl _) hu' fun z => by omega

theorem turn_run {st : SortSt} {m n : Nat} {Q : Option Nat → SortSt → Prop} (T : Told prog w A s f a₀) (hB : SBase a₀ st) (hn : n ≤ a₀.size) (h1 : 1 ≤ m) (hmn : m ≤ n) (hd : Dn f (arrOf st) m)
    (h : ∀ k st', SBase a₀ st' → 1 ≤ k → k ≤ n → Up f (arrOf st') k → Q (some k) st') : wpS (model prog w) A E s (tail3 m n) Q st := by
  have hs := hB.size
  unfold tail3
  refine wpS_bind (wpS_reverse ?_)
  have hB' : SBase a₀ (setArr st (mirror (arrOf st) 0 m ((m - 0) / 2))) := hB.setArr (mirror_perm _ _ _ _)
  refine wpS_bind (up_run T hB' hn h1 hmn (fun i j hij hj => ?_) fun k hk1 hk2 hu _ => wpS_pure (h k _ hB' (by omega) hk2 hu))
  show at_ f (mirror (arrOf st) 0 m ((m - 0) / 2)) i < at_ f (mirror (arrOf st) 0 m ((m - 0) / 2)) j
  rw [at_mirror (by omega), at_mirror (by omega), if_pos (by omega), if_pos (by omega)]
  exact hd _ _ (by omega) (by omega)

theorem dn_run {st : SortSt} {a n : Nat} {Q : DescSt → SortSt → Prop} (T : Told prog w A s f a₀) (hB : SBase a₀ st) (hn : n ≤ a₀.size) (h1 : 1 ≤ a) (han : a ≤ n) (hd : Dn f (arrOf st) a)
    (h : ∀ m, a ≤ m → m ≤ n → Dn f (arrOf st) m → Q (none, m, 0) st) : wpS (model prog w) A E s (descLoop a n) Q st := by
  unfold descLoop
  refine wpS_forRange (I := fun x c st' => st' = st ∧ c = (none, x, 0) ∧ Dn f (arrOf st) x) (fun x c st' hx hxn hI => ?_) (fun c st' hI => ?_) ⟨rfl, rfl, hd⟩
  · obtain ⟨rfl, rfl, hd'⟩ := hI
    have hne := sb_ne hB T (i := x - 1) (j := x) (by omega) (by omega) (by omega)
    dsimp only
    refine wpS_bind (sb_cmp hB T (by omega) (by omega) (by omega) ?_)
    dsimp only
    by_cases hc : at_ f (arrOf st') x < at_ f (arrOf st') (x - 1)
    · rw [decide_eq_true hc, if_pos rfl, if_neg (by omega)]
      refine wpS_pure ⟨rfl, rfl, fun i j hij hj => ?_⟩
      by_cases hjx : j < x
      · exact hd' i j hij hjx
      · have : j = x := by omega
        subst this
        by_cases hi : i = j - 1
        · subst hi; exact hc
        · have := hd' i (j - 1) (by omega) (by omega); omega
    · rw [decide_eq_false hc, if_neg (by simp)]
      refine wpS_bind (sb_cmp hB T (by omega) (by omega) (by omega) ?_)
      dsimp only
      rw [decide_eq_true (by omega), if_pos rfl]
      exact wpS_pure (h x hx (by omega) hd')
  · obtain ⟨rfl, rfl, hd'⟩ := hI
    rw [show max a n = n by omega] at hd' ⊢
    exact h n han (Nat.le_refl _) hd'

theorem first_run {st : SortSt} {n : Nat} {Q : Option Nat → SortSt → Prop} (T : Told prog w A s f a₀) (hB : SBase a₀ st) (hn : n ≤ a₀.size) (h1 : 1 ≤ n)
    (h : ∀ k st', SBase a₀ st' → 1 ≤ k → k ≤ n → Up f (arrOf st') k → Q (some k) st') : wpS (model prog w) A E s (countRun' 0 n) Q st := by
  rw [countRun0_eq]
  refine wpS_bind (up_run T hB hn (Nat.le_refl 1) h1 (fun i j hij hj => by omega) fun m hm1 hm2 hu hlast => ?_)
  dsimp only
  by_cases hmn : m = n
  · rw [if_pos (by simpa using hmn)]
    exact wpS_pure (h m st hB hm1 hm2 hu)
  · rw [if_neg (by simpa using hmn)]
    by_cases hm : m > 1
    · rw [if_pos hm]
      refine wpS_bind (sb_cmp hB T (by omega) (by omega) (by omega) ?_)
      dsimp only
      rw [decide_eq_true (hu 0 (m - 1) (by omega) (by omega)), if_pos rfl]
      exact wpS_pure (h m st hB hm1 hm2 hu)
    · rw [if_neg hm]
      have : m = 1 := by omega
      subst this
      unfold descPart
      refine wpS_bind (wpS_lift (wpAny_rule ⟨rfl, ?_⟩))
      refine wpS_bind (dn_run T hB hn (by omega) (by omega) (fun i j hij hj => ?_) fun k hk1 hk2 hd => ?_)
      · have hi0 : i = 0 := by omega
        have hj1 : j = 1 := by omega
        subst hi0; subst hj1
        exact hlast (by omega)
      · dsimp only
        rw [if_neg (by omega)]
        exact turn_run T hB hn (by omega) hk2 hd h

theorem ins_sort {st : SortSt} {n ok : Nat} {Q : Bool → SortSt → Prop} (T : Told prog w A s f a₀) (hB : SBase a₀ st) (hn : n ≤ a₀.size) (hok : ok ≤ n) (h1 : 1 ≤ ok) (hu : Up f (arrOf st) ok)
    (h : ∀ st', SBase a₀ st' → Up f (arrOf st') n → Q true st') : wpS (model prog w) A E s (binarySort' 0 n ok) Q st := by
  rw [binarySort'_eq]
  simp only [Nat.zero_add]
  refine wpS_bind (wpS_mono (wpS_forRange (I := fun k c st' => c = (none, ()) ∧ SBase a₀ st' ∧ Up f (arrOf st') k) (Q := fun c st' => c = (none, ()) ∧ SBase a₀ st' ∧ Up f (arrOf st') n)
    (fun k c st' hk hkn hI => ?_) (fun c st' hI => ?_) (show _ from ⟨rfl, hB, by rw [show max ok 1 = ok by omega]; exact hu⟩)) fun c st' hI => ?_)
  · obtain ⟨rfl, hB', hu'⟩ := hI
    have hs := hB'.size
    refine wpS_bind (wpS_mono (wpS_forRange (I := fun x c st'' => st'' = st' ∧ ∃ l r, c = (none, l, r) ∧ l ≤ r ∧ r ≤ k ∧ r - l ≤ k - x ∧ (∀ i, i < l → at_ f (arrOf st') i < at_ f (arrOf st') k) ∧ (∀ i, r ≤ i → i < k → at_ f (arrOf st') k < at_ f (arrOf st') i))
      (Q := fun c st'' => st'' = st' ∧ ∃ l r, c = (none, l, r) ∧ l ≤ k ∧ (∀ i, i < l → at_ f (arrOf st') i < at_ f (arrOf st') k) ∧ (∀ i, l ≤ i → i < k → at_ f (arrOf st') k < at_ f (arrOf st') i))
      (fun x c st'' hx hxk hJ => ?_) (fun c st'' hJ => ?_) ⟨rfl, 0, k, rfl, by omega, by omega, by omega, fun i hi => by omega, fun i hi1 hi2 => by omega⟩) fun c st'' hJ => ?_)
    · obtain ⟨rfl, l, r, rfl, hlr, hrk, hm, hlo, hhi⟩ := hJ
      dsimp only
      by_cases hge : l ≥ r
      · rw [if_pos hge]
        exact wpS_pure ⟨rfl, l, r, rfl, by omega, hlo, fun i hi1 hi2 => hhi i (by omega) hi2⟩
      · rw [if_neg hge]
        have hne := sb_ne hB' T (i := k) (j := (l + r) / 2) (by omega) (by omega) (by omega)
        refine wpS_bind (sb_cmp hB' T (by omega) (by omega) (by omega) ?_)
        dsimp only
        by_cases hc : at_ f (arrOf st'') k < at_ f (arrOf st'') ((l + r) / 2)
        · rw [decide_eq_true hc, if_pos rfl]
          refine wpS_pure ⟨rfl, l, (l + r) / 2, rfl, by omega, by omega, by omega, hlo, fun i hi1 hi2 => ?_⟩
          by_cases hi : i = (l + r) / 2
          · subst hi; exact hc
          · have := hu' ((l + r) / 2) i (by omega) hi2; omega
        · rw [decide_eq_false hc, if_neg (by simp)]
          refine wpS_pure ⟨rfl, (l + r) / 2 + 1, r, rfl, by omega, by omega, by omega, fun i hi => ?_, hhi⟩
          by_cases hi' : i = (l + r) / 2
          · subst hi'; omega
          · have := hu' i ((l + r) / 2) (by omega) (by omega); omega
    · obtain ⟨rfl, l, r, rfl, hlr, hrk, hm, hlo, hhi⟩ := hJ
      have : l = r := by omega
      subst this
      exact ⟨rfl, l, l, rfl, hrk, hlo, hhi⟩
    · obtain ⟨rfl, l, r, rfl, hlk, hlo, hhi⟩ := hJ
      show wpS _ _ _ _ (do moveDown' k l; pure (ForInStep.yield (none, ()))) _ _
      rw [moveDown'_eq]
      refine wpS_bind (wpS_modify (wpS_pure ⟨rfl, hB'.setArr (bubble_perm _ _ _), fun i j hij hj => ?_⟩))
      show at_ f (bubble (arrOf st'') k (k - l)) i < at_ f (bubble (arrOf st'') k (k - l)) j
      rw [at_bubble (by omega) (by omega), at_bubble (by omega) (by omega), show k - (k - l) = l by omega]
      repeat' split
      all_goals first
        | (exfalso; omega)
        | exact hlo _ (by omega)
        | exact hhi _ (by omega) (by omega)
        | exact hu' _ _ (by omega) (by omega)
  · obtain ⟨hc, hB', hu'⟩ := hI
    rw [show max (max ok 1) n = n by omega] at hu'
    exact ⟨hc, hB', hu'⟩
  · obtain ⟨rfl, hB', hu'⟩ := hI
    exact wpS_pure (h st' hB' hu')

theorem runs_sort {st : SortSt} {Q : Unit → SortSt → Prop} (T : Told prog w A s f a₀) (hB : SBase a₀ st) (h2 : 2 ≤ a₀.size) (h64 : a₀.size < 64)
    (h : ∀ st', (arrOf st').Perm a₀ → failedOf st' = none → Up f (arrOf st') a₀.size → Q () st') : wpS (model prog w) A E s sortRuns' Q st := by
  have hmr : minRun' a₀.size a₀.size 0 = a₀.size := by
    obtain ⟨k, hk⟩ : ∃ k, a₀.size = k + 1 := ⟨a₀.size - 1, by omega⟩
    have e : minRun' (k + 1) a₀.size 0 = a₀.size := by rw [minRun'_succ, if_pos h64]; rfl
    rwa [← hk] at e
  rw [sortRuns'_eq]
  refine wpS_bind (wpS_get ?_)
  dsimp only
  simp only [hB.size, hmr]
  let Fin (st' : SortSt) : Prop := (arrOf st').Perm a₀ ∧ failedOf st' = none ∧ pendingOf st' = #[(0, a₀.size, 0)] ∧ Up f (arrOf st') a₀.size
  have mk : ∀ st', SBase a₀ st' → Up f (arrOf st') a₀.size → Fin (setPending st' ((pendingOf st').push (0, a₀.size, 0))) := fun st' hB' hu => ⟨hB'.perm, hB'.failed, by show (pendingOf st').push _ = _; rw [hB'.pend]; rfl, hu⟩
  refine wpS_bind (wpS_mono (wpS_forRange (I := fun x c st' => (x = 0 ∧ c = (none, 0) ∧ SBase a₀ st') ∨ (1 ≤ x ∧ c = (none, a₀.size) ∧ Fin st')) (Q := fun c st' => c = (none, a₀.size) ∧ Fin st')
    (fun x c st' _ hx hI => ?_) (fun c st' hI => ?_) (.inl ⟨rfl, rfl, hB⟩)) fun c st' hI => ?_)
  · rcases hI with ⟨rfl, rfl, hB'⟩ | ⟨hx1, rfl, hF⟩
    · dsimp only
      rw [if_neg (by omega)]
      simp only [Nat.sub_zero, Nat.min_self, Nat.zero_add]
      refine wpS_bind (first_run T hB' (Nat.le_refl _) (by omega) fun m st2 hB2 hm1 hm2 hu2 => ?_)
      dsimp only
      by_cases hlt : m < a₀.size
      · rw [if_pos hlt]
        refine wpS_bind (wpS_lift (wpAny_rule ⟨rfl, ?_⟩))
        refine wpS_bind (ins_sort T hB2 (Nat.le_refl _) hm2 hm1 hu2 fun st3 hB3 hu3 => ?_)
        simp only [Bool.not_true, Bool.false_eq_true, if_false]
        refine wpS_bind (wpS_get ?_)
        rw [show (pendingOf st3).back? = none by rw [hB3.pend]; rfl]
        dsimp only
        exact wpS_bind (wpS_modify (wpS_pure (.inr ⟨by omega, rfl, mk _ hB3 hu3⟩)))
      · rw [if_neg hlt]
        have hm : m = a₀.size := by omega
        subst hm
        refine wpS_bind (wpS_get ?_)
        rw [show (pendingOf st2).back? = none by rw [hB2.pend]; rfl]
        dsimp only
        exact wpS_bind (wpS_modify (wpS_pure (.inr ⟨by omega, rfl, mk _ hB2 hu2⟩)))
    · dsimp only
      rw [if_pos (Nat.le_refl _)]
      exact wpS_pure ⟨rfl, hF⟩
  · rcases hI with ⟨hx, _, _⟩ | ⟨_, hc, hF⟩
    · omega
    · exact ⟨hc, hF⟩
  · obtain ⟨rfl, hF⟩ := hI
    dsimp only
    refine wpS_bind (wpS_mono (wpS_forRange (I := fun _ c st'' => st'' = st' ∧ c = (none, ())) (Q := fun c st'' => st'' = st' ∧ c = (none, ())) (fun x c st'' _ _ hJ => ?_) (fun _ _ hh => hh) ⟨rfl, rfl⟩) fun c st'' hJ => ?_)
    · obtain ⟨rfl, rfl⟩ := hJ
      refine wpS_bind (wpS_get ?_)
      rw [if_pos (by rw [hF.2.2.1]; exact Nat.le_refl 1)]
      exact wpS_pure ⟨rfl, rfl⟩
    · obtain ⟨rfl, rfl⟩ := hJ
      exact wpS_pure (h _ hF.1 hF.2.1 hF.2.2.2)
end


/-- one entry of a cache: name, value, counter; the tuple, the counter's list; their tokens -/
structure Ent where
  nm : Int
  vl : Int
  ct : Int
  t : Addr
  l : Addr
  tn : Tok
  tv : Tok
  tl : Tok
  ep : Nat
abbrev Ent.tup (e : Ent) : Obj := tupObj e.nm e.tn e.vl e.tv e.l
abbrev Ent.ctr (e : Ent) : Obj := ctrObj e.ct e.tl e.ep
abbrev kvsOf (es : List Ent) : List (Int × Value) := es.map fun e => (e.nm, .ref e.t)

def ctrVal (h : Heap) (a : Addr) : Int := match h.get? a with
  | some o => (match o.data with | .seq vs _ => (match (vs[0]? : Option Value) with | some (Value.int i _) => i | _ => 0) | _ => 0)
  | none => 0
theorem ctrVal_of {h : Heap} {a : Addr} {x : Int} {t : Tok} {n : Nat} (e : h.get? a = some (ctrObj x t n)) : ctrVal h a = x := by unfold ctrVal; rw [e]; rfl

theorem perm_map_inv {α β : Type} (g : α → β) : ∀ {l₁ l₂ : List β}, l₁.Perm l₂ → ∀ es : List α, l₂ = es.map g → ∃ es' : List α, es'.Perm es ∧ l₁ = es'.map g := by
  intro l₁ l₂ h
  induction h with
  | nil => intro es e; exact ⟨es, .refl _, e⟩
  | cons x _ ih =>
    intro es e
    cases es with
    | nil => cases e
    | cons a r =>
      injection e with e1 e2
      obtain ⟨r', p, q⟩ := ih r e2
      exact ⟨a :: r', p.cons a, by rw [List.map_cons, ← e1, ← q]⟩
  | swap x y l =>
    intro es e
    match es, e with
    | a :: b :: r, e =>
      injection e with e1 e2
      injection e2 with e2 e3
      exact ⟨b :: a :: r, List.Perm.swap a b r, by rw [List.map_cons, List.map_cons, ← e1, ← e2, ← e3]⟩
    | [a], e => injection e with e1 e2; cases e2
    | [], e => cases e
  | trans _ _ ih1 ih2 =>
    intro es e
    obtain ⟨e1, p1, q1⟩ := ih2 es e
    obtain ⟨e2, p2, q2⟩ := ih1 e1 q1
    exact ⟨e2, p2.trans p1, q2⟩

section
variable {prog : Program} {w : World} {A : Around} {s : Shared} {mean : ExcName → Option Value} {mg mb : Str → Option Value} {E : Value → Shared → Prop}
local macro_rules | `(tactic| k_room) => `(tactic| ((try simp only [depth_under_make, depth_under_kw, depth_in1, depth_deeper, depth_caller] at *); (try simp only [recursionLimit] at *); omega))

theorem getter_call {b₀ : Heap} {Q : Value → Shared → Prop} {q dq tq : Addr} {t2 : Tok} {e : Ent}
    (B : Base w mean mg mb b₀) (hst : ∀ b o, b₀.get? b = some o → s.heap.get? b = some o) (hroom : A.depth < 790)
    (hq : s.heap.get? q = some (getterObj dq tq)) (hq0 : b₀.get? q = none) (hd : s.heap.get? dq = some (dictOf [] 0)) (hd0 : b₀.get? dq = none)
    (hti : s.heap.get? tq = some (twoObj t2)) (hti0 : b₀.get? tq = none) (ht : s.heap.get? e.t = some e.tup) (ht0 : b₀.get? e.t = none)
    (h : ∀ h' tk, Keep [] s.heap h' → Q (.ref e.l) { s with heap := h', toks := tk }) : wpAny (model prog w) A (call (.ref q) [.ref e.t]) Q E s := by
  have n1 : q ≠ dq := fun z => by rw [z, hd] at hq; cases hq
  have n2 : q ≠ tq := fun z => by rw [z, hti] at hq; cases hq
  have n3 : q ≠ e.t := fun z => by rw [z, ht] at hq; cases hq
  have n4 : dq ≠ tq := fun z => by rw [z, hti] at hd; simp at hd
  have n5 : dq ≠ e.t := fun z => by rw [z, ht] at hd; simp at hd
  have n6 : tq ≠ e.t := fun z => by rw [z, ht] at hti; simp at hti
  refine wpAny_call (kco_code (K := Mine.hd.heap_39 w.params) (C := 97) (f := 79) (ox := getterObj dq tq) (od := some (dictOf [] 0)) (B.K.keeps hst) ⟨hq, rfl, rfl, hd⟩ rfl ?hs ?hf ?hfn
    (getter_call_code B hst (by k_room) hq hq0 hd hd0 hti hti0 ht ht0 (by simp [n1, n2, n3, n4, n5, n6]) fun h' tk K => h h' tk K))
  case hs => k_dflt k_is
  case hf => k_dflt k_is
  case hfn => k_dflt k_is

theorem wp_mapM {M : Model} {β : Type} {fm : Value → Sem β} {g : Value → β} : ∀ {vs : List Value}, (∀ v ∈ vs, ∀ (E : Value → Shared → Prop) (Q : β → Shared → Prop), Q (g v) s → wpAny M A (fm v) Q E s) →
    ∀ {Q : List β → Shared → Prop}, Q (vs.map g) s → wpAny M A (vs.mapM fm) Q E s
  | [], _, _, h => by rw [List.mapM_nil]; exact wpAny_pure h
  | v :: r, hv, Q, h => by
    rw [List.mapM_cons]
    refine wpAny_bind (hv v (.head _) _ _ ?_)
    refine wpAny_bind (wp_mapM (fun u hu => hv u (.tail _ hu)) ?_)
    exact wpAny_pure h

theorem kind_of_lists {M : Model} {as : List Addr} {Q : SortKind → Shared → Prop} (h2 : 2 ≤ as.length) (hv : ∀ a ∈ as, ∃ o, s.heap.get? a = some o ∧ o.cls = .type "list") (h : Q oneType' s) : wpAny M A (keyKind' (as.map Value.ref).toArray) Q E s := by
  have hT : ∀ v ∈ as.map Value.ref, s.TypeIs v "list" := fun v hm => by
    obtain ⟨a, ha, rfl⟩ := List.mem_map.mp hm
    exact hv a ha
  rw [keyKind'_eq, List.mapM_toArray]
  refine wpAny_bind (wpAny_map (wp_mapM (g := fun _ => none) (fun v hm E Q q => ?_) ?_))
  · have hTv := hT v hm
    obtain ⟨a, ha, rfl⟩ := List.mem_map.mp hm
    show wpAny M A (typeOf (.ref a) >>= fun t => if (t != .type "tuple") = true then pure none else Builtin.List.listItems (.ref a) >>= fun xs => pure xs[0]?) Q E s
    refine wpAny_bind (wpAny_typeOf hTv ?_)
    exact wpAny_pure q
  · obtain ⟨v₁, v₂, r, e⟩ : ∃ v₁ v₂ r, as = v₁ :: v₂ :: r := by
      match as, h2 with
      | v₁ :: v₂ :: r, _ => exact ⟨v₁, v₂, r, rfl⟩
    subst e
    rw [if_neg (by simp), if_neg (by simp), oneTypeOnly'_eq, List.mapM_toArray]
    refine wpAny_bind (wpAny_bind (wpAny_map (wp_mapM (g := fun _ => Value.type "list") (fun v hm E Q q => wpAny_typeOf (hT v hm) q) ?_)))
    have hall : ((List.map (fun _ => Value.type "list") (List.map Value.ref (v₁ :: v₂ :: r))).toArray.all fun x => x == Value.type "list") = true := by
      simp only [List.all_toArray, List.all_map, List.all_eq_true]
      intro _ _
      rfl
    have h0 : (List.map (fun _ => Value.type "list") (List.map Value.ref (v₁ :: v₂ :: r))).toArray[0]? = some (Value.type "list") := by simp
    rw [h0]
    simp only [hall, if_true]
    refine wpAny_pure ?_
    simp only [Option.isSome_some, if_true]
    exact wpAny_pure h
end


section
variable {prog : Program} {w : World} {A : Around} {s : Shared} {mean : ExcName → Option Value} {mg mb : Str → Option Value} {E : Value → Shared → Prop}
local macro_rules | `(tactic| k_room) => `(tactic| ((try simp only [depth_under_make, depth_under_kw, depth_in1, depth_deeper, depth_caller] at *); (try simp only [recursionLimit] at *); omega))

theorem keep_upd {h : Heap} {a : Addr} {T : List Addr} (f : Obj → Obj) (ha : a ∈ T) : Keep T h (h.update a f) := fun b o hb e =>
  (Heap.get?_update_other _ _ (by rintro rfl; exact hb ha)).trans e
theorem Keep.trans {T : List Addr} {h h' h'' : Heap} (x : Keep T h h') (y : Keep T h' h'') : Keep T h h'' := fun b o hb e => y b o hb (x b o hb e)
theorem Keep.push {h : Heap} {T : List Addr} (o : Obj) : Keep T h (h.push o) := fun _ _ _ e => Heap.get?_push_of_some _ e
theorem Keep.wide {T T' : List Addr} {h h' : Heap} (x : Keep T h h') (hs : ∀ a ∈ T, a ∈ T') : Keep T' h h' := fun b o hb e => x b o (fun z => hb (hs b z)) e
theorem Keep.narrow {T T' : List Addr} {h h' : Heap} (x : Keep T' h h') (hs : ∀ a ∈ T', a ∈ T ∨ h.get? a = none) : Keep T h h' := fun b o hb e => x b o (fun z => by
  rcases hs b z with hq | hq
  · exact hb hq
  · rw [e] at hq; cases hq) e

theorem sort_tail {a kS : Addr} {keys : Array Value} {e e1 : Nat} {st : SortSt} {P : PySem.Fin → Shared → Prop} {n : Nat} (hk : s.heap.get? kS = some (seqObj "list" keys e)) (ha : s.heap.get? a = some (seqObj "list" #[] e1)) (hka : kS ≠ a)
    (hf : failedOf st = none) (hkz : keys.size = n) (haz : (arrOf st).size = n) (hn : n < 60)
    (h : ∀ h' c, Keep [kS, a] s.heap h' → h'.get? a = some (seqObj "list" ((arrOf st).map (·.2)).reverse c) → P (.done (.ret .none)) { s with heap := h' }) :
    wpAny (model prog w) A (ksk_tail a true e1 (.ref kS) st) P E s := by
  have hz : (if true = true then ((arrOf st).map (·.2)).reverse else (arrOf st).map (·.2)).size = n := by rw [if_pos rfl, Array.size_reverse, Array.size_map, haz]
  have hz1 : (if true = true then ((arrOf st).map (·.2)).reverse else (arrOf st).map (·.2)).size ≤ sizeLine + 1 := by rw [hz, sizeLine_eq]; omega
  have hz2 : keys.size ≤ sizeLine := by rw [hkz, sizeLine_eq]; omega
  have ha1 : (s.heap.update kS (Obj.mapSeq fun _ => (#[] : Array Value))).get? a = some (seqObj "list" #[] e1) := (Heap.get?_update_other _ _ hka).trans ha
  have hc0 := get?_update_seq ha1 fun _ => ((arrOf st).map (·.2)).reverse
  generalize (if (((arrOf st).map (·.2)).reverse).size == (#[] : Array Value).size then e1 else e1 + 1) = c at hc0
  have hc : ((s.heap.update kS (Obj.mapSeq fun _ => (#[] : Array Value))).update a (Obj.mapSeq fun _ => ((arrOf st).map (·.2)).reverse)).get? a = some (seqObj "list" ((arrOf st).map (·.2)).reverse c) := hc0
  unfold ksk_tail
  try dsimp only
  refine wpAny_bind (listUpdate_at hk rfl ?_ hz2 (Nat.zero_le _))
  refine wpAny_bind (wpAny_letGo ?_)
  refine wpAny_bind (seqEpoch_at ha1 rfl ?_)
  refine wpAny_bind (listUpdate_at ha1 rfl ?_ (Nat.zero_le _) hz1)
  rw [hf]
  simp only [bne_self_eq_false, Bool.false_eq_true, if_false, if_true]
  exact wpAny_pure (h _ c ((keep_upd _ (.head _)).trans (keep_upd _ (.tail _ (.head _)))) hc)

def prs (es : List Ent) : Array Keyed := (es.map fun e => ((Value.ref e.l, Value.ref e.t) : Keyed)).toArray

theorem prs_told {es : List Ent} (hu : A.units < cLine) (hes : ∀ e ∈ es, s.heap.get? e.l = some e.ctr) (hct : (es.map (·.ct)).Nodup) : Told prog w A s (ctrVal s.heap) (prs es).reverse := by
  refine ⟨fun p hp q hq hne E Q hQ => ?_, ?_⟩
  · simp only [prs, Array.toList_reverse, List.mem_reverse, List.mem_map] at hp hq
    obtain ⟨x, hx, rfl⟩ := hp
    obtain ⟨y, hy, rfl⟩ := hq
    have ex : nkey (ctrVal s.heap) (Value.ref x.l) = x.ct := ctrVal_of (hes x hx)
    have ey : nkey (ctrVal s.heap) (Value.ref y.l) = y.ct := ctrVal_of (hes y hy)
    dsimp only at hne hQ ⊢
    rw [ex, ey] at hne hQ
    exact oneLt_lists hu (hes x hx) (hes y hy) hne hQ
  · rw [prs, Array.toList_reverse, List.toList_toArray, List.map_reverse, List.map_map, (List.reverse_perm _).nodup_iff]
    have : (es.map ((fun p : Keyed => nkey (ctrVal s.heap) p.1) ∘ fun e => (Value.ref e.l, Value.ref e.t))) = es.map (·.ct) := List.map_congr_left fun x hx => ctrVal_of (hes x hx)
    rw [this]; exact hct

theorem prs_back {es : List Ent} {xs : Array Keyed} {h : Heap} (hes : ∀ e ∈ es, h.get? e.l = some e.ctr) (hp : xs.Perm (prs es).reverse) (hu : Up (ctrVal h) xs es.length) :
    ∃ es' : List Ent, es'.Perm es ∧ (xs.map (·.2)).reverse = (es'.map fun e => Value.ref e.t).toArray ∧ es'.Pairwise (fun x y => y.ct < x.ct) := by
  have hpl := Array.perm_iff_toList_perm.mp hp
  rw [prs, Array.toList_reverse, List.toList_toArray] at hpl
  obtain ⟨es', p1, p2⟩ := perm_map_inv (fun e : Ent => ((Value.ref e.l, Value.ref e.t) : Keyed)) (hpl.trans (List.reverse_perm _)) es rfl
  refine ⟨es'.reverse, (List.reverse_perm _).trans p1, ?_, ?_⟩
  · apply Array.ext'
    rw [Array.toList_reverse, Array.toList_map, p2, List.map_map, List.toList_toArray, List.map_reverse]
    rfl
  · rw [List.pairwise_reverse, List.pairwise_iff_getElem]
    intro i j hi hj hij
    have hl : es'.length = es.length := p1.length_eq
    have q := hu i j hij (by omega)
    have val : ∀ k (hk : k < es'.length), at_ (ctrVal h) xs k = es'[k].ct := by
      intro k hk
      have e2 : xs[k]? = some ((Value.ref es'[k].l, Value.ref es'[k].t) : Keyed) := by
        rw [← Array.getElem?_toList, p2, List.getElem?_map, List.getElem?_eq_getElem hk]; rfl
      unfold at_
      rw [e2]
      exact ctrVal_of (hes _ (p1.mem_iff.mp (List.getElem_mem hk)))
    rw [val i hi, val j hj] at q
    exact q

theorem prs_size (es : List Ent) : (prs es).reverse.size = es.length := by simp [prs]

theorem sort_end {a kS : Addr} {es : List Ent} {e e1 : Nat} {P : PySem.Fin → Shared → Prop} (hu : A.units < cLine)
    (hk : s.heap.get? kS = some (seqObj "list" (es.map fun e => Value.ref e.l).toArray e)) (ha : s.heap.get? a = some (seqObj "list" #[] e1)) (hka : kS ≠ a)
    (hes : ∀ e ∈ es, s.heap.get? e.l = some e.ctr) (hct : (es.map (·.ct)).Nodup) (h2 : 2 ≤ es.length) (h60 : es.length < 60)
    (h : ∀ (h' : Heap) (es' : List Ent) (c : Nat), Keep [kS, a] s.heap h' → h'.get? a = some (seqObj "list" (es'.map fun e => Value.ref e.t).toArray c) → es'.Perm es → es'.Pairwise (fun x y => y.ct < x.ct) → P (.done (.ret .none)) { s with heap := h' }) :
    wpAny (model prog w) A (ksk_end a true (es.map fun e => Value.ref e.t).toArray e1 (.ref kS) (es.map fun e => Value.ref e.l).toArray) P E s := by
  have hz : ((es.map fun e => Value.ref e.l).toArray.zip (es.map fun e => Value.ref e.t).toArray) = prs es := by
    apply Array.ext'
    simp only [Array.toList_zip, prs]
    exact List.zip_map' ..
  have hsz : ¬ (es.map fun e => Value.ref e.t).toArray.size < 2 := by simp; omega
  have key : wpS (model prog w) A E s sortRuns' (fun _ st' => (arrOf st').Perm (prs es).reverse ∧ failedOf st' = none ∧ Up (ctrVal s.heap) (arrOf st') (prs es).reverse.size) (SortSt.mk' oneType' (prs es).reverse #[] 7 none) :=
    runs_sort (prs_told hu hes hct) ⟨Array.Perm.refl _, rfl, rfl, rfl⟩ (by rw [prs_size]; omega) (by rw [prs_size]; omega) fun st' a1 a2 a3 => ⟨a1, a2, a3⟩
  unfold ksk_end
  dsimp only
  rw [hz, if_neg hsz, if_neg hsz]
  simp only [if_true]
  refine wpAny_bind (wpAny_rule ?_)
  have e1' : (es.map fun e => Value.ref e.l) = (es.map (·.l)).map Value.ref := by rw [List.map_map]; rfl
  rw [e1']
  refine wpAny_bind (kind_of_lists (by simpa using h2) (fun b hb => ?_) ?_)
  · obtain ⟨x, hx, rfl⟩ := List.mem_map.mp hb
    exact ⟨_, hes x hx, rfl⟩
  refine wpAny_bind (wpAny_mono key ?_ fun _ _ z => z)
  rintro ⟨⟨⟩, st'⟩ s' ⟨rfl, hp, hf, hu'⟩
  dsimp only at hp hf hu' ⊢
  rw [prs_size] at hu'
  obtain ⟨es', p1, p2, p3⟩ := prs_back hes hp hu'
  exact sort_tail (n := es.length) hk ha hka hf (by simp) (by rw [hp.size_eq, prs_size]) h60 fun h' c K e => h h' es' c K (p2 ▸ e) p1 p3
end


section
variable {prog : Program} {w : World} {A : Around} {s : Shared} {mean : ExcName → Option Value} {mg mb : Str → Option Value} {E : Value → Shared → Prop}
local macro_rules | `(tactic| k_room) => `(tactic| ((try simp only [depth_under_make, depth_under_kw, depth_in1, depth_deeper, depth_caller] at *); (try simp only [recursionLimit] at *); omega))

/-- the getter stands, and the entries' objects; nothing of them in the base -/
structure Gets (b₀ h : Heap) (q dq tq : Addr) (t2 : Tok) (es : List Ent) : Prop where
  gq : h.get? q = some (getterObj dq tq)
  gq0 : b₀.get? q = none
  gd : h.get? dq = some (dictOf [] 0)
  gd0 : b₀.get? dq = none
  gt : h.get? tq = some (twoObj t2)
  gt0 : b₀.get? tq = none
  tup : ∀ e ∈ es, h.get? e.t = some e.tup
  tup0 : ∀ e ∈ es, b₀.get? e.t = none
  ctr : ∀ e ∈ es, h.get? e.l = some e.ctr
theorem Gets.keep {b₀ h h' : Heap} {q dq tq : Addr} {t2 : Tok} {es : List Ent} (G : Gets b₀ h q dq tq t2 es) (k : ∀ b o, h.get? b = some o → h'.get? b = some o) : Gets b₀ h' q dq tq t2 es :=
  ⟨k _ _ G.gq, G.gq0, k _ _ G.gd, G.gd0, k _ _ G.gt, G.gt0, fun e he => k _ _ (G.tup e he), G.tup0, fun e he => k _ _ (G.ctr e he)⟩
theorem sort_rest {b₀ : Heap} {a kS q dq tq : Addr} {t2 : Tok} {es : List Ent} {e1 : Nat} {P : PySem.Fin → Shared → Prop}
    (B : Base w mean mg mb b₀) (hst : ∀ b o, b₀.get? b = some o → s.heap.get? b = some o) (hroom : A.depth < 790) (hu : A.units < cLine) (G : Gets b₀ s.heap q dq tq t2 es)
    (hk : s.heap.get? kS = some (seqObj "list" #[] 0)) (ha : s.heap.get? a = some (seqObj "list" #[] e1)) (hka : kS ≠ a) (hk0 : b₀.get? kS = none)
    (hct : (es.map (·.ct)).Nodup) (h2 : 2 ≤ es.length) (h60 : es.length < 60)
    (h : ∀ (h' : Heap) (tk : Nat) (es' : List Ent) (c : Nat), Keep [kS, a] s.heap h' → h'.get? a = some (seqObj "list" (es'.map fun e => Value.ref e.t).toArray c) → es'.Perm es → es'.Pairwise (fun x y => y.ct < x.ct) → P (.done (.ret .none)) { s with heap := h', toks := tk }) :
    wpAny (model prog w) A (ksk_rest a (.ref q) true (es.map fun e => Value.ref e.t).toArray e1 (.ref kS)) P E s := by
  have hle : ∀ e ∈ es, e.l ≠ kS ∧ e.l ≠ a := fun e he => ⟨fun z => by have := G.ctr e he; rw [z, hk] at this; simp at this, fun z => by have := G.ctr e he; rw [z, ha] at this; simp at this⟩
  have hkT : ∀ {x : Addr} {o : Obj}, s.heap.get? x = some o → o ≠ seqObj "list" #[] 0 → x ∉ [kS] := fun e hne z => by
    rw [List.mem_singleton.mp z, hk] at e; cases e; exact hne rfl
  unfold ksk_rest
  refine wpAny_bind (wpAny_rule ?_)
  first
    | rw [List.forIn_toArray]
    | (rw [← Array.forIn_toList]; simp only [List.toList_toArray])
    | rw [← Array.forIn_toList]
  refine wpAny_bind (ksk_fold (fun j s' => ∃ h' tk e, s' = { s with heap := h', toks := tk } ∧ Keep [kS] s.heap h' ∧ h'.get? kS = some (seqObj "list" ((es.take j).map fun e => Value.ref e.l).toArray e)) _ 0 s
    ⟨s.heap, s.toks, 0, rfl, fun _ _ _ e => e, by simpa using hk⟩ ?step ?done)
  case step =>
    rintro j x s' hx ⟨h', tk, e, rfl, K, hk'⟩
    rw [Nat.zero_add] at hk' ⊢
    rw [List.getElem?_map] at hx
    obtain ⟨y, hy, rfl⟩ := Option.map_eq_some_iff.mp hx
    have hym := List.mem_of_getElem? hy
    have hj : j < es.length := (List.getElem?_eq_some_iff.mp hy).1
    have K0 : ∀ {b : Addr} {o : Obj}, s.heap.get? b = some o → b ≠ kS → h'.get? b = some o := fun e hb => K _ _ (by simp [hb]) e
    have hq : q ≠ kS := fun z => by have := G.gq; rw [z, hk] at this; cases this
    have hd : dq ≠ kS := fun z => by have := G.gd; rw [z, hk] at this; simp at this
    have ht : tq ≠ kS := fun z => by have := G.gt; rw [z, hk] at this; simp at this
    have hyt : y.t ≠ kS := fun z => by have := G.tup y hym; rw [z, hk] at this; simp at this
    refine wpAny_bind (wpAny_attempt (getter_call (s := { s with heap := h', toks := tk }) B (fun b o e => K0 (hst b o e) (fun z => by rw [z, hk0] at e; cases e)) hroom
      (K0 G.gq hq) G.gq0 (K0 G.gd hd) G.gd0 (K0 G.gt ht) G.gt0 (K0 (G.tup y hym) hyt) (G.tup0 y hym) fun g tk2 Kg => ?_))
    dsimp only
    have hkg : g.get? kS = some (seqObj "list" ((es.take j).map fun e => Value.ref e.l).toArray e) := Kg _ _ (by simp) hk'
    have hsz : ((es.take j).map fun e => Value.ref e.l).toArray.size ≤ sizeLine := by rw [List.size_toArray, List.length_map, List.length_take, sizeLine_eq]; omega
    have hsz2 : (((es.take j).map fun e => Value.ref e.l).toArray.push (Value.ref y.l)).size ≤ sizeLine + 1 := by rw [Array.size_push, List.size_toArray, List.length_map, List.length_take, sizeLine_eq]; omega
    refine wpAny_bind (listUpdate_at hkg rfl ?_ hsz hsz2)
    have hc0 := get?_update_seq hkg (·.push (Value.ref y.l))
    have e2 : ((es.take (j + 1)).map fun e => Value.ref e.l).toArray = (((es.take j).map fun e => Value.ref e.l).toArray.push (Value.ref y.l)) := by
      rw [List.take_add_one, hy]; simp
    rw [← e2] at hc0
    exact wpAny_pure ⟨rfl, _, _, _, rfl, K.trans ((Kg.wide (by simp)).trans (keep_upd _ (.head _))), hc0⟩
  case done =>
    rintro s' ⟨h', tk, e, rfl, K, hk'⟩
    rw [Nat.zero_add, List.length_map, List.take_length] at hk'
    have K0 : ∀ {b : Addr} {o : Obj}, s.heap.get? b = some o → b ≠ kS → h'.get? b = some o := fun e hb => K _ _ (by simp [hb]) e
    refine wpAny_bind (listItems_at hk' rfl ?_)
    exact sort_end (s := { s with heap := h', toks := tk }) hu hk' (K0 ha hka.symm) hka (fun e he => K0 (G.ctr e he) (hle e he).1) hct h2 h60 fun g es' c Kg hg p1 p2 =>
      h g tk es' c ((K.wide (by simp)).trans Kg) hg p1 p2

theorem sort_tree {b₀ : Heap} {a q dq tq : Addr} {t2 : Tok} {es : List Ent} {n : Nat} {P : PySem.Fin → Shared → Prop}
    (B : Base w mean mg mb b₀) (hst : ∀ b o, b₀.get? b = some o → s.heap.get? b = some o) (hroom : A.depth < 790) (hu : A.units < cLine) (G : Gets b₀ s.heap q dq tq t2 es)
    (ha : s.heap.get? a = some (seqObj "list" (es.map fun e => Value.ref e.t).toArray n)) (ha0 : b₀.get? a = none) (hla : ∀ e ∈ es, e.l ≠ a)
    (hct : (es.map (·.ct)).Nodup) (h2 : 2 ≤ es.length) (h60 : es.length < 60)
    (h : ∀ (h' : Heap) (tk : Nat) (es' : List Ent) (c : Nat), Keep [a] s.heap h' → h'.get? a = some (seqObj "list" (es'.map fun e => Value.ref e.t).toArray c) → es'.Perm es → es'.Pairwise (fun x y => y.ct < x.ct) → P (.done (.ret .none)) { s with heap := h', toks := tk }) :
    wpAny (model prog w) A (ksk_tree a (.ref q) true) P E s := by
  have hlt : a < s.heap.objs.size := Heap.lt_size ha
  have hc0 := get?_update_seq ha fun _ => (#[] : Array Value)
  generalize (if (#[] : Array Value).size == (es.map fun e => Value.ref e.t).toArray.size then n else n + 1) = e1 at hc0
  have hz1 : (es.map fun e => Value.ref e.t).toArray.size ≤ sizeLine := by rw [List.size_toArray, List.length_map, sizeLine_eq]; omega
  have hz2 : (es.map fun e => Value.ref e.t).length ≤ sizeLine := by rw [List.length_map, sizeLine_eq]; omega
  have nn : ∀ {x : Addr} {o : Obj}, s.heap.get? x = some o → o.cls ≠ .type "list" → x ∉ [a] := fun e hne z => by
    rw [List.mem_singleton.mp z, ha] at e; cases e; exact hne rfl
  have K1 : Keep [a] s.heap (s.heap.update a (Obj.mapSeq fun _ => (#[] : Array Value))) := keep_upd _ (.head _)
  have G1 : Gets b₀ (s.heap.update a (Obj.mapSeq fun _ => (#[] : Array Value))) q dq tq t2 es :=
    ⟨K1 _ _ (nn G.gq (by simp)) G.gq, G.gq0, K1 _ _ (nn G.gd (by simp)) G.gd, G.gd0, K1 _ _ (nn G.gt (by simp)) G.gt, G.gt0, fun e he => K1 _ _ (nn (G.tup e he) (by simp)) (G.tup e he), G.tup0, fun e he => K1 _ _ (by simp [hla e he]) (G.ctr e he)⟩
  have kp : ∀ b o, (s.heap.update a (Obj.mapSeq fun _ => (#[] : Array Value))).get? b = some o →
      (((s.heap.update a (Obj.mapSeq fun _ => (#[] : Array Value))).push ({ cls := .type "tuple", data := .seq (es.map fun e => Value.ref e.t).toArray } : Obj)).push ({ cls := .type "list", data := .seq ([] : List Value).toArray } : Obj)).get? b = some o :=
    fun b o e => Heap.get?_push_of_some _ (Heap.get?_push_of_some _ e)
  unfold ksk_tree
  have e0 : (es.map fun e => Value.ref e.t).toArray.toList = es.map fun e => Value.ref e.t := rfl
  refine wpAny_bind (listItems_at ha rfl ?_)
  refine wpAny_bind (listUpdate_at ha rfl ?_ hz1 (Nat.zero_le _))
  refine wpAny_bind (seqEpoch_at hc0 rfl ?_)
  rw [e0]
  refine wpAny_bind (wpAny_newTuple ?_ hz2)
  refine wpAny_bind (wpAny_newList ?_ (Nat.zero_le _))
  refine wpAny_holding ?_
  have hsz : ((s.heap.update a (Obj.mapSeq fun _ => (#[] : Array Value))).push ({ cls := .type "tuple", data := .seq (es.map fun e => Value.ref e.t).toArray } : Obj)).objs.size = s.heap.objs.size + 1 := by rw [Heap.size_push, Heap.size_after_update]
  have hnone : ∀ {x : Addr}, s.heap.objs.size ≤ x → b₀.get? x = none := fun {x} hx => by
    cases q : b₀.get? x with
    | none => rfl
    | some o => exact absurd (Heap.lt_size (hst _ _ q)) (Nat.not_lt.mpr hx)
  refine sort_rest (kS := ((s.heap.update a (Obj.mapSeq fun _ => (#[] : Array Value))).push ({ cls := .type "tuple", data := .seq (es.map fun e => Value.ref e.t).toArray } : Obj)).objs.size) B
    (fun b o e => kp _ _ (K1 _ _ (fun z => by rw [List.mem_singleton.mp z, ha0] at e; cases e) (hst b o e))) hroom hu (G1.keep kp) (Heap.get?_push_size _ rfl) (kp _ _ hc0) (by rw [hsz]; exact Nat.ne_of_gt (Nat.lt_succ_of_lt hlt)) (hnone (by rw [hsz]; exact Nat.le_succ _)) hct h2 h60 fun h' tk es' c K e p1 p2 => ?_
  refine h h' tk es' c (fun b o hb eb => K b o ?_ (kp _ _ (K1 _ _ hb eb))) e p1 p2
  have hbl := Heap.lt_size eb
  intro z
  rcases List.mem_cons.mp z with z | z
  · rw [hsz] at z; rw [z] at hbl; exact absurd hbl (Nat.not_lt.mpr (Nat.le_succ _))
  · exact hb z
end


section
variable {prog : Program} {w : World} {A : Around} {s : Shared} {mean : ExcName → Option Value} {mg mb : Str → Option Value} {E : Value → Shared → Prop}

theorem items_of_kvs {es : List Ent} {acc : Array Value} (h : ItemsOf (fun i v => ∃ k, (kvsOf es)[i]? = some (k, v)) acc (kvsOf es).length) : acc.toList = es.map fun e => Value.ref e.t := by
  have := kdl_vals_eq (kvs := kvsOf es) acc.toList (by rw [Array.length_toList]; exact h.1) (fun j v e => h.2 j v (by rw [← Array.getElem?_toList]; exact e))
  rw [this, List.map_map]; rfl

theorem sorted_values {b₀ : Heap} {v d q dq tq : Addr} {t2 : Tok} {es : List Ent} {od : Obj} {Q : Value → Shared → Prop}
    (B : Base w mean mg mb b₀) (hst : ∀ b o, b₀.get? b = some o → s.heap.get? b = some o) (hroom : A.depth < 790) (hh : A.handled = none) (hu : A.units + 10 < cLine) (G : Gets b₀ s.heap q dq tq t2 es)
    (hv : s.heap.get? v = some { cls := .type "dict_values", data := .fields #[.ref d] }) (hd : s.heap.get? d = some od) (hod : od.IsDictOf (PySem.intKind prog w) (kvsOf es))
    (hct : (es.map (·.ct)).Nodup) (h2 : 2 ≤ es.length) (h60 : es.length < 60)
    (h : ∀ (h' : Heap) (tk : Nat) (D : Addr) (es' : List Ent) (c : Nat), Keep [] s.heap h' → (∀ b o, s.heap.get? b = some o → b < D) → h'.get? D = some (PySem.W.listOf (es'.map fun e => Value.ref e.t).toArray c) → es'.Perm es → es'.Pairwise (fun x y => y.ct < x.ct) → Q (.ref D) { s with heap := h', toks := tk }) :
    wpAny (model prog w) A (call (.builtin "sorted") [.ref v] [(Str.ofString "key", .ref q), (Str.ofString "reverse", .bool true)]) Q E s := by
  have hzl : (kvsOf es).length ≤ sizeLine := by rw [List.length_map, sizeLine_eq]; omega
  obtain ⟨ep, hat⟩ := KdkAt.of hod
  refine PyProof.Rows.call_function_entry_kw kind_sorted plain_sorted entry_sorted (ksk_s2 _ _ _) ?_
  unfold Builtin.«sorted»
  refine wpAny_bind (m := checkCount "sorted" 1 1 _) (wpAny_pure ?_)
  refine wpAny_bind (kdu_collect (A := A.in1) (kdl_values (knd := PySem.intKind prog w) (kvs := kvsOf es) (ep := ep)) hh ⟨⟨_, hv, rfl, rfl⟩, hat.dictAt hd⟩ hzl fun h' tk acc hk hacc => ?_)
  rw [items_of_kvs hacc]
  have hz2 : (es.map fun e => Value.ref e.t).length ≤ sizeLine := by rw [List.length_map, sizeLine_eq]; omega
  refine wpAny_bind (wpAny_newList ?_ hz2)
  have kp : ∀ b o, s.heap.get? b = some o → (h'.push ({ cls := .type "list", data := .seq (es.map fun e => Value.ref e.t).toArray } : Obj)).get? b = some o := fun b o e => Heap.get?_push_of_some _ (hk b o e)
  have hl : (h'.push ({ cls := .type "list", data := .seq (es.map fun e => Value.ref e.t).toArray } : Obj)).get? h'.objs.size = some (seqObj "list" (es.map fun e => Value.ref e.t).toArray 0) := Heap.get?_push_size _ rfl
  have hnone : ∀ {g : Heap}, (∀ b o, g.get? b = some o → h'.get? b = some o) → g.get? h'.objs.size = none := fun {g} hg => by
    cases q : g.get? h'.objs.size with
    | none => rfl
    | some o => exact absurd (Heap.lt_size (hg _ _ q)) (Nat.lt_irrefl _)
  refine wpAny_bind (wpAny_holding (wpAny_call_entry_kw slot_list_sort ⟨_, hl, rfl⟩ entry_list_sort ?body (ksk_l2 _ _ _)))
  show wpAny (model prog w) A.in1.in1 (Builtin.«list.sort» ⟨[.ref h'.objs.size], [(Str.ofString "key", .ref q), (Str.ofString "reverse", .bool true)]⟩) _ _ _
  rw [ksk_t2]
  refine sort_tree (s := { s with heap := h'.push ({ cls := .type "list", data := .seq (es.map fun e => Value.ref e.t).toArray } : Obj), toks := tk }) B (fun b o e => kp _ _ (hst _ _ e)) hroom (by show A.units + 1 + 1 < cLine; omega)
    (G.keep kp) hl (hnone fun b o e => hk _ _ (hst _ _ e)) (fun e he z => by have := hk _ _ (G.ctr e he); rw [z] at this; exact absurd (Heap.lt_size this) (Nat.lt_irrefl _)) hct h2 h60 fun g tk' es' c K e p1 p2 => ⟨_, rfl, ?_⟩
  refine wpAny_pure ⟨_, rfl, h g tk' _ es' c (fun b o _ eb => K b o (fun z => ?_) (kp _ _ eb)) (fun b o eb => Heap.lt_size (hk _ _ eb)) e p1 p2⟩
  rw [List.mem_singleton.mp z] at eb
  have := hk _ _ eb
  exact absurd (Heap.lt_size this) (Nat.lt_irrefl _)
end


section
variable {prog : Program} {w : World} {A : Around} {s : Shared} {mean : ExcName → Option Value} {mg mb : Str → Option Value} {g : Heap} {L : Addr} {m : Str → Option Value} {news : List (Addr × Obj)}
local macro_rules | `(tactic| k_room) => `(tactic| ((try simp only [depth_under_make, depth_under_kw, depth_in1, depth_deeper, depth_caller] at *); (try simp only [recursionLimit] at *); omega))

theorem getter_make_walk {E : Value → Shared → Prop} {Q : Value → Shared → Prop} {t2 : Tok} (F : Fr g L s.heap m) (X : (Mine.hd.heap_39 w.params).In g)
    (T : Top Mine.hd.view_39 (looseW Mine.hd.view_39 [Str.ofString "itemgetter", Str.ofString "LRUCache"]) mean mg mb g) (N : News g L s.heap news) (hroom : A.depth < 790)
    (h : ∀ q dq tq t3 h' tk, Fr g L h' m → News g L h' ((tq, twoObj t3) :: (q, getterObj dq tq) :: (dq, dictOf [] 0) :: news) → (∀ p ∈ news, p.1 < dq) → dq < q → q < tq → Q (.ref q) { s with heap := h', toks := tk }) :
    wpAny (model prog w) A (call (.ref 97) [.int 2 t2]) Q E s := by
  refine' call_cls F X N ?hm ?hi ?hf fun q dq h' F' N' l1 l2 => ?_
  case hm => k_dflt k_is
  case hi => k_dflt k_is
  case hf => k_dflt k_is
  have hq := N' _ (.head _)
  have hd := N' _ (.tail _ (.head _))
  refine getter_init_code (s := { s with heap := h' }) ⟨X, T⟩ F'.keep (by k_room) hq.1 hq.2.2 hd.1 hd.2.2 (by simp; exact Nat.ne_of_gt l2) fun h'' tk tq t3 K e hn hlt et => ?_
  refine ⟨rfl, ?_⟩
  obtain ⟨F2, N2⟩ := keep_frnews (pre := []) F' N' K e (by simp) (by
    rintro p hp
    rcases List.mem_cons.mp hp with rfl | hp
    · exact Nat.ne_of_lt l2
    · exact Nat.ne_of_lt (Nat.lt_trans (l1 p hp) l2))
  have hL : tq ≠ L := fun z => by
    obtain ⟨oL, es, ep, hL, r⟩ := F'.ns
    rw [z, hL] at hn; cases hn
  have hg0 : g.get? tq = none := by
    cases z : g.get? tq with
    | none => rfl
    | some o => rw [F'.keep _ _ z] at hn; cases hn
  refine h q dq tq t3 h'' tk F2 (fun p hp => ?_) l1 l2 hlt
  rcases List.mem_cons.mp hp with rfl | hp
  · exact ⟨et, hL, hg0⟩
  · exact N2 p hp

theorem not_among {s : Heap} {a : Addr} {o : Obj} {news : List (Addr × Obj)} (hn : ∀ p ∈ news, s.get? p.1 = some p.2) (ha : s.get? a = some o) (hne : ∀ p ∈ news, p.2.cls ≠ o.cls ∨ p.1 ≠ a) : a ∉ news.map (·.1) := fun z => by
  obtain ⟨p, hp, e⟩ := List.mem_map.mp z
  rcases hne p hp with q | q
  · have := hn p hp; rw [e, ha] at this; cases this; exact q rfl
  · exact q e

theorem last_min {e0 : Ent} : ∀ {l : List Ent}, e0 ∈ l → (∀ e ∈ l, e0.ct ≤ e.ct) → l.Pairwise (fun x y => y.ct < x.ct) → ∃ es1, l = es1 ++ [e0] ∧ es1.length + 1 = l.length
  | [], h, _, _ => nomatch h
  | [x], h, _, _ => ⟨[], by rw [List.mem_singleton.mp h]; rfl, rfl⟩
  | x :: y :: r, h, hm, hp => by
    have hp' := List.pairwise_cons.mp hp
    have hx : e0 ≠ x := fun z => by
      have h1 := hp'.1 y (.head _)
      have h2 := hm y (.tail _ (.head _))
      rw [z] at h2; omega
    have h' : e0 ∈ y :: r := by rcases List.mem_cons.mp h with z | z; exact absurd z hx; exact z
    obtain ⟨es1, e1, e2⟩ := last_min h' (fun e he => hm e (.tail _ he)) hp'.2
    exact ⟨x :: es1, by rw [e1]; rfl, by simp only [List.length_cons] at e2 ⊢; omega⟩

theorem sorted_walk {E : Value → Shared → Prop} {Q : Value → Shared → Prop} {v d q dq tq : Addr} {t2 : Tok} {es : List Ent} {od : Obj} (F : Fr g L s.heap m) (X : (Mine.hd.heap_39 w.params).In g)
    (T : Top Mine.hd.view_39 (looseW Mine.hd.view_39 [Str.ofString "itemgetter", Str.ofString "LRUCache"]) mean mg mb g) (N : News g L s.heap news) (hroom : A.depth < 790) (hh : A.handled = none) (hu : A.units + 10 < cLine)
    (b₀ : Heap) (B : Base w mean mg mb b₀) (hst : ∀ b o, b₀.get? b = some o → g.get? b = some o)
    (hq : (q, getterObj dq tq) ∈ news) (hdq : (dq, dictOf [] 0) ∈ news) (htq : (tq, twoObj t2) ∈ news) (hv : (v, ({ cls := .type "dict_values", data := .fields #[.ref d] } : Obj)) ∈ news) (hd : (d, od) ∈ news)
    {kvs : List (Int × Value)} (hkv : kvs = kvsOf es) (hod : od.IsDictOf (PySem.intKind prog w) kvs) {e0 : Ent} (htup : ∀ e ∈ es, e ≠ e0 → g.get? e.t = some e.tup) (hte : (e0.t, e0.tup) ∈ news) (htup0 : ∀ e ∈ es, b₀.get? e.t = none) (hctr : ∀ e ∈ es, g.get? e.l = some e.ctr)
    (hct : (es.map (·.ct)).Nodup) {n : Nat} (h0 : e0 ∈ es) (hmin : ∀ e ∈ es, e0.ct ≤ e.ct) (hn : es.length = n + 1) (h1 : 1 ≤ n) (h60 : es.length < 60)
    (h : ∀ (h' : Heap) (tk : Nat) (D : Addr) (es1 : List Ent) (c : Nat), Fr g L h' m → News g L h' ((D, PySem.W.listOf ((es1.map fun e => Value.ref e.t) ++ [Value.ref e0.t]).toArray c) :: news) → (∀ p ∈ news, p.1 < D) → es1.length = n → Q (.ref D) { s with heap := h', toks := tk }) :
    wpAny (model prog w) A (call (.builtin "sorted") [.ref v] [(Str.ofString "key", .ref q), (Str.ofString "reverse", .bool true)]) Q E s := by
  subst hkv
  have hb0 : ∀ {a : Addr}, g.get? a = none → b₀.get? a = none := fun {a} hg => by
    cases z : b₀.get? a with
    | none => rfl
    | some o => rw [hst _ _ z] at hg; cases hg
  refine sorted_values B (fun b o e => F.keep _ _ (hst _ _ e)) hroom hh hu ⟨(N _ hq).1, hb0 (N _ hq).2.2, (N _ hdq).1, hb0 (N _ hdq).2.2, (N _ htq).1, hb0 (N _ htq).2.2, fun e he => (by classical exact if z : e = e0 then by rw [z]; exact (N _ hte).1 else F.keep _ _ (htup e he z)), htup0, fun e he => F.keep _ _ (hctr e he)⟩
    (N _ hv).1 (N _ hd).1 hod hct (by omega) h60 fun h' tk D es' c K hnn e p1 p2 => ?_
  obtain ⟨F', N'⟩ := keep_all F N K
  have hL : D ≠ L := fun z => by
    obtain ⟨oL, ess, ep, hL, r⟩ := F.ns
    have := hnn _ _ hL; rw [z] at this; exact absurd this (Nat.lt_irrefl _)
  have hg0 : g.get? D = none := by
    cases z : g.get? D with
    | none => rfl
    | some o => exact absurd (hnn _ _ (F.keep _ _ z)) (Nat.lt_irrefl _)
  obtain ⟨es1, e2, e3⟩ := last_min (p1.mem_iff.mpr h0) (fun x hx => hmin x (p1.mem_iff.mp hx)) p2
  refine h h' tk D es1 c F' (fun p hp => ?_) (fun p hp => hnn _ _ (N p hp).1) (by have := p1.length_eq; rw [e2, List.length_append] at this; simp at this; omega)
  · rcases List.mem_cons.mp hp with rfl | hp
    · refine ⟨?_, hL, hg0⟩
      rw [e, e2, List.map_append]; rfl
    · exact N' p hp

theorem evict_slice {E : Value → Shared → Prop} {Q : Value → Shared → Prop} {value slice : PySem.Expr} {D : Addr} {es1 : List Ent} {e0 : Ent} {n c : Nat} {cap : Int} {tcap : Tok} (F : Fr g L s.heap m) (N : News g L s.heap news)
    (hD : (D, PySem.W.listOf ((es1.map fun e => Value.ref e.t) ++ [Value.ref e0.t]).toArray c) ∈ news) (hl : es1.length = n) (hcap : cap = (n : Int)) (h60 : n < 60)
    (h : ∀ h' S, Fr g L h' m → News g L h' ((S, PySem.W.listOf [Value.ref e0.t].toArray 0) :: news) → (∀ p ∈ news, p.1 < S) → Q (.ref S) { s with heap := h' })
    (hs : subscripted slice false (.ref D) (.ref s.heap.objs.size) = operate [.ref s.heap.objs.size, .ref D] (getItem (.ref D) (.ref s.heap.objs.size)) := by with_unfolding_all rfl)
    (ht : ∀ r, letTemporaryGo value (.ref D) r = pure () := by intro _; with_unfolding_all rfl) :
    wpAny (model prog w) A (subscriptTail value slice (.ref D) (.ref s.heap.objs.size)) Q E { s with heap := s.heap.push { cls := .type "slice", data := .fields #[.int cap tcap, .none, .none] } } := by
  refine slice_list F N (items := ((es1.map fun e => Value.ref e.t) ++ [Value.ref e0.t]).toArray) ⟨_, (N _ hD).1, rfl, _, rfl⟩ (.int cap tcap) .none (fun h' F' N' => ?_) hs ht (by rw [List.size_toArray, List.length_append, List.length_map, sizeLine_eq]; simp; omega)
  have e : slicePick ((es1.map fun e => Value.ref e.t) ++ [Value.ref e0.t]).toArray (some cap) none none = [Value.ref e0.t].toArray := by
    rw [hcap, slicePick_from', List.toList_toArray, List.drop_left' (by rw [List.length_map, hl])]
  rw [e] at N'
  exact h h' _ F' N' fun p hp => Nat.lt_succ_of_lt (Heap.lt_size (N p hp).1)
end
section
variable {prog : Program} {w : World} {A : Around} {s : Shared} {mean : ExcName → Option Value} {mg mb : Str → Option Value} {g : Heap} {L : Addr} {m : Str → Option Value} {news : List (Addr × Obj)}
local macro_rules | `(tactic| k_room) => `(tactic| ((try simp only [depth_under_make, depth_under_kw, depth_in1, depth_deeper, depth_caller] at *); (try simp only [recursionLimit] at *); omega))
local macro_rules | `(tactic| walk_at "call ref") => `(tactic| (k_here; k_dflt (refine' acquire_walk ?k1 ?k2 ?k3 ?k4 ?k5 ?k6 ?k7 ?k8 ?_; (case k1 => k_asm); (case k2 => k_asm); (case k3 => k_asm); (case k4 => k_asm); (case k5 => k_room); (case k6 => k_mem); (case k7 => k_upd); (case k8 => k_ne); k_whole); intro h' tk' F' N'; (try k_sweep)))
local macro_rules | `(tactic| walk_at "call ref") => `(tactic| (k_here; k_dflt (refine' release_walk ?k1 ?k2 ?k3 ?k4 ?k5 ?k6 ?k7 ?k8 ?_; (case k1 => k_asm); (case k2 => k_asm); (case k3 => k_asm); (case k4 => k_asm); (case k5 => k_room); (case k6 => k_mem); (case k7 => k_upd); (case k8 => k_ne); k_whole); intro h' tk' F' N'; (try k_sweep)))
local macro_rules | `(tactic| walk_at "call ref") => `(tactic| (k_here; k_dflt (refine' len_walk ?k1 ?k2 ?k3 ?k4 ?k5 ?k6 ?k7 ?k8 ?k9 ?k10 ?k11 ?_; (case k1 => k_asm); (case k2 => k_asm); (case k3 => k_asm); (case k4 => k_asm); (case k5 => k_room); (case k6 => k_mem); (case k7 => k_mem); (case k8 => k_mem); (case k9 => k_asm); (case k10 => k_asm); (case k11 => omega); k_whole); intro h' tk' t' F' N'; (try k_sweep); (try dsimp only [PySem.W.LenBack]); (try (refine ⟨⟨by omega, by omega⟩, ?_⟩))))
local macro_rules | `(tactic| walk_at "call ref") => `(tactic| (k_here; k_dflt (refine' getter_make_walk ?k1 ?k2 ?k3 ?k4 ?k5 ?_; (case k1 => k_asm); (case k2 => k_asm); (case k3 => k_asm); (case k4 => k_asm); (case k5 => k_room); k_whole); intro q' d' t' u' h' tk' F' N' l1 l2 l3; (try k_lt l1); (try k_lt2 l2); (try k_lt2 l3); (try k_sweep)))
local macro_rules | `(tactic| walk_at "call builtin:sorted") => `(tactic| (k_here; (show wpAny _ _ (call (Value.builtin _) [Value.ref _] [(PySem.Str.ofString "key", _), (PySem.Str.ofString "reverse", Value.bool _)]) _ _ _); k_dflt (refine' sorted_walk ?xF ?xX ?xT ?xN ?xroom ?xhh ?xhu _ ?xB ?xst ?xq ?xdq ?xtq ?xv ?xd ?xkv ?xod ?xtup ?xte ?xtup0 ?xctr ?xct ?xh0 ?xmin ?xn ?xh1 ?xh60 ?_; (case xF => k_asm); (case xX => k_asm); (case xT => k_asm); (case xN => k_asm); (case xroom => k_room); (case xhh => k_asm); (case xhu => (simp only [units_in1, units_deeper, Around.mark_units]; omega)); (case xB => k_asm); (case xst => k_asm); (case xq => k_mem); (case xdq => k_mem); (case xtq => k_mem); (case xv => k_mem); (case xd => k_mem); (case xkv => k_asm); (case xod => k_asm); (case xtup => k_asm); (case xte => k_mem); (case xtup0 => k_asm); (case xctr => k_asm); (case xct => k_asm); (case xh0 => k_asm); (case xmin => k_asm); (case xn => k_asm); (case xh1 => k_asm); (case xh60 => omega)); intro h' tk' D' es' c' F' N' l1 el'; (try k_lt l1); (try k_sweep)))
local macro_rules | `(tactic| walk_at "subscriptTail Name Slice ref ref") => `(tactic| (k_here; k_dflt (refine' evict_slice ?xF ?xN ?xD ?xl ?xc ?xh ?_; (case xF => k_asm); (case xN => k_asm); (case xD => k_mem); (case xl => k_asm); (case xc => k_asm); (case xh => omega); k_whole); intro h' S' F' N' l1; (try k_lt l1); (try k_sweep)))
local macro_rules | `(tactic| walk_at "exec For") => `(tactic| (k_here; (rename Fr _ _ _ _ => lF'); (with_unfolding_all refine' For_invVF lF' ?k1 ?k2 ?_; (case k1 => exact rfl); (case k2 => exact rfl); k_whole)))
local macro_rules | `(tactic| walk_at "pyIter ref") => `(tactic| (k_here; (rename Fr _ _ _ _ => lF'); (rename News _ _ _ _ => lN'); (with_unfolding_all refine' iter_listUnr ?hh lF' lN' ?hm ?hc ?hd ?_); (case hh => assumption); (case hm => k_mem); (case hc => rfl); (case hd => rfl); k_whole; clear lF' lN'; intro i' l1; (try k_lt l1)))
local macro_rules | `(tactic| walk_at "delItem ref int") => `(tactic| (k_here; k_dflt (refine' kob_del (knd := PySem.intKind _ _) ?F ?N ?U ?d (intKind_is _ _ _ _) ?l ?z ?_; (case F => k_asm); (case N => k_asm); (case U => k_updF); (case d => k_asm); (case l => assumption); (case z => (rw [sizeLine_eq]; omega))); intro h' o' F' N' hd'; (try dsimp only at N'); (try k_sweep)))
local macro_rules | `(tactic| walk_at "WhlIf") => `(tactic| (first | (refine WhlIf.no (decide_eq_false (by omega)) ?_) | (refine WhlIf.yes (decide_eq_true (by omega)) ?_)))

set_option maxHeartbeats 8000000 in
theorem manage_evict_code {b₀ : Heap}
    {R : Result → Shared → Prop} {c dc d x dx : Addr} {cnt cap : Int} {tc tcap tth th : Tok} {od : Obj} {kvs : List (Int × Value)} {es : List Ent} {e0 : Ent} {n : Nat}
    (B : Base w mean mg mb b₀) (hst : ∀ b o, b₀.get? b = some o → s.heap.get? b = some o) (hroom : A.depth < 770) (hh : A.handled = none) (hu : A.units + 100 < cLine)
    (hc : s.heap.get? c = some (cacheObj dc cnt tc d x cap tcap tth)) (hc0 : b₀.get? c = none) (hd : s.heap.get? dc = some (dictOf [] 0)) (hd0 : b₀.get? dc = none)
    (hdd : s.heap.get? d = some od) (hdd0 : b₀.get? d = none) (hod : od.IsDictOf (PySem.intKind prog w) kvs) (hkv : kvs = kvsOf es) (hkl : kvs.length = n + 1) (hkl2 : (without kvs e0.nm).length = n) (hsome : (valueAt kvs e0.nm).isSome = true) (lo : (d == sysModules) = false)
    (hx : s.heap.get? x = some (lockObj dx)) (hx0 : b₀.get? x = none) (hdx : s.heap.get? dx = some (heldObj w.params th false)) (hdx0 : b₀.get? dx = none)
    (htup : ∀ e ∈ es, s.heap.get? e.t = some e.tup) (htup0 : ∀ e ∈ es, b₀.get? e.t = none) (hctr : ∀ e ∈ es, s.heap.get? e.l = some e.ctr)
    (hct : (es.map (·.ct)).Nodup) (h0 : e0 ∈ es) (hmin : ∀ e ∈ es, e0.ct ≤ e.ct) (hn : es.length = n + 1) (h1 : 1 ≤ n) (hcap : cap = (n : Int)) (h50 : n < 50)
    (ht : s.heap.get? e0.t = some e0.tup) (ht0 : b₀.get? e0.t = none)
    (hneT : ∀ e ∈ es, e ≠ e0 → e.t ≠ e0.t) (hnd : [c, dc, d, x, dx, e0.t].Nodup)
    (h : ∀ h' tk od', Keep [d] s.heap h' → h'.get? d = some od' → od'.IsDictOf (PySem.intKind prog w) (without kvs e0.nm) → R (.ok (.ret .none)) { s with heap := h', toks := tk }) :
    codeAny (model prog w) A (.call (.ref 181) ⟨[.ref c], []⟩) R s := by
  refine' call_raw (news := [(c, cacheObj dc cnt tc d x cap tcap tth), (dc, dictOf [] 0), (d, od), (x, lockObj dx), (dx, heldObj w.params th false), (e0.t, e0.tup)]) B hst ?hn ?ho ?hcd ?hr ?hbind ?hloc ?h ?hco ?hgen ?hk ?hcell
  case ho => k_dflt k_is
  case hcd => k_dflt k_is
  case hr => k_room
  case hbind => exact BindsTo.of_eq rfl
  case hloc => exact locs rfl
  case hco => rfl
  case hgen => rfl
  case hk => rfl
  case hcell => decide
  case hn => exact List.forall_mem_cons.mpr ⟨⟨hc, hc0⟩, List.forall_mem_cons.mpr ⟨⟨hd, hd0⟩, List.forall_mem_cons.mpr ⟨⟨hdd, hdd0⟩, List.forall_mem_cons.mpr ⟨⟨hx, hx0⟩, List.forall_mem_cons.mpr ⟨⟨hdx, hdx0⟩, List.forall_mem_cons.mpr ⟨⟨ht, ht0⟩, List.forall_mem_nil _⟩⟩⟩⟩⟩⟩
  case h =>
    intro g L' h₁ F N X T hK l1 hof
    have hnd' := hnd
    simp only [List.nodup_cons, List.mem_cons, List.not_mem_nil, or_false, not_or, List.nodup_nil, and_true, not_false_iff] at hnd'
    obtain ⟨⟨n0_1, n0_2, n0_3, n0_4, n0_5⟩, ⟨n1_2, n1_3, n1_4, n1_5⟩, ⟨n2_3, n2_4, n2_5⟩, ⟨n3_4, n3_5⟩, n4_5⟩ := hnd'
    replace n0_1 := neN n0_1
    replace n0_2 := neN n0_2
    replace n0_3 := neN n0_3
    replace n0_4 := neN n0_4
    replace n0_5 := neN n0_5
    replace n1_2 := neN n1_2
    replace n1_3 := neN n1_3
    replace n1_4 := neN n1_4
    replace n1_5 := neN n1_5
    replace n2_3 := neN n2_3
    replace n2_4 := neN n2_4
    replace n2_5 := neN n2_5
    replace n3_4 := neN n3_4
    replace n3_5 := neN n3_5
    replace n4_5 := neN n4_5
    (try dsimp only)
    (try k_fold)
    have hbg : ∀ b o, b₀.get? b = some o → g.get? b = some o := fun b o e => hK b o (fun z => by
      obtain ⟨p, hp, rfl⟩ := List.mem_map.mp z
      simp only [List.mem_cons, List.not_mem_nil, or_false] at hp
      rcases hp with rfl | rfl | rfl | rfl | rfl | rfl
      · rw [hc0] at e; cases e
      · rw [hd0] at e; cases e
      · rw [hdd0] at e; cases e
      · rw [hx0] at e; cases e
      · rw [hdx0] at e; cases e
      · rw [ht0] at e; cases e) (hst b o e)
    have hs0 : ∀ p ∈ [(c, cacheObj dc cnt tc d x cap tcap tth), (dc, dictOf [] 0), (d, od), (x, lockObj dx), (dx, heldObj w.params th false), (e0.t, e0.tup)], s.heap.get? p.1 = some p.2 :=
      List.forall_mem_cons.mpr ⟨hc, List.forall_mem_cons.mpr ⟨hd, List.forall_mem_cons.mpr ⟨hdd, List.forall_mem_cons.mpr ⟨hx, List.forall_mem_cons.mpr ⟨hdx, List.forall_mem_cons.mpr ⟨ht, List.forall_mem_nil _⟩⟩⟩⟩⟩⟩
    have hodc : od.cls = .type "dict" := by obtain ⟨_, _, z, _⟩ := hod; exact z.1
    have hgt : ∀ e ∈ es, e ≠ e0 → g.get? e.t = some e.tup := fun e he hne => hK _ _ (not_among hs0 (htup e he) (by
      refine List.forall_mem_cons.mpr ⟨.inl (by simp), List.forall_mem_cons.mpr ⟨.inl (by simp), List.forall_mem_cons.mpr ⟨.inl (by rw [hodc]; simp), List.forall_mem_cons.mpr ⟨.inl (by simp), List.forall_mem_cons.mpr ⟨.inl (by simp), List.forall_mem_cons.mpr ⟨.inr (fun z => hneT e he hne z.symm), List.forall_mem_nil _⟩⟩⟩⟩⟩⟩)) (htup e he)
    have hgl : ∀ e ∈ es, g.get? e.l = some e.ctr := fun e he => hK _ _ (not_among hs0 (hctr e he) (by
      refine List.forall_mem_cons.mpr ⟨.inl (by simp), List.forall_mem_cons.mpr ⟨.inl (by simp), List.forall_mem_cons.mpr ⟨.inl (by rw [hodc]; simp), List.forall_mem_cons.mpr ⟨.inl (by simp), List.forall_mem_cons.mpr ⟨.inl (by simp), List.forall_mem_cons.mpr ⟨.inl (by simp), List.forall_mem_nil _⟩⟩⟩⟩⟩⟩)) (hctr e he)
    k_steps
    (rename Fr _ _ _ _ => F')
    (rename News _ _ _ _ => N')
    (rename Obj.IsDictOf _ _ _ => hd')
    have hnew := N' _ (.tail _ (.tail _ (.tail _ (.tail _ (.tail _ (.tail _ (.tail _ (.tail _ (.head _)))))))))
    refine h _ _ _ (keep_end (T := [d]) hK F' N' hs0 ?_) hnew.1 hd'
    exact List.forall_mem_cons.mpr ⟨.inr (by k_mem), List.forall_mem_cons.mpr ⟨.inr (by k_mem), List.forall_mem_cons.mpr ⟨.inl (.head _), List.forall_mem_cons.mpr ⟨.inr (by k_mem), List.forall_mem_cons.mpr ⟨.inr (by k_mem), List.forall_mem_cons.mpr ⟨.inr (by k_mem), List.forall_mem_nil _⟩⟩⟩⟩⟩⟩
end


theorem nodup_map_inj {α β : Type} {f : α → β} : ∀ {l : List α}, (l.map f).Nodup → ∀ {a b : α}, a ∈ l → b ∈ l → f a = f b → a = b
  | [], _, _, _, h, _, _ => nomatch h
  | x :: r, hn, a, b, ha, hb, e => by
    rw [List.map_cons, List.nodup_cons] at hn
    rcases List.mem_cons.mp ha with h1 | h1
    · rcases List.mem_cons.mp hb with h2 | h2
      · rw [h1, h2]
      · have h3 : f b ∈ r.map f := List.mem_map_of_mem h2
        rw [← e, h1] at h3; exact absurd h3 hn.1
    · rcases List.mem_cons.mp hb with h2 | h2
      · have h3 : f a ∈ r.map f := List.mem_map_of_mem h1
        rw [e, h2] at h3; exact absurd h3 hn.1
      · exact nodup_map_inj hn.2 h1 h2 e

theorem without_len {kvs : List (Int × Value)} {k : Int} : (kvs.map (·.1)).Nodup → k ∈ kvs.map (·.1) → (without kvs k).length + 1 = kvs.length := by
  induction kvs with
  | nil => intro _ h; cases h
  | cons p r ih =>
    intro hn hk
    rw [List.map_cons, List.nodup_cons] at hn
    unfold without
    by_cases hp : p.1 = k
    · have e : without r k = r := without_of_not_mem r k (hp ▸ hn.1)
      rw [List.filter_cons_of_neg (by simp [hp])]
      show (without r k).length + 1 = _
      rw [e]; rfl
    · rw [List.filter_cons_of_pos (by simp [hp])]
      rw [List.map_cons] at hk
      have hk' : k ∈ r.map (·.1) := by rcases List.mem_cons.mp hk with z | z; exact absurd z.symm hp; exact z
      have := ih hn.2 hk'
      show (without r k).length + 1 + 1 = r.length + 1
      omega

theorem valueAt_isSome {kvs : List (Int × Value)} {k : Int} : (valueAt kvs k).isSome = true ↔ k ∈ kvs.map (·.1) := by
  unfold valueAt
  rw [Option.isSome_map, List.find?_isSome]
  constructor
  · rintro ⟨p, hp, e⟩
    exact List.mem_map.mpr ⟨p, hp, by simpa using e⟩
  · intro h
    obtain ⟨p, hp, e⟩ := List.mem_map.mp h
    exact ⟨p, hp, by simpa using e⟩
theorem stored_new {kvs : List (Int × Value)} {k : Int} {v : Value} (h : valueAt kvs k = none) : stored kvs k v = kvs ++ [(k, v)] := by
  unfold stored
  rw [if_neg]
  intro z
  obtain ⟨p, hp, e⟩ := List.any_eq_true.mp z
  have : (valueAt kvs k).isSome = true := valueAt_isSome.mpr (List.mem_map.mpr ⟨p, hp, by simpa using e⟩)
  rw [h] at this; cases this

section
variable {prog : Program} {w : World} {A : Around} {s : Shared} {mean : ExcName → Option Value} {mg mb : Str → Option Value} {g : Heap} {L : Addr} {m : Str → Option Value} {news : List (Addr × Obj)}
local macro_rules | `(tactic| k_room) => `(tactic| ((try simp only [depth_under_make, depth_under_kw, depth_in1, depth_deeper, depth_caller] at *); (try simp only [recursionLimit] at *); omega))

theorem manage_stay_walk {E : Value → Shared → Prop} {Q : Value → Shared → Prop} {c dc d x dx : Addr} {cnt cap : Int} {tc tcap tth th : Tok} {od : Obj} {kvs : List (Int × Value)} {key : Int} {t : Addr} (F : Fr g L s.heap m) (X : (Mine.hd.heap_39 w.params).In g)
    (T : Top Mine.hd.view_39 (looseW Mine.hd.view_39 [Str.ofString "itemgetter", Str.ofString "LRUCache"]) mean mg mb g) (N : News g L s.heap news) (hroom : A.depth < 770)
    (hc : (c, cacheObj dc cnt tc d x cap tcap tth) ∈ news) (hdc : (dc, dictOf [] 0) ∈ news) (hd : (d, od) ∈ news) (hx : (x, lockObj dx) ∈ news) (hdx : (dx, heldObj w.params th false) ∈ news)
    (hod : od.IsDictOf (PySem.intKind prog w) (stored kvs key (.ref t))) (lo : (d == sysModules) = false) (hcap : ∀ t : Addr, ((stored kvs key (.ref t)).length : Int) ≤ cap) (hcap2 : cap ≤ 100) (hnd : [c, dc, d, x, dx].Nodup)
    (h : ∀ h' tk, Fr g L h' m → News g L h' news → Q .none { s with heap := h', toks := tk }) :
    wpAny (model prog w) A (call (.ref 181) [.ref c]) Q E s := by
  have a1 := N _ hc
  have a2 := N _ hdc
  have a3 := N _ hd
  have a4 := N _ hx
  have a5 := N _ hdx
  refine wpAny_call (manage_stay_code ⟨X, T⟩ F.keep hroom a1.1 a1.2.2 a2.1 a2.2.2 a3.1 a3.2.2 hod lo a4.1 a4.2.2 a5.1 a5.2.2 hnd (hcap t) hcap2 fun h' tk K => ?_)
  obtain ⟨F', N'⟩ := keep_all F N K
  exact h h' tk F' N'

theorem manage_evict_walk {E : Value → Shared → Prop} {Q : Value → Shared → Prop} {c dc d x dx : Addr} {cnt cap vl : Int} {tc tcap tth th tk tv tl : Tok} {ep : Nat} {od : Obj} {kvs : List (Int × Value)} {key : Int} {t l : Addr} {es : List Ent} {e0 : Ent} {n : Nat} {u : Obj → List (Addr × Obj)}
    (F : Fr g L s.heap m) (N : News g L s.heap news) (b₀ : Heap) (B : Base w mean mg mb b₀) (hbg : ∀ b o, b₀.get? b = some o → g.get? b = some o) (hroom : A.depth < 770) (hh : A.handled = none) (hu : A.units + 100 < cLine)
    (hc : (c, cacheObj dc cnt tc d x cap tcap tth) ∈ news) (hdc : (dc, dictOf [] 0) ∈ news) (U : UpdF d od news u) (hx : (x, lockObj dx) ∈ news) (hdx : (dx, heldObj w.params th false) ∈ news)
    (ht : (t, tupObj key tk vl tv l) ∈ news) (hl : (l, ctrObj cnt tl ep) ∈ news)
    (hod : od.IsDictOf (PySem.intKind prog w) (stored kvs key (.ref t))) (lo : (d == sysModules) = false) (hkv : kvs = kvsOf es) (habs : valueAt kvs key = none)
    (hgt : ∀ e ∈ es, g.get? e.t = some e.tup) (hgt0 : ∀ e ∈ es, b₀.get? e.t = none) (hgl : ∀ e ∈ es, g.get? e.l = some e.ctr) (hct : (es.map (·.ct)).Nodup) (hcb : ∀ e ∈ es, e.ct < cnt) (htn : (es.map (·.t)).Nodup)
    (h0 : e0 ∈ es) (hmin : ∀ e ∈ es, e0.ct ≤ e.ct) (hn : es.length = n) (h1 : 1 ≤ n) (hcap : cap = (n : Int)) (h50 : n < 50) (hnd : [c, dc, d, x, dx].Nodup)
    (h : ∀ h' tk od', Fr g L h' m → News g L h' (u od') → od'.IsDictOf (PySem.intKind prog w) (without (kvs ++ [(key, .ref t)]) e0.nm) → Q .none { s with heap := h', toks := tk }) :
    wpAny (model prog w) A (call (.ref 181) [.ref c]) Q E s := by
  obtain ⟨pre, post, eN, eu, p1, p2⟩ := U.split
  have hd : (d, od) ∈ news := by rw [eN]; simp
  have a1 := N _ hc
  have a2 := N _ hdc
  have a3 := N _ hd
  have a4 := N _ hx
  have a5 := N _ hdx
  have a6 := N _ ht
  have a7 := N _ hl
  have b0 : ∀ {a : Addr}, g.get? a = none → b₀.get? a = none := fun {a} hg => by
    cases z : b₀.get? a with
    | none => rfl
    | some o => rw [hbg _ _ z] at hg; cases hg
  rw [stored_new habs] at hod
  have hke : kvs ++ [(key, Value.ref t)] = kvsOf (es ++ [⟨key, vl, cnt, t, l, tk, tv, tl, ep⟩]) := by rw [hkv]; simp [kvsOf]
  have hnn : ((kvs ++ [(key, Value.ref t)]).map (·.1)).Nodup := by obtain ⟨_, _, _, _, _, _, z⟩ := hod; exact z
  have hme : e0.nm ∈ (kvs ++ [(key, Value.ref t)]).map (·.1) := by rw [hke]; simp [kvsOf]; exact .inl ⟨e0, h0, rfl⟩
  have hkl : (kvs ++ [(key, Value.ref t)]).length = n + 1 := by rw [hkv]; simp [kvsOf, hn]
  have hne : ∀ {a : Addr} {o : Obj}, g.get? a = some o → ∀ p ∈ news, p.1 ≠ a := fun e p hp z => by have := (N p hp).2.2; rw [z, e] at this; cases this
  have t0 := hgt e0 h0
  have hnd6 : [c, dc, d, x, dx, e0.t].Nodup := by
    have := hnd
    simp only [List.nodup_cons, List.mem_cons, List.not_mem_nil, or_false, not_or, List.nodup_nil, and_true, not_false_iff] at this ⊢
    have q1 := hne t0 _ hc
    have q2 := hne t0 _ hdc
    have q3 := hne t0 _ hd
    have q4 := hne t0 _ hx
    have q5 := hne t0 _ hdx
    exact ⟨⟨this.1.1, this.1.2.1, this.1.2.2.1, this.1.2.2.2, q1⟩, ⟨this.2.1.1, this.2.1.2.1, this.2.1.2.2, q2⟩, ⟨this.2.2.1.1, this.2.2.1.2, q3⟩, ⟨this.2.2.2, q4⟩, q5⟩
  refine wpAny_call (manage_evict_code (es := es ++ [⟨key, vl, cnt, t, l, tk, tv, tl, ep⟩]) (e0 := e0) (n := n) B (fun b o e => F.keep _ _ (hbg _ _ e)) hroom hh hu a1.1 (b0 a1.2.2) a2.1 (b0 a2.2.2) a3.1 (b0 a3.2.2) hod hke hkl (by have := without_len hnn hme; omega) (valueAt_isSome.mpr hme) lo
    a4.1 (b0 a4.2.2) a5.1 (b0 a5.2.2) ?_ ?_ ?_ ?_ (by simp [h0]) ?_ (by simp [hn]) h1 hcap h50 (F.keep _ _ t0) (hgt0 e0 h0) ?_ hnd6 fun h' tk' od' K e hd' => ?_)
  · intro e he
    rcases List.mem_append.mp he with he | he
    · exact F.keep _ _ (hgt e he)
    · rw [List.mem_singleton.mp he]; exact a6.1
  · intro e he
    rcases List.mem_append.mp he with he | he
    · exact hgt0 e he
    · rw [List.mem_singleton.mp he]; exact b0 a6.2.2
  · intro e he
    rcases List.mem_append.mp he with he | he
    · exact F.keep _ _ (hgl e he)
    · rw [List.mem_singleton.mp he]; exact a7.1
  · rw [List.map_append, List.nodup_append]
    refine ⟨hct, by simp, fun a ha b hb => ?_⟩
    obtain ⟨e, he, rfl⟩ := List.mem_map.mp ha
    have hb' : b = cnt := by simpa using hb
    have := hcb e he
    omega
  · intro e he
    rcases List.mem_append.mp he with he | he
    · exact hmin e he
    · rw [List.mem_singleton.mp he]; exact Int.le_of_lt (hcb e0 h0)
  · intro e he hee z
    rcases List.mem_append.mp he with he | he
    · exact hee (nodup_map_inj htn he h0 z)
    · rw [List.mem_singleton.mp he] at z
      exact hne t0 _ ht z
  · rw [eN] at N
    obtain ⟨F', N'⟩ := keep_frnews F N K e p1 p2
    exact h h' tk' od' F' (eu od' ▸ N') hd'
end
section
variable {prog : Program} {w : World} {A : Around} {s : Shared} {mean : ExcName → Option Value} {mg mb : Str → Option Value} {g : Heap} {L : Addr} {m : Str → Option Value} {news : List (Addr × Obj)}
local macro_rules | `(tactic| k_room) => `(tactic| ((try simp only [depth_under_make, depth_under_kw, depth_in1, depth_deeper, depth_caller] at *); (try simp only [recursionLimit] at *); omega))
local macro_rules | `(tactic| walk_at "call ref") => `(tactic| (k_here; k_dflt (refine' inc_walk ?k1 ?k2 ?k3 ?k4 ?k5 ?k6 ?k7 ?k8 ?_; (case k1 => k_asm); (case k2 => k_asm); (case k3 => k_asm); (case k4 => k_asm); (case k5 => k_room); (case k6 => (intro t'; k_upd)); (case k7 => k_mem); (case k8 => k_ne); k_whole); intro h' tk' t' F' N'; (try k_sweep)))
local macro_rules | `(tactic| walk_at "call ref") => `(tactic| (k_here; k_dflt (refine' manage_stay_walk ?k1 ?k2 ?k3 ?k4 ?k5 ?k6 ?k7 ?k8 ?k9 ?k10 ?k11 ?k12 ?k13 ?k14 ?k15 ?_; (case k1 => k_asm); (case k2 => k_asm); (case k3 => k_asm); (case k4 => k_asm); (case k5 => k_room); (case k6 => k_mem); (case k7 => k_mem); (case k8 => k_mem); (case k9 => k_mem); (case k10 => k_mem); (case k11 => k_asm); (case k12 => k_asm); (case k13 => k_asm); (case k14 => k_asm); (case k15 => k_asm)); intro h' tk' F' N'; (try k_sweep)))
local macro_rules | `(tactic| walk_at "setItem ref int") => `(tactic| (k_here; k_dflt (refine' kda_set (knd := PySem.intKind _ _) ?F ?N ?U ?d (intKind_is _ _ _ _) ?z ?_; (case F => k_asm); (case N => k_asm); (case U => k_updF); (case d => k_asm); (case z => (rw [sizeLine_eq]; omega))); intro h' o' F' N' hd'; (try dsimp only at N'); (try k_sweep)))
local macro_rules | `(tactic| walk_at "no key z1101") => `(tactic| skip)
local macro_rules | `(tactic| walk_at "no key z1102") => `(tactic| skip)
local macro_rules | `(tactic| walk_at "no key z1103") => `(tactic| skip)
local macro_rules | `(tactic| walk_at "no key z1104") => `(tactic| skip)
local macro_rules | `(tactic| walk_at "no key z1105") => `(tactic| skip)
local macro_rules | `(tactic| walk_at "no key z1106") => `(tactic| skip)
local macro_rules | `(tactic| walk_at "no key z1107") => `(tactic| skip)
local macro_rules | `(tactic| walk_at "no key z1108") => `(tactic| skip)

set_option maxHeartbeats 8000000 in
theorem setitem_stay_code {b₀ : Heap}
    {R : Result → Shared → Prop} {c dc d x dx : Addr} {cnt cap key vl : Int} {tc tcap tth th tk tv : Tok} {od : Obj} {kvs : List (Int × Value)}
    (B : Base w mean mg mb b₀) (hst : ∀ b o, b₀.get? b = some o → s.heap.get? b = some o) (hroom : A.depth < 760)
    (hc : s.heap.get? c = some (cacheObj dc cnt tc d x cap tcap tth)) (hc0 : b₀.get? c = none) (hd : s.heap.get? dc = some (dictOf [] 0)) (hd0 : b₀.get? dc = none)
    (hdd : s.heap.get? d = some od) (hdd0 : b₀.get? d = none) (hod : od.IsDictOf (PySem.intKind prog w) kvs) (lo : (d == sysModules) = false) (hkl : kvs.length ≤ 100)
    (hx : s.heap.get? x = some (lockObj dx)) (hx0 : b₀.get? x = none) (hdx : s.heap.get? dx = some (heldObj w.params th false)) (hdx0 : b₀.get? dx = none)
    (hnd : [c, dc, d, x, dx].Nodup) (hcap : ∀ t : Addr, ((stored kvs key (.ref t)).length : Int) ≤ cap) (hcap2 : cap ≤ 100)
    (h : ∀ h' tk' tc' t l tl od', Keep [c, d] s.heap h' → h'.get? c = some (cacheObj dc (cnt + 1) tc' d x cap tcap tth) → h'.get? d = some od' → od'.IsDictOf (PySem.intKind prog w) (stored kvs key (.ref t)) →
      s.heap.get? t = none → s.heap.get? l = none → h'.get? t = some (tupObj key tk vl tv l) → h'.get? l = some (ctrObj (cnt + 1) tl 0) → R (.ok (.ret .none)) { s with heap := h', toks := tk' }) :
    codeAny (model prog w) A (.call (.ref 159) ⟨[.ref c, .int key tk, .int vl tv], []⟩) R s := by
  refine' call_raw (news := [(c, cacheObj dc cnt tc d x cap tcap tth), (dc, dictOf [] 0), (d, od), (x, lockObj dx), (dx, heldObj w.params th false)]) B hst ?hn ?ho ?hcd ?hr ?hbind ?hloc ?h ?hco ?hgen ?hk ?hcell
  case ho => k_dflt k_is
  case hcd => k_dflt k_is
  case hr => k_room
  case hbind => exact BindsTo.of_eq rfl
  case hloc => exact locs rfl
  case hco => rfl
  case hgen => rfl
  case hk => rfl
  case hcell => decide
  case hn => exact List.forall_mem_cons.mpr ⟨⟨hc, hc0⟩, List.forall_mem_cons.mpr ⟨⟨hd, hd0⟩, List.forall_mem_cons.mpr ⟨⟨hdd, hdd0⟩, List.forall_mem_cons.mpr ⟨⟨hx, hx0⟩, List.forall_mem_cons.mpr ⟨⟨hdx, hdx0⟩, List.forall_mem_nil _⟩⟩⟩⟩⟩
  case h =>
    intro g L' h₁ F N X T hK l1 hof
    have hnd' := hnd
    simp only [List.nodup_cons, List.mem_cons, List.not_mem_nil, or_false, not_or, List.nodup_nil, and_true, not_false_iff] at hnd'
    obtain ⟨⟨n0_1, n0_2, n0_3, n0_4⟩, ⟨n1_2, n1_3, n1_4⟩, ⟨n2_3, n2_4⟩, n3_4⟩ := hnd'
    replace n0_1 := neN n0_1
    replace n0_2 := neN n0_2
    replace n0_3 := neN n0_3
    replace n0_4 := neN n0_4
    replace n1_2 := neN n1_2
    replace n1_3 := neN n1_3
    replace n1_4 := neN n1_4
    replace n2_3 := neN n2_3
    replace n2_4 := neN n2_4
    replace n3_4 := neN n3_4
    (try dsimp only)
    (try k_fold)
    k_steps
    (rename Fr _ _ _ _ => F')
    (rename News _ _ _ _ => N')
    (rename Obj.IsDictOf _ _ _ => hd')
    (rename (c < _ ∧ dc < _ ∧ d < _ ∧ x < _ ∧ dx < _) => l8)
    (rename (_ < _ ∧ c < _ ∧ dc < _ ∧ d < _ ∧ x < _ ∧ dx < _) => l9)
    have e1 := N' _ (.head _)
    have e2 := N' _ (.tail _ (.head _))
    have e3 := N' _ (.tail _ (.tail _ (.head _)))
    have e5 := N' _ (.tail _ (.tail _ (.tail _ (.tail _ (.head _)))))
    have hs0 : ∀ p ∈ [(c, cacheObj dc cnt tc d x cap tcap tth), (dc, dictOf [] 0), (d, od), (x, lockObj dx), (dx, heldObj w.params th false)], s.heap.get? p.1 = some p.2 :=
      List.forall_mem_cons.mpr ⟨hc, List.forall_mem_cons.mpr ⟨hd, List.forall_mem_cons.mpr ⟨hdd, List.forall_mem_cons.mpr ⟨hx, List.forall_mem_cons.mpr ⟨hdx, List.forall_mem_nil _⟩⟩⟩⟩⟩
    refine h _ _ _ _ _ _ _ (keep_end (T := [c, d]) hK F' N' hs0 ?_) e3.1 e5.1 hd' (new_none hK e1.2.2 ?_) (new_none hK e2.2.2 ?_) e1.1 e2.1
    · exact List.forall_mem_cons.mpr ⟨.inl (.head _), List.forall_mem_cons.mpr ⟨.inr (by k_mem), List.forall_mem_cons.mpr ⟨.inl (.tail _ (.head _)), List.forall_mem_cons.mpr ⟨.inr (by k_mem), List.forall_mem_cons.mpr ⟨.inr (by k_mem), List.forall_mem_nil _⟩⟩⟩⟩⟩
    · exact List.forall_mem_cons.mpr ⟨Nat.ne_of_lt l9.2.1, List.forall_mem_cons.mpr ⟨Nat.ne_of_lt l9.2.2.1, List.forall_mem_cons.mpr ⟨Nat.ne_of_lt l9.2.2.2.1, List.forall_mem_cons.mpr ⟨Nat.ne_of_lt l9.2.2.2.2.1, List.forall_mem_cons.mpr ⟨Nat.ne_of_lt l9.2.2.2.2.2, List.forall_mem_nil _⟩⟩⟩⟩⟩
    · exact List.forall_mem_cons.mpr ⟨Nat.ne_of_lt l8.1, List.forall_mem_cons.mpr ⟨Nat.ne_of_lt l8.2.1, List.forall_mem_cons.mpr ⟨Nat.ne_of_lt l8.2.2.1, List.forall_mem_cons.mpr ⟨Nat.ne_of_lt l8.2.2.2.1, List.forall_mem_cons.mpr ⟨Nat.ne_of_lt l8.2.2.2.2, List.forall_mem_nil _⟩⟩⟩⟩⟩
end
section
variable {prog : Program} {w : World} {A : Around} {s : Shared} {mean : ExcName → Option Value} {mg mb : Str → Option Value} {g : Heap} {L : Addr} {m : Str → Option Value} {news : List (Addr × Obj)}
local macro_rules | `(tactic| k_room) => `(tactic| ((try simp only [depth_under_make, depth_under_kw, depth_in1, depth_deeper, depth_caller] at *); (try simp only [recursionLimit] at *); omega))
local macro_rules | `(tactic| walk_at "call ref") => `(tactic| (k_here; k_dflt (refine' inc_walk ?k1 ?k2 ?k3 ?k4 ?k5 ?k6 ?k7 ?k8 ?_; (case k1 => k_asm); (case k2 => k_asm); (case k3 => k_asm); (case k4 => k_asm); (case k5 => k_room); (case k6 => (intro t'; k_upd)); (case k7 => k_mem); (case k8 => k_ne); k_whole); intro h' tk' t' F' N'; (try k_sweep)))
local macro_rules | `(tactic| walk_at "setItem ref int") => `(tactic| (k_here; k_dflt (refine' kda_set (knd := PySem.intKind _ _) ?F ?N ?U ?d (intKind_is _ _ _ _) ?z ?_; (case F => k_asm); (case N => k_asm); (case U => k_updF); (case d => k_asm); (case z => (rw [sizeLine_eq]; omega))); intro h' o' F' N' hd'; (try dsimp only at N'); (try k_sweep)))
local macro_rules | `(tactic| walk_at "call ref") => `(tactic| (k_here; k_dflt (refine' manage_evict_walk ?xF ?xN _ ?xB ?xbg ?xroom ?xhh ?xhu ?xc ?xdc ?xU ?xlx ?xdx ?xt ?xl ?xod ?xlo ?xkv ?xab ?xgt ?xgt0 ?xgl ?xct ?xcb ?xtn ?xh0 ?xmin ?xn ?xh1 ?xcap ?xh50 ?xnd ?_; (case xF => k_asm); (case xN => k_asm); (case xB => k_asm); (case xbg => k_asm); (case xroom => k_room); (case xhh => k_asm); (case xhu => (simp only [units_in1, units_deeper, Around.mark_units]; omega)); (case xc => k_mem); (case xdc => k_mem); (case xU => k_updF); (case xlx => k_mem); (case xdx => k_mem); (case xt => k_mem); (case xl => k_mem); (case xod => k_asm); (case xlo => k_asm); (case xkv => k_asm); (case xab => k_asm); (case xgt => k_asm); (case xgt0 => k_asm); (case xgl => k_asm); (case xct => k_asm); (case xcb => k_asm); (case xtn => k_asm); (case xh0 => k_asm); (case xmin => k_asm); (case xn => k_asm); (case xh1 => k_asm); (case xcap => k_asm); (case xh50 => k_asm); (case xnd => k_asm)); intro h' tk' o' F' N' hd'; (try dsimp only at N'); (try k_sweep)))
local macro_rules | `(tactic| walk_at "no key z1201") => `(tactic| skip)
local macro_rules | `(tactic| walk_at "no key z1202") => `(tactic| skip)
local macro_rules | `(tactic| walk_at "no key z1203") => `(tactic| skip)
local macro_rules | `(tactic| walk_at "no key z1204") => `(tactic| skip)
local macro_rules | `(tactic| walk_at "no key z1205") => `(tactic| skip)
local macro_rules | `(tactic| walk_at "no key z1206") => `(tactic| skip)
local macro_rules | `(tactic| walk_at "no key z1207") => `(tactic| skip)
local macro_rules | `(tactic| walk_at "no key z1208") => `(tactic| skip)
local macro_rules | `(tactic| walk_at "no key z1209") => `(tactic| skip)

set_option maxHeartbeats 8000000 in
theorem setitem_evict_code {b₀ : Heap}
    {R : Result → Shared → Prop} {c dc d x dx : Addr} {cnt cap key vl : Int} {tc tcap tth th tk tv : Tok} {od : Obj} {kvs : List (Int × Value)} {es : List Ent} {e0 : Ent} {n : Nat}
    (B : Base w mean mg mb b₀) (hst : ∀ b o, b₀.get? b = some o → s.heap.get? b = some o) (hroom : A.depth < 760)
    (hc : s.heap.get? c = some (cacheObj dc cnt tc d x cap tcap tth)) (hc0 : b₀.get? c = none) (hd : s.heap.get? dc = some (dictOf [] 0)) (hd0 : b₀.get? dc = none)
    (hdd : s.heap.get? d = some od) (hdd0 : b₀.get? d = none) (hod : od.IsDictOf (PySem.intKind prog w) kvs) (lo : (d == sysModules) = false) (hkl : kvs.length ≤ 100)
    (hx : s.heap.get? x = some (lockObj dx)) (hx0 : b₀.get? x = none) (hdx : s.heap.get? dx = some (heldObj w.params th false)) (hdx0 : b₀.get? dx = none)
    (hnd : [c, dc, d, x, dx].Nodup) 
    (hkv : kvs = kvsOf es) (habs : valueAt kvs key = none) (hh : A.handled = none) (hu : A.units + 110 < cLine)
    (hgt : ∀ e ∈ es, s.heap.get? e.t = some e.tup) (hgt0 : ∀ e ∈ es, b₀.get? e.t = none) (hgl : ∀ e ∈ es, s.heap.get? e.l = some e.ctr) (hct : (es.map (·.ct)).Nodup) (hcb : ∀ e ∈ es, e.ct < cnt + 1) (htn : (es.map (·.t)).Nodup)
    (h0 : e0 ∈ es) (hmin : ∀ e ∈ es, e0.ct ≤ e.ct) (hn : es.length = n) (h1 : 1 ≤ n) (hcap : cap = (n : Int)) (h50 : n < 50)
    (h : ∀ h' tk' tc' t l tl od', Keep [c, d] s.heap h' → h'.get? c = some (cacheObj dc (cnt + 1) tc' d x cap tcap tth) → h'.get? d = some od' → od'.IsDictOf (PySem.intKind prog w) (without (kvs ++ [(key, .ref t)]) e0.nm) →
      s.heap.get? t = none → s.heap.get? l = none → h'.get? t = some (tupObj key tk vl tv l) → h'.get? l = some (ctrObj (cnt + 1) tl 0) → R (.ok (.ret .none)) { s with heap := h', toks := tk' }) :
    codeAny (model prog w) A (.call (.ref 159) ⟨[.ref c, .int key tk, .int vl tv], []⟩) R s := by
  refine' call_raw (news := [(c, cacheObj dc cnt tc d x cap tcap tth), (dc, dictOf [] 0), (d, od), (x, lockObj dx), (dx, heldObj w.params th false)]) B hst ?hn ?ho ?hcd ?hr ?hbind ?hloc ?h ?hco ?hgen ?hk ?hcell
  case ho => k_dflt k_is
  case hcd => k_dflt k_is
  case hr => k_room
  case hbind => exact BindsTo.of_eq rfl
  case hloc => exact locs rfl
  case hco => rfl
  case hgen => rfl
  case hk => rfl
  case hcell => decide
  case hn => exact List.forall_mem_cons.mpr ⟨⟨hc, hc0⟩, List.forall_mem_cons.mpr ⟨⟨hd, hd0⟩, List.forall_mem_cons.mpr ⟨⟨hdd, hdd0⟩, List.forall_mem_cons.mpr ⟨⟨hx, hx0⟩, List.forall_mem_cons.mpr ⟨⟨hdx, hdx0⟩, List.forall_mem_nil _⟩⟩⟩⟩⟩
  case h =>
    intro g L' h₁ F N X T hK l1 hof
    have hnd' := hnd
    simp only [List.nodup_cons, List.mem_cons, List.not_mem_nil, or_false, not_or, List.nodup_nil, and_true, not_false_iff] at hnd'
    obtain ⟨⟨n0_1, n0_2, n0_3, n0_4⟩, ⟨n1_2, n1_3, n1_4⟩, ⟨n2_3, n2_4⟩, n3_4⟩ := hnd'
    replace n0_1 := neN n0_1
    replace n0_2 := neN n0_2
    replace n0_3 := neN n0_3
    replace n0_4 := neN n0_4
    replace n1_2 := neN n1_2
    replace n1_3 := neN n1_3
    replace n1_4 := neN n1_4
    replace n2_3 := neN n2_3
    replace n2_4 := neN n2_4
    replace n3_4 := neN n3_4
    (try dsimp only)
    (try k_fold)
    have hbg : ∀ b o, b₀.get? b = some o → g.get? b = some o := fun b o e => hK b o (fun z => by
      obtain ⟨p, hp, rfl⟩ := List.mem_map.mp z
      simp only [List.mem_cons, List.not_mem_nil, or_false] at hp
      rcases hp with rfl | rfl | rfl | rfl | rfl
      · rw [hc0] at e; cases e
      · rw [hd0] at e; cases e
      · rw [hdd0] at e; cases e
      · rw [hx0] at e; cases e
      · rw [hdx0] at e; cases e) (hst b o e)
    have hs1 : ∀ p ∈ [(c, cacheObj dc cnt tc d x cap tcap tth), (dc, dictOf [] 0), (d, od), (x, lockObj dx), (dx, heldObj w.params th false)], s.heap.get? p.1 = some p.2 :=
      List.forall_mem_cons.mpr ⟨hc, List.forall_mem_cons.mpr ⟨hd, List.forall_mem_cons.mpr ⟨hdd, List.forall_mem_cons.mpr ⟨hx, List.forall_mem_cons.mpr ⟨hdx, List.forall_mem_nil _⟩⟩⟩⟩⟩
    have hodc : od.cls = .type "dict" := by obtain ⟨_, _, z, _⟩ := hod; exact z.1
    have hgt' : ∀ e ∈ es, g.get? e.t = some e.tup := fun e he => hK _ _ (not_among hs1 (hgt e he) (by
      refine List.forall_mem_cons.mpr ⟨.inl (by simp), List.forall_mem_cons.mpr ⟨.inl (by simp), List.forall_mem_cons.mpr ⟨.inl (by rw [hodc]; simp), List.forall_mem_cons.mpr ⟨.inl (by simp), List.forall_mem_cons.mpr ⟨.inl (by simp), List.forall_mem_nil _⟩⟩⟩⟩⟩)) (hgt e he)
    have hgl' : ∀ e ∈ es, g.get? e.l = some e.ctr := fun e he => hK _ _ (not_among hs1 (hgl e he) (by
      refine List.forall_mem_cons.mpr ⟨.inl (by simp), List.forall_mem_cons.mpr ⟨.inl (by simp), List.forall_mem_cons.mpr ⟨.inl (by rw [hodc]; simp), List.forall_mem_cons.mpr ⟨.inl (by simp), List.forall_mem_cons.mpr ⟨.inl (by simp), List.forall_mem_nil _⟩⟩⟩⟩⟩)) (hgl e he)
    k_steps
    (rename Fr _ _ _ _ => F')
    (rename News _ _ _ _ => N')
    (rename Obj.IsDictOf _ _ _ => hd')
    (rename (c < _ ∧ dc < _ ∧ d < _ ∧ x < _ ∧ dx < _) => l8)
    (rename (_ < _ ∧ c < _ ∧ dc < _ ∧ d < _ ∧ x < _ ∧ dx < _) => l9)
    have e1 := N' _ (.head _)
    have e2 := N' _ (.tail _ (.head _))
    have e3 := N' _ (.tail _ (.tail _ (.head _)))
    have e5 := N' _ (.tail _ (.tail _ (.tail _ (.tail _ (.head _)))))
    have hs0 : ∀ p ∈ [(c, cacheObj dc cnt tc d x cap tcap tth), (dc, dictOf [] 0), (d, od), (x, lockObj dx), (dx, heldObj w.params th false)], s.heap.get? p.1 = some p.2 :=
      List.forall_mem_cons.mpr ⟨hc, List.forall_mem_cons.mpr ⟨hd, List.forall_mem_cons.mpr ⟨hdd, List.forall_mem_cons.mpr ⟨hx, List.forall_mem_cons.mpr ⟨hdx, List.forall_mem_nil _⟩⟩⟩⟩⟩
    refine h _ _ _ _ _ _ _ (keep_end (T := [c, d]) hK F' N' hs0 ?_) e3.1 e5.1 hd' (new_none hK e1.2.2 ?_) (new_none hK e2.2.2 ?_) e1.1 e2.1
    · exact List.forall_mem_cons.mpr ⟨.inl (.head _), List.forall_mem_cons.mpr ⟨.inr (by k_mem), List.forall_mem_cons.mpr ⟨.inl (.tail _ (.head _)), List.forall_mem_cons.mpr ⟨.inr (by k_mem), List.forall_mem_cons.mpr ⟨.inr (by k_mem), List.forall_mem_nil _⟩⟩⟩⟩⟩
    · exact List.forall_mem_cons.mpr ⟨Nat.ne_of_lt l9.2.1, List.forall_mem_cons.mpr ⟨Nat.ne_of_lt l9.2.2.1, List.forall_mem_cons.mpr ⟨Nat.ne_of_lt l9.2.2.2.1, List.forall_mem_cons.mpr ⟨Nat.ne_of_lt l9.2.2.2.2.1, List.forall_mem_cons.mpr ⟨Nat.ne_of_lt l9.2.2.2.2.2, List.forall_mem_nil _⟩⟩⟩⟩⟩
    · exact List.forall_mem_cons.mpr ⟨Nat.ne_of_lt l8.1, List.forall_mem_cons.mpr ⟨Nat.ne_of_lt l8.2.1, List.forall_mem_cons.mpr ⟨Nat.ne_of_lt l8.2.2.1, List.forall_mem_cons.mpr ⟨Nat.ne_of_lt l8.2.2.2.1, List.forall_mem_cons.mpr ⟨Nat.ne_of_lt l8.2.2.2.2, List.forall_mem_nil _⟩⟩⟩⟩⟩
end


section
variable {prog : Program} {w : World} {A : Around} {s : Shared} {mean : ExcName → Option Value} {mg mb : Str → Option Value} {g : Heap} {L : Addr} {m : Str → Option Value} {news : List (Addr × Obj)} {E : Value → Shared → Prop}
local macro_rules | `(tactic| k_room) => `(tactic| ((try simp only [depth_under_make, depth_under_kw, depth_in1, depth_deeper, depth_caller] at *); (try simp only [recursionLimit] at *); omega))

/-- what stands of a cache for its readers -/
structure Seen (news : List (Addr × Obj)) (c dc d x : Addr) (cnt cap : Int) (tc tcap tth : Tok) (od : Obj) (prog : Program) (w : World) (kvs : List (Int × Value)) : Prop where
  sc : (c, cacheObj dc cnt tc d x cap tcap tth) ∈ news
  sdc : (dc, dictOf [] 0) ∈ news
  sd : (d, od) ∈ news
  od : od.IsDictOf (PySem.intKind prog w) kvs
  lo : (d == sysModules) = false
  len : kvs.length ≤ 100

abbrev KeyP (prog : Program) (w : World) (kvs : List (Int × Value)) : Nat → Value → Prop := fun i v => ∃ k x, kvs[i]? = some (k, x) ∧ (PySem.intKind prog w).is k v = true

theorem ext_own {R : Result → Shared → Prop} {c dc d x : Addr} {cnt cap : Int} {tc tcap tth : Tok} {od : Obj} {kvs : List (Int × Value)} {S : Addr} {res : Value} {c₀ : Nat}
    (F : Fr g L s.heap m) (X : (Mine.hd.heap_39 w.params).In g) (T : Top Mine.hd.view_39 (looseW Mine.hd.view_39 [Str.ofString "itemgetter", Str.ofString "LRUCache"]) mean mg mb g) (N : News g L s.heap news)
    (hroom : A.depth < 750) (hh : A.handled = none) (Z : Seen news c dc d x cnt cap tc tcap tth od prog w kvs) (hS : s.heap.get? S = some { cls := .type "list", data := .seq #[] c₀ }) (hSn : ∀ p ∈ news, p.1 ≠ S)
    (hR : ∀ h' tk acc' c', Keep [S] s.heap h' → h'.get? S = some { cls := .type "list", dict := none, data := .seq acc' c', slots := #[] } → ItemsOf (KeyP prog w kvs) acc' kvs.length → R (.ok (.ret res)) { s with heap := h', toks := tk }) :
    wpAny (model prog w) A.in1 (Builtin.List.listExtendWith (.ref S) (.ref c) res)
      (fun fin s' => match fin with | .done f => R (.ok f) s' | .again c' => c'.quiet = true ∧ codeAny (model prog w) A c' R s') (fun e s' => R (.error e) s') s := by
  have hSc := hSn _ Z.sc
  have hSd := hSn _ Z.sd
  have I : InstAt s.heap c (cacheObj dc cnt tc d x cap tcap tth) 185 (some (dictOf [] 0)) := InstAt.of_news N Z.sc Z.sdc
  unfold Builtin.List.listExtendWith
  refine wpAny_bind (I.type.here ?_)
  have h1 : Builtin.List.listSameRef (.ref S) (.ref c) = false := by simp [Builtin.List.listSameRef, Ne.symm hSc]
  have h2 : (Value.ref 185 == Value.type "list") = false := by decide
  have h3 : (Value.ref 185 == Value.type "tuple") = false := by decide
  simp only [h1, h2, h3, Bool.or_false, Bool.false_eq_true, if_false]
  refine wpAny_bind (owit_iter F X I (f := 145) (by k_dflt k_is) (by k_dflt k_is) ?_)
  have a1 := N _ Z.sc
  have a2 := N _ Z.sdc
  have a3 := N _ Z.sd
  refine wpAny_call (iter_code (key := 0) (tk := 0) ⟨X, T⟩ F.keep (by k_room) a1.1 a1.2.2 a2.1 a2.2.2 a3.1 a3.2.2 Z.od Z.lo (Nat.le_trans Z.len (by decide)) fun h' tk it oi ep K hn hi ki ka => ?_)
  obtain ⟨F', N'⟩ := keep_all F N K
  unfold OwitIt
  refine wpAny_specialOf (T := "dict_keyiterator") ⟨_, hi, ki.1⟩ PySem.F.slot_dict_keyiterator_next.lookup ?_
  dsimp only
  have I' : InstAt h' c (cacheObj dc cnt tc d x cap tcap tth) 185 (some (dictOf [] 0)) := InstAt.of_news N' Z.sc Z.sdc
  have hS' : h'.get? S = some { cls := .type "list", data := .seq #[] c₀ } := K _ _ (by simp) hS
  refine wpAny_bind (wpAny_holding ?_)
  have X' : (Mine.hd.heap_39 w.params).In h' := X.keeps F'.keep
  have hl : findIn (Mine.hd.heap_39 w.params) (.ref 185) "__len__" = some (some (.ref 152)) := by k_dflt k_is
  have hlf : isFn (Mine.hd.heap_39 w.params) (.ref 152) = true := by k_dflt k_is
  unfold Builtin.List.listLengthHint specialOf
  refine wpAny_bind (wpAny_bind (I'.type.here ((looks_findIn X' hl).here ?_)))
  dsimp only
  refine wpAny_ite_split (fun hab => absurd hab (by decide)) (fun _ => ?_)
  refine wpAny_ite_split (fun _ => ?_) (fun hab => absurd rfl hab)
  refine wpAny_bind (wpAny_rule ?_)
  have b1 := N' _ Z.sc
  have b2 := N' _ Z.sdc
  have b3 := N' _ Z.sd
  refine wpAny_bind (wpAny_attempt (len_K F' X I' hl hlf (wpAny_call (len_code (key := 0) (tk := 0) ⟨X, T⟩ F'.keep (by k_room) b1.1 b1.2.2 b2.1 b2.2.2 b3.1 b3.2.2 Z.od Z.lo (Nat.le_trans Z.len (by decide)) fun h2 tk2 t2 K2 => ?_))))
  have hlen := Z.len
  dsimp only [PySem.W.LenBack]
  refine ⟨⟨by omega, by omega⟩, ?_⟩
  refine wpAny_bind (m := asInt? _) (wpAny_pure ?_)
  dsimp only
  refine wpAny_ite_split (fun hab => ?_) (fun _ => ?_)
  · have hab' : decide ((kvs.length : Int).toNat > sizeLine) = true := hab
    rw [decide_eq_true_eq, sizeLine_eq] at hab'
    omega
  refine wpAny_pure ?_
  have nS : ∀ b o, s.heap.get? b = some o → b ≠ it := fun b o e z => by rw [z, hn] at e; cases e
  have hdn : d ≠ it := nS _ _ a3.1
  have W := Walks.dictKeys (prog := prog) (w := w) (knd := PySem.intKind prog w) (A := A.in1) hh it d hdn kvs ep
  have hSf : S ∉ [it, d] := by simp only [List.mem_cons, List.not_mem_nil, or_false, not_or]; exact ⟨nS _ _ hS, Ne.symm hSd⟩
  have hS2 : h2.get? S = some { cls := .type "list", data := .seq #[] c₀ } := K2 _ _ (by simp) hS'
  have st2 : h2.IsKeyIter it d 0 kvs.length ep ∧ h2.DictAt (PySem.intKind prog w) d kvs ep := ⟨ki.at (K2 _ _ (by simp) hi), ka.dictAt (K2 _ _ (by simp) b3.1)⟩
  have KS : Keep [S] s.heap h2 := fun b o hb e => K2 _ _ (by simp) (K b o (by simp) e)
  have hnz : kvs.length ≤ sizeLine := by rw [sizeLine_eq]; omega
  have key : ∀ (h : Heap) (c₁ tk : Nat), (h.IsKeyIter it d 0 kvs.length ep ∧ h.DictAt (PySem.intKind prog w) d kvs ep) → Keep [S] s.heap h →
      h.get? S = some { cls := .type "list", data := .seq #[] c₁ } → codeAny (model prog w) A (.builtin "list.extend.loop" ⟨[.ref S, .ref it, res], []⟩) R { s with heap := h, toks := tk } := by
    intro h c₁ tk hst hk hS₁
    refine codeAny_extend_loopS W.toS hnz S hSf res kvs.length 0 _ #[] c₁ rfl (Nat.zero_le _) hst hS₁ (ItemsOf.nil _) fun s' acc' c' hm hS' hacc => ?_
    rw [Moved.eq_with hm]
    refine hR s'.heap s'.toks acc' c' (fun b o hb e => hm.heap b o (fun hmem => ?_) (hk b o hb e)) hS' hacc
    rcases List.mem_cons.mp hmem with e' | hmem
    · exact hb (List.mem_singleton.mpr e')
    · exact nS b o e (List.mem_singleton.mp hmem)
  refine wpAny_ite_split (fun _ => ?_) (fun _ => wpAny_pure ⟨plainId_quiet PySem.F.plain_extend_loop _, key _ c₀ _ st2 KS hS2⟩)
  refine wpAny_bind (wpAny_rule ?_)
  refine wpAny_bind ?_
  show wpAny _ _ (updateSeq S (·.push .none) >>= fun _ => updateSeq S (·.pop)) _ _ _
  refine wpAny_bind (wpAny_updateSeq hS2 rfl ?_)
  have hS₂ := Heap.get?_update_self (Obj.mapSeq (·.push Value.none)) hS2 rfl
  refine wpAny_updateSeq (hz := by seq_fits) hS₂ rfl ?_
  have hS₃ := Heap.get?_update_self (Obj.mapSeq (·.pop)) hS₂ rfl
  refine wpAny_pure ⟨plainId_quiet PySem.F.plain_extend_loop _, key _ _ _ ?_ (fun b o hb e => ?_) hS₃⟩
  · refine W.frame 0 _ _ st2 fun b hb o e => ?_
    have hbS : b ≠ S := fun h => hSf (h ▸ hb)
    exact (Heap.get?_update_other _ _ (Ne.symm hbS)).trans ((Heap.get?_update_other _ _ (Ne.symm hbS)).trans e)
  · have hb' : b ≠ S := fun z => hb (List.mem_singleton.mpr z)
    exact (Heap.get?_update_other _ _ (Ne.symm hb')).trans ((Heap.get?_update_other _ _ (Ne.symm hb')).trans (KS b o hb e))

theorem ints_of : ∀ {kvs : List (Int × Value)} {vs : List Value}, vs.length = kvs.length → (∀ j v, vs[j]? = some v → KeyP prog w kvs j v) → IntsAre vs (kvs.map (·.1))
  | [], [], _, _ => .nil
  | [], _ :: _, h, _ => by simp at h
  | _ :: _, [], h, _ => by simp at h
  | p :: r, v :: vs, hl, h => by
    obtain ⟨k, x, e, hv⟩ := h 0 v rfl
    obtain ⟨t, rfl⟩ := Value.isInt_shape hv
    have e' : p = (k, x) := by simpa using e
    rw [e']
    exact .cons k t (ints_of (by simpa using hl) fun j u hu => by
      obtain ⟨k', x', e2, h2⟩ := h (j + 1) u (by simpa using hu)
      exact ⟨k', x', by simpa using e2, h2⟩)

theorem ints_acc {kvs : List (Int × Value)} {acc : Array Value} (h : ItemsOf (KeyP prog w kvs) acc kvs.length) : IntsAre acc.toList (kvs.map (·.1)) :=
  ints_of (by rw [Array.length_toList]; exact h.1) fun j v e => h.2 j v (by rw [← Array.getElem?_toList]; exact e)

theorem Keep.nil_fr {h h' : Heap} (F : Fr g L h m) (N : News g L h news) (K : ∀ b o, h.get? b = some o → h'.get? b = some o) : Fr g L h' m ∧ News g L h' news :=
  keep_all F N fun b o _ e => K b o e

/-- list(c) -/
theorem list_own {Q : Value → Shared → Prop} {c dc d x : Addr} {cnt cap : Int} {tc tcap tth : Tok} {od : Obj} {kvs : List (Int × Value)}
    (F : Fr g L s.heap m) (X : (Mine.hd.heap_39 w.params).In g) (T : Top Mine.hd.view_39 (looseW Mine.hd.view_39 [Str.ofString "itemgetter", Str.ofString "LRUCache"]) mean mg mb g) (N : News g L s.heap news)
    (hroom : A.depth < 750) (hh : A.handled = none) (Z : Seen news c dc d x cnt cap tc tcap tth od prog w kvs)
    (hQ : ∀ (D : Addr) (e : Nat) (vs : List Value) h' tk, Fr g L h' m → News g L h' ((D, PySem.W.listOf vs.toArray e) :: news) → (∀ q ∈ news, q.1 < D) → IntsAre vs (kvs.map (·.1)) → Q (.ref D) { s with heap := h', toks := tk }) :
    wpAny (model prog w) A (call (.type "list") [.ref c]) Q E s := by
  refine callType_codes (Q₁ := fun obj s₁ => obj = .ref s.heap.objs.size ∧ s₁ = { s with heap := s.heap.push { cls := .type "list", data := .seq #[] } }) PySem.F.called_list (PySem.F.typeCall_list_1 _) PySem.F.entry_list_init
    (code_list_new _ ⟨rfl, rfl⟩) fun obj s₁ h₁ => ?_
  obtain ⟨rfl, rfl⟩ := h₁
  have hS : (s.heap.push { cls := .type "list", data := .seq #[] }).get? s.heap.objs.size = some { cls := .type "list", data := .seq #[] } := Heap.get?_push_size _ rfl
  refine ⟨⟨_, hS, rfl⟩, PySem.F.args_list_init_2 _ _, ?_⟩
  show wpAny _ _ (do let old ← Builtin.List.listItems (.ref s.heap.objs.size); Builtin.List.listUpdate (.ref s.heap.objs.size) (fun _ => #[]); letGo old.toList.reverse; Builtin.List.listExtendWith (.ref s.heap.objs.size) (.ref c) .none) _ _ _
  refine wpAny_bind ?_
  unfold Builtin.List.listItems
  refine wpAny_bind (wpAny_seqItems hS rfl (wpAny_pure ?_))
  show wpAny _ _ (updateSeq s.heap.objs.size (fun _ => #[]) >>= fun _ => letGo (#[] : Array Value).toList.reverse >>= fun _ => Builtin.List.listExtendWith (.ref s.heap.objs.size) (.ref c) .none) _ _ _
  refine wpAny_bind (wpAny_updateSeq hS rfl ?_)
  have hS₂ := Heap.get?_update_self (Obj.mapSeq (fun _ => (#[] : Array Value))) hS rfl
  have K0 : ∀ b o, s.heap.get? b = some o → ((s.heap.push { cls := .type "list", data := .seq #[] }).update s.heap.objs.size (Obj.mapSeq (fun _ => (#[] : Array Value)))).get? b = some o :=
    fun b o e => (Heap.get?_update_other _ _ (Nat.ne_of_gt (Heap.lt_size e))).trans (Heap.get?_push_of_some _ e)
  obtain ⟨F0, N0⟩ := Keep.nil_fr F N K0
  refine wpAny_bind (wpAny_letGo ?_)
  refine ext_own (A := A.in1) (s := { s with heap := (s.heap.push { cls := .type "list", data := .seq #[] }).update s.heap.objs.size (Obj.mapSeq (fun _ => (#[] : Array Value))) })
    F0 X T N0 hroom hh Z hS₂ (fun p hp => Nat.ne_of_lt (Heap.lt_size (N p hp).1)) (fun h' tk acc' c' K e hacc => ?_)
  refine ⟨rfl, ?_⟩
  have K1 : ∀ b o, s.heap.get? b = some o → h'.get? b = some o := fun b o e1 => K b o (fun z => by
    have := Heap.lt_size e1
    rw [List.mem_singleton.mp z] at this
    exact absurd this (Nat.lt_irrefl _)) (K0 b o e1)
  have F1 := (Keep.nil_fr F N K1).1
  refine hQ _ c' acc'.toList h' tk F1 (news_pushed F N K1 (by rw [e]) rfl) (fun q hq => Heap.lt_size (N q hq).1) (ints_acc hacc)

/-- sorted(c) -/
theorem sorted_own {Q : Value → Shared → Prop} {c dc d x : Addr} {cnt cap : Int} {tc tcap tth : Tok} {od : Obj} {kvs : List (Int × Value)}
    (F : Fr g L s.heap m) (X : (Mine.hd.heap_39 w.params).In g) (T : Top Mine.hd.view_39 (looseW Mine.hd.view_39 [Str.ofString "itemgetter", Str.ofString "LRUCache"]) mean mg mb g) (N : News g L s.heap news)
    (hroom : A.depth < 750) (hh : A.handled = none) (Z : Seen news c dc d x cnt cap tc tcap tth od prog w kvs) (h64 : kvs.length < 64)
    (hQ : ∀ (D : Addr) (e : Nat) (vs : List Value) (ns : List Int) h' tk, Fr g L h' m → News g L h' ((D, PySem.W.listOf vs.toArray e) :: news) → (∀ q ∈ news, q.1 < D) → IntsAre vs ns → ns.Perm (kvs.map (·.1)) → ns.Pairwise (· ≤ ·) → Q (.ref D) { s with heap := h', toks := tk }) :
    wpAny (model prog w) A (call (.builtin "sorted") [.ref c]) Q E s := by
  refine Calls.call_function_entry kind_sorted plain_sorted entry_sorted (args_sorted1 _) ?_
  unfold Builtin.«sorted»
  refine wpAny_bind (m := checkCount "sorted" 1 1 _) (wpAny_pure ?_)
  have main : ∀ (h' : Heap) (tk : Nat) (acc : Array Value), (∀ b o, s.heap.get? b = some o → h'.get? b = some o) → ItemsOf (KeyP prog w kvs) acc kvs.length →
      wpAny (model prog w) A.in1 (newList acc.toList >>= fun l => holding [l] (call (.builtin "list.sort") [l]) >>= fun _ => PySem.ret l) (fun (fin : PySem.Fin) s' => ∃ v, fin = PySem.Fin.done (.ret v) ∧ Q v s') (fun e s' => E e s') { s with heap := h', toks := tk } := by
    intro h' tk acc hk hacc
    have hI := ints_acc hacc
    have hl : acc.toList.length = kvs.length := by rw [Array.length_toList]; exact hacc.1
    refine wpAny_bind (wpAny_newList ?_ (by rw [hl, sizeLine_eq]; omega))
    have hoL : (h'.push (seqObj "list" acc.toList.toArray 0)).get? h'.objs.size = some (seqObj "list" acc.toList.toArray 0) := Heap.get?_push_size _ rfl
    refine wpAny_bind (wpAny_holding (wpAny_call_entry PyProof.Rows.slot_list_sort ⟨_, hoL, rfl⟩ PyProof.Rows.entry_list_sort (list_sort_tree hoL hI (by rw [hl]; exact h64) fun out ns' a1 a2 a3 => ⟨_, rfl, ?_⟩) (args_list_sort _)))
    have K2 : ∀ b o, h'.get? b = some o → (sortedHeap (h'.push (seqObj "list" acc.toList.toArray 0)) h'.objs.size acc.toList out).get? b = some o := fun b o e => by
      rw [sortedHeap_old (Nat.ne_of_lt (Heap.lt_size e)) (by rw [size_push']; exact Nat.lt_succ_of_lt (Heap.lt_size e))]
      exact Heap.get?_push_of_some _ e
    obtain ⟨e, he⟩ := sortedHeap_at (out := out) hoL
    obtain ⟨F1, N1⟩ := Keep.nil_fr F N hk
    obtain ⟨F2, N2⟩ := Keep.nil_fr F1 N1 K2
    exact wpAny_pure ⟨_, rfl, hQ _ e out.toList ns' _ _ F2 (news_pushed (s := { s with heap := h' }) F1 N1 K2 (by rw [he]) rfl) (fun q hq => Heap.lt_size (N1 q hq).1) a1 a2 a3⟩
  refine wpAny_bind ?_
  unfold collect
  refine wpAny_bind (wpAny_runValue (codeAny_builtin entry_proto_collect' ?_))
  rw [Around.under_plainId PySem.F.plain_proto_collect _]
  show wpAny _ A.in1.in1 (newList [] >>= fun l => again (.builtin "list.__iadd__" ⟨[l, .ref c], []⟩)) _ _ s
  refine wpAny_bind (wpAny_newObj_type ?_)
  refine wpAny_pure ⟨plainId_quiet PySem.F.plain_list_iadd _, codeAny_builtin entry_list_iadd' ?_⟩
  rw [Around.under_plainId PySem.F.plain_list_iadd _]
  have hS₁ : (s.heap.push { cls := .type "list", data := .seq ([] : List Value).toArray }).get? s.heap.objs.size = some { cls := .type "list", data := .seq #[] } := Heap.get?_push_size _ rfl
  show wpAny _ A.in1.in1 (Builtin.List.listExtendWith (.ref s.heap.objs.size) (.ref c) (.ref s.heap.objs.size)) _ _ _
  have K0 : ∀ b o, s.heap.get? b = some o → (s.heap.push { cls := .type "list", data := .seq ([] : List Value).toArray }).get? b = some o := fun b o e => Heap.get?_push_of_some _ e
  obtain ⟨F0, N0⟩ := Keep.nil_fr F N K0
  have key := ext_own (A := A.in1) (s := { s with heap := s.heap.push { cls := .type "list", data := .seq ([] : List Value).toArray } })
    (R := fun (q : Result) (s' : Shared) => ∃ (h' : Heap) (tk : Nat) (acc' : Array Value) (c' : Nat), q = .ok (.ret (.ref s.heap.objs.size)) ∧ s' = { s with heap := h', toks := tk } ∧
      (∀ b o, s.heap.get? b = some o → h'.get? b = some o) ∧ h'.get? s.heap.objs.size = some { cls := .type "list", dict := none, data := .seq acc' c', slots := #[] } ∧ ItemsOf (KeyP prog w kvs) acc' kvs.length)
    (res := .ref s.heap.objs.size) F0 X T N0 hroom hh Z hS₁ (fun p hp => Nat.ne_of_lt (Heap.lt_size (N p hp).1)) (fun h' tk acc' c' K e hacc => ⟨h', tk, acc', c', rfl, rfl, fun b o e1 => K b o (fun z => by
      have := Heap.lt_size e1
      rw [List.mem_singleton.mp z] at this
      exact absurd this (Nat.lt_irrefl _)) (K0 b o e1), e, hacc⟩)
  refine wpAny_mono key (fun fin s' x => ?_) fun e s' x => ?_
  · cases fin with
    | done f =>
      obtain ⟨h', tk, acc', c', e, rfl, hk, hS', hacc⟩ := x
      cases e
      show wpAny _ A.in1 (load s.heap.objs.size >>= _) _ _ _
      refine wpAny_bind (wpAny_load hS' ?_)
      exact wpAny_pure (main h' tk acc' hk hacc)
    | again c₁ =>
      refine ⟨x.1, codeAny_mono x.2 fun q s₂ y => ?_⟩
      obtain ⟨h', tk, acc', c', rfl, rfl, hk, hS', hacc⟩ := y
      show wpAny _ A.in1 (load s.heap.objs.size >>= _) _ _ _
      refine wpAny_bind (wpAny_load hS' ?_)
      exact wpAny_pure (main h' tk acc' hk hacc)
  · obtain ⟨_, _, _, _, e', _⟩ := x
    cases e'
end


section
variable {prog : Program} {w : World} {A : Around} {s : Shared} {mean : ExcName → Option Value} {mg mb : Str → Option Value} {g : Heap} {L : Addr} {m : Str → Option Value} {news : List (Addr × Obj)} {E : Value → Shared → Prop} {Q : Value → Shared → Prop}
local macro_rules | `(tactic| k_room) => `(tactic| ((try simp only [depth_under_make, depth_under_kw, depth_in1, depth_deeper, depth_caller] at *); (try simp only [recursionLimit] at *); omega))

theorem Upd.mem {d : Addr} {o o' : Obj} {l l' : List (Addr × Obj)} (U : Upd d o o' l l') {p : Addr × Obj} (hp : p ∈ l') : p = (d, o') ∨ (p ∈ l ∧ p.1 ≠ d) := by
  obtain ⟨pre, post, rfl, rfl, h1, h2⟩ := U.split
  rcases List.mem_append.mp hp with q | q
  · exact .inr ⟨List.mem_append_left _ q, h1 _ q⟩
  · rcases List.mem_cons.mp q with q | q
    · exact .inl q
    · exact .inr ⟨List.mem_append_right _ (.tail _ q), h2 _ q⟩
theorem UpdF.mem {d : Addr} {o o' : Obj} {l : List (Addr × Obj)} {u : Obj → List (Addr × Obj)} (U : UpdF d o l u) {p : Addr × Obj} (hp : p ∈ u o') : p = (d, o') ∨ (p ∈ l ∧ p.1 ≠ d) := by
  obtain ⟨pre, post, rfl, e, h1, h2⟩ := U.split
  rw [e] at hp
  rcases List.mem_append.mp hp with q | q
  · exact .inr ⟨List.mem_append_left _ q, h1 _ q⟩
  · rcases List.mem_cons.mp q with q | q
    · exact .inl q
    · exact .inr ⟨List.mem_append_right _ (.tail _ q), h2 _ q⟩
theorem UpdF.fst {d : Addr} {o : Obj} {l : List (Addr × Obj)} {u : Obj → List (Addr × Obj)} (U : UpdF d o l u) : (d, o) ∈ l := by
  obtain ⟨pre, post, rfl, -, -, -⟩ := U.split; simp

/-- a ledger after a step that keeps all but some of its addresses -/
theorem keep_move {h h' : Heap} {as : List Addr} {news' : List (Addr × Obj)} (F : Fr g L h m) (N : News g L h news) (K : Keep as h h') (ha : ∀ a ∈ as, ∃ o, (a, o) ∈ news)
    (hm : ∀ p ∈ news', (p ∈ news ∧ p.1 ∉ as) ∨ (h'.get? p.1 = some p.2 ∧ (p.1 ∈ as ∨ h.get? p.1 = none))) : Fr g L h' m ∧ News g L h' news' := by
  obtain ⟨oL, es, ep, hL, r⟩ := F.ns
  have hx : ∀ a ∈ as, a ≠ L ∧ g.get? a = none := fun a q => by obtain ⟨o, q'⟩ := ha a q; exact (N _ q').2
  refine ⟨⟨⟨oL, es, ep, K _ _ (fun z => (hx _ z).1 rfl) hL, r⟩, fun b o e => K _ _ (fun z => by rw [(hx _ z).2] at e; cases e) (F.keep b o e), F.above⟩, fun p hp => ?_⟩
  rcases hm p hp with ⟨q, n⟩ | ⟨e, q | q⟩
  · exact ⟨K _ _ n (N p q).1, (N p q).2⟩
  · exact ⟨e, hx _ q⟩
  · refine ⟨e, fun z => ?_, ?_⟩
    · rw [z, hL] at q; cases q
    · cases z : g.get? p.1 with
      | none => rfl
      | some o => rw [F.keep _ _ z] at q; cases q

def AllNe (d : Nat) : List (Addr × Obj) → Prop
  | [] => True
  | p :: r => @Ne Nat p.1 d ∧ AllNe d r
theorem allNe_of {h : Heap} {d : Addr} (hd : h.get? d = none) : ∀ {l : List (Addr × Obj)}, (∀ p ∈ l, h.get? p.1 = some p.2) → AllNe d l
  | [], _ => trivial
  | p :: _, N => ⟨(fun z => by have := N p (.head _); rw [z, hd] at this; cases this), allNe_of hd fun q hq => N q (.tail _ hq)⟩
theorem AllNe.all {d : Nat} {l : List (Addr × Obj)} : AllNe d l → ∀ p ∈ l, p.1 ≠ d := by
  induction l with
  | nil => intro _ p hp; exact absurd hp List.not_mem_nil
  | cons a r ih =>
    intro h p hp
    rcases List.mem_cons.mp hp with e | hp
    · rw [e]; exact h.1
    · exact ih h.2 p hp

theorem get_hit_walk {c dc d x t l : Addr} {cnt cap nm vl ct key : Int} {tc tcap tth tn tv tl tk : Tok} {ep : Nat} {od : Obj} {kvs : List (Int × Value)} {n1 : Tok → List (Addr × Obj)} {n2 : Tok → Tok → List (Addr × Obj)}
    (F : Fr g L s.heap m) (X : (Mine.hd.heap_39 w.params).In g) (T : Top Mine.hd.view_39 (looseW Mine.hd.view_39 [Str.ofString "itemgetter", Str.ofString "LRUCache"]) mean mg mb g) (N : News g L s.heap news) (hroom : A.depth < 750)
    (U1 : ∀ t1, Upd c (cacheObj dc cnt tc d x cap tcap tth) (cacheObj dc (cnt + 1) t1 d x cap tcap tth) news (n1 t1)) (U2 : ∀ t1 t2, Upd l (ctrObj ct tl ep) (ctrObj (cnt + 1) t2 ep) (n1 t1) (n2 t1 t2))
    (hdc : (dc, dictOf [] 0) ∈ news) (hd : (d, od) ∈ news) (ht : (t, tupObj nm tn vl tv l) ∈ news) (hl : (l, ctrObj ct tl ep) ∈ news) (hod : od.IsDictOf (PySem.intKind prog w) kvs) (lo : (d == sysModules) = false) (hv : valueAt kvs key = some (.ref t)) (hnd : [c, dc, d, t, l].Nodup)
    (h : ∀ h' tk t1 t2, Fr g L h' m → News g L h' (n2 t1 t2) → Q (.int vl tv) { s with heap := h', toks := tk }) :
    wpAny (model prog w) A (call (.ref 131) [.ref c, .int key tk]) Q E s := by
  have a1 := N _ (Upd.fst (U1 0))
  have a2 := N _ hdc
  have a3 := N _ hd
  have a4 := N _ ht
  have a5 := N _ hl
  refine wpAny_call (get_hit_code ⟨X, T⟩ F.keep (by k_room) a1.1 a1.2.2 a2.1 a2.2.2 a3.1 a3.2.2 hod lo hv a4.1 a4.2.2 a5.1 a5.2.2 hnd fun h' tk t1 t2 K e1 e2 => ?_)
  obtain ⟨F', N'⟩ := keep_move (news' := n2 t1 t2) F N K (by
    intro a ha
    rcases List.mem_cons.mp ha with rfl | ha
    · exact ⟨_, Upd.fst (U1 0)⟩
    · rw [List.mem_singleton.mp ha]; exact ⟨_, hl⟩) (fun p hp => by
    rcases Upd.mem (U2 t1 t2) hp with rfl | ⟨hp, n⟩
    · exact .inr ⟨e2, .inl (.tail _ (.head _))⟩
    · rcases Upd.mem (U1 t1) hp with rfl | ⟨hp, n'⟩
      · exact .inr ⟨e1, .inl (.head _)⟩
      · refine .inl ⟨hp, fun z => ?_⟩
        rcases List.mem_cons.mp z with z | z
        · exact n' z
        · exact n (List.mem_singleton.mp z))
  exact h h' tk t1 t2 F' N'

theorem getitem_walk {c dc d x t l : Addr} {cnt cap nm vl ct key : Int} {tc tcap tth tn tv tl tk : Tok} {ep : Nat} {od : Obj} {kvs : List (Int × Value)} {n1 : Tok → List (Addr × Obj)} {n2 : Tok → Tok → List (Addr × Obj)}
    (F : Fr g L s.heap m) (X : (Mine.hd.heap_39 w.params).In g) (T : Top Mine.hd.view_39 (looseW Mine.hd.view_39 [Str.ofString "itemgetter", Str.ofString "LRUCache"]) mean mg mb g) (N : News g L s.heap news) (hroom : A.depth < 750)
    (U1 : ∀ t1, Upd c (cacheObj dc cnt tc d x cap tcap tth) (cacheObj dc (cnt + 1) t1 d x cap tcap tth) news (n1 t1)) (U2 : ∀ t1 t2, Upd l (ctrObj ct tl ep) (ctrObj (cnt + 1) t2 ep) (n1 t1) (n2 t1 t2))
    (hdc : (dc, dictOf [] 0) ∈ news) (hd : (d, od) ∈ news) (ht : (t, tupObj nm tn vl tv l) ∈ news) (hl : (l, ctrObj ct tl ep) ∈ news) (hod : od.IsDictOf (PySem.intKind prog w) kvs) (lo : (d == sysModules) = false) (hv : valueAt kvs key = some (.ref t)) (hnd : [c, dc, d, t, l].Nodup)
    (h : ∀ h' tk t1 t2, Fr g L h' m → News g L h' (n2 t1 t2) → Q (.int vl tv) { s with heap := h', toks := tk }) :
    wpAny (model prog w) A (call (.ref 138) [.ref c, .int key tk]) Q E s := by
  have a1 := N _ (Upd.fst (U1 0))
  have a2 := N _ hdc
  have a3 := N _ hd
  have a4 := N _ ht
  have a5 := N _ hl
  refine wpAny_call (getitem_code ⟨X, T⟩ F.keep (by k_room) a1.1 a1.2.2 a2.1 a2.2.2 a3.1 a3.2.2 hod lo hv a4.1 a4.2.2 a5.1 a5.2.2 hnd fun h' tk t1 t2 K e1 e2 => ?_)
  obtain ⟨F', N'⟩ := keep_move (news' := n2 t1 t2) F N K (by
    intro a ha
    rcases List.mem_cons.mp ha with rfl | ha
    · exact ⟨_, Upd.fst (U1 0)⟩
    · rw [List.mem_singleton.mp ha]; exact ⟨_, hl⟩) (fun p hp => by
    rcases Upd.mem (U2 t1 t2) hp with rfl | ⟨hp, n⟩
    · exact .inr ⟨e2, .inl (.tail _ (.head _))⟩
    · rcases Upd.mem (U1 t1) hp with rfl | ⟨hp, n'⟩
      · exact .inr ⟨e1, .inl (.head _)⟩
      · refine .inl ⟨hp, fun z => ?_⟩
        rcases List.mem_cons.mp z with z | z
        · exact n' z
        · exact n (List.mem_singleton.mp z))
  exact h h' tk t1 t2 F' N'

theorem get_miss_walk {c dc d x : Addr} {cnt cap key : Int} {tc tcap tth tk : Tok} {od : Obj} {kvs : List (Int × Value)}
    (F : Fr g L s.heap m) (X : (Mine.hd.heap_39 w.params).In g) (T : Top Mine.hd.view_39 (looseW Mine.hd.view_39 [Str.ofString "itemgetter", Str.ofString "LRUCache"]) mean mg mb g) (N : News g L s.heap news) (hroom : A.depth < 750)
    (hc : (c, cacheObj dc cnt tc d x cap tcap tth) ∈ news) (hdc : (dc, dictOf [] 0) ∈ news) (hd : (d, od) ∈ news) (hod : od.IsDictOf (PySem.intKind prog w) kvs) (lo : (d == sysModules) = false) (hv : valueAt kvs key = none)
    (h : ∀ h' tk, Fr g L h' m → News g L h' news → Q .none { s with heap := h', toks := tk }) :
    wpAny (model prog w) A (call (.ref 131) [.ref c, .int key tk]) Q E s := by
  have a1 := N _ hc
  have a2 := N _ hdc
  have a3 := N _ hd
  refine wpAny_call (get_miss_code ⟨X, T⟩ F.keep (by k_room) a1.1 a1.2.2 a2.1 a2.2.2 a3.1 a3.2.2 hod lo hv fun h' tk K => ?_)
  obtain ⟨F', N'⟩ := keep_all F N K
  exact h h' tk F' N'

theorem set_stay_walk {c dc d x dx : Addr} {cnt cap key vl : Int} {tc tcap tth th tk tv : Tok} {od : Obj} {kvs : List (Int × Value)} {n1 : Tok → List (Addr × Obj)} {n2 : Tok → Obj → List (Addr × Obj)}
    (F : Fr g L s.heap m) (X : (Mine.hd.heap_39 w.params).In g) (T : Top Mine.hd.view_39 (looseW Mine.hd.view_39 [Str.ofString "itemgetter", Str.ofString "LRUCache"]) mean mg mb g) (N : News g L s.heap news) (hroom : A.depth < 750)
    (U1 : ∀ t1, Upd c (cacheObj dc cnt tc d x cap tcap tth) (cacheObj dc (cnt + 1) t1 d x cap tcap tth) news (n1 t1)) (U2 : ∀ t1, UpdF d od (n1 t1) (n2 t1))
    (hdc : (dc, dictOf [] 0) ∈ news) (hd : (d, od) ∈ news) (hx : (x, lockObj dx) ∈ news) (hdx : (dx, heldObj w.params th false) ∈ news) (hod : od.IsDictOf (PySem.intKind prog w) kvs) (lo : (d == sysModules) = false) (hkl : kvs.length ≤ 100) (hnd : [c, dc, d, x, dx].Nodup)
    (hcap : ∀ t : Addr, ((stored kvs key (.ref t)).length : Int) ≤ cap) (hcap2 : cap ≤ 100)
    (h : ∀ h' tk' t1 (t l : Addr) tl od', Fr g L h' m → News g L h' ((t, tupObj key tk vl tv l) :: (l, ctrObj (cnt + 1) tl 0) :: n2 t1 od') → od'.IsDictOf (PySem.intKind prog w) (stored kvs key (.ref t)) → AllNe t news → AllNe l news → s.heap.get? t = none → s.heap.get? l = none → Q .none { s with heap := h', toks := tk' }) :
    wpAny (model prog w) A (call (.ref 159) [.ref c, .int key tk, .int vl tv]) Q E s := by
  have a1 := N _ (Upd.fst (U1 0))
  have a2 := N _ hdc
  have a3 := N _ hd
  have a4 := N _ hx
  have a5 := N _ hdx
  refine wpAny_call (setitem_stay_code ⟨X, T⟩ F.keep (by k_room) a1.1 a1.2.2 a2.1 a2.2.2 a3.1 a3.2.2 hod lo hkl a4.1 a4.2.2 a5.1 a5.2.2 hnd hcap hcap2 fun h' tk' t1 t l tl od' K e1 e2 hod' ht hl et el => ?_)
  obtain ⟨F', N'⟩ := keep_move (news' := (t, tupObj key tk vl tv l) :: (l, ctrObj (cnt + 1) tl 0) :: n2 t1 od') F N K (by
    intro a ha
    rcases List.mem_cons.mp ha with rfl | ha
    · exact ⟨_, Upd.fst (U1 0)⟩
    · rw [List.mem_singleton.mp ha]; exact ⟨_, hd⟩) (fun p hp => by
    rcases List.mem_cons.mp hp with rfl | hp
    · exact .inr ⟨et, .inr ht⟩
    rcases List.mem_cons.mp hp with rfl | hp
    · exact .inr ⟨el, .inr hl⟩
    rcases UpdF.mem (U2 t1) hp with rfl | ⟨hp, n⟩
    · exact .inr ⟨e2, .inl (.tail _ (.head _))⟩
    · rcases Upd.mem (U1 t1) hp with rfl | ⟨hp, n'⟩
      · exact .inr ⟨e1, .inl (.head _)⟩
      · refine .inl ⟨hp, fun z => ?_⟩
        rcases List.mem_cons.mp z with z | z
        · exact n' z
        · exact n (List.mem_singleton.mp z))
  exact h h' tk' t1 t l tl od' F' N' hod' (allNe_of ht fun p hp => (N p hp).1) (allNe_of hl fun p hp => (N p hp).1) ht hl

theorem set_evict_walk {c dc d x dx : Addr} {cnt cap key vl : Int} {tc tcap tth th tk tv : Tok} {od : Obj} {kvs : List (Int × Value)} {es : List Ent} {e0 : Ent} {n : Nat} {rest : List (Addr × Obj)} {n1 : Tok → List (Addr × Obj)} {n2 : Tok → Obj → List (Addr × Obj)}
    (F : Fr g L s.heap m) (X : (Mine.hd.heap_39 w.params).In g) (T : Top Mine.hd.view_39 (looseW Mine.hd.view_39 [Str.ofString "itemgetter", Str.ofString "LRUCache"]) mean mg mb g) (N : News g L s.heap news) (hroom : A.depth < 750)
    (U1 : ∀ t1, Upd c (cacheObj dc cnt tc d x cap tcap tth) (cacheObj dc (cnt + 1) t1 d x cap tcap tth) news (n1 t1)) (U2 : ∀ t1, UpdF d od (n1 t1) (n2 t1))
    (hdc : (dc, dictOf [] 0) ∈ news) (hd : (d, od) ∈ news) (hx : (x, lockObj dx) ∈ news) (hdx : (dx, heldObj w.params th false) ∈ news) (hod : od.IsDictOf (PySem.intKind prog w) kvs) (lo : (d == sysModules) = false) (hkl : kvs.length ≤ 100) (hnd : [c, dc, d, x, dx].Nodup)
    (hkv : kvs = kvsOf es) (habs : valueAt kvs key = none) (hh : A.handled = none) (hu : A.units + 110 < cLine)
    (hsub : ∀ p ∈ rest, p ∈ news) (hes : ∀ e ∈ es, (e.t, e.tup) ∈ rest ∧ (e.l, e.ctr) ∈ rest) (hct : (es.map (·.ct)).Nodup) (hcb : ∀ e ∈ es, e.ct < cnt + 1) (htn : (es.map (·.t)).Nodup)
    (h0 : e0 ∈ es) (hmin : ∀ e ∈ es, e0.ct ≤ e.ct) (hn : es.length = n) (h1 : 1 ≤ n) (hcap : cap = (n : Int)) (h50 : n < 50)
    (h : ∀ h' tk' t1 (t l : Addr) tl od', Fr g L h' m → News g L h' ((t, tupObj key tk vl tv l) :: (l, ctrObj (cnt + 1) tl 0) :: n2 t1 od') → od'.IsDictOf (PySem.intKind prog w) (without (kvs ++ [(key, .ref t)]) e0.nm) → AllNe t news → AllNe l news → s.heap.get? t = none → s.heap.get? l = none → Q .none { s with heap := h', toks := tk' }) :
    wpAny (model prog w) A (call (.ref 159) [.ref c, .int key tk, .int vl tv]) Q E s := by
  have a1 := N _ (Upd.fst (U1 0))
  have a2 := N _ hdc
  have a3 := N _ hd
  have a4 := N _ hx
  have a5 := N _ hdx
  refine wpAny_call (setitem_evict_code ⟨X, T⟩ F.keep (by k_room) a1.1 a1.2.2 a2.1 a2.2.2 a3.1 a3.2.2 hod lo hkl a4.1 a4.2.2 a5.1 a5.2.2 hnd hkv habs hh hu (fun e he => (N _ (hsub _ (hes e he).1)).1) (fun e he => (N _ (hsub _ (hes e he).1)).2.2) (fun e he => (N _ (hsub _ (hes e he).2)).1) hct hcb htn h0 hmin hn h1 hcap h50 fun h' tk' t1 t l tl od' K e1 e2 hod' ht hl et el => ?_)
  obtain ⟨F', N'⟩ := keep_move (news' := (t, tupObj key tk vl tv l) :: (l, ctrObj (cnt + 1) tl 0) :: n2 t1 od') F N K (by
    intro a ha
    rcases List.mem_cons.mp ha with rfl | ha
    · exact ⟨_, Upd.fst (U1 0)⟩
    · rw [List.mem_singleton.mp ha]; exact ⟨_, hd⟩) (fun p hp => by
    rcases List.mem_cons.mp hp with rfl | hp
    · exact .inr ⟨et, .inr ht⟩
    rcases List.mem_cons.mp hp with rfl | hp
    · exact .inr ⟨el, .inr hl⟩
    rcases UpdF.mem (U2 t1) hp with rfl | ⟨hp, n⟩
    · exact .inr ⟨e2, .inl (.tail _ (.head _))⟩
    · rcases Upd.mem (U1 t1) hp with rfl | ⟨hp, n'⟩
      · exact .inr ⟨e1, .inl (.head _)⟩
      · refine .inl ⟨hp, fun z => ?_⟩
        rcases List.mem_cons.mp z with z | z
        · exact n' z
        · exact n (List.mem_singleton.mp z))
  exact h h' tk' t1 t l tl od' F' N' hod' (allNe_of ht fun p hp => (N p hp).1) (allNe_of hl fun p hp => (N p hp).1) ht hl
end


/-- the law's text, by its place in the given program -/
def lawParts : List Stmt × Scope := match PySem.Challenge.pw_ae5043_01.main.body.getLast? with
  | some (.FunctionDef _ _ body _ _ _ scope _ _ _) => (body, scope)
  | _ => ([], default)
def loopBody : List Stmt → List Stmt
  | [] => []
  | .For _ _ body _ _ :: _ => body
  | _ :: r => loopBody r
def outerBody : List Stmt := loopBody lawParts.1
def innerBody : List Stmt := loopBody outerBody
def lawScope : Scope := lawParts.2
/-- the frame's names at an inner turn -/
abbrev frm (CL LL O El : Addr) (vf vn vk : Value) (u : Str → Option Value) : Str → Option Value := fun y =>
  if y = Str.ofString "k" then some vk else if y = Str.ofString "caches" then some (.ref CL) else if y = Str.ofString "laid" then some (.ref LL) else if y = Str.ofString "order" then some (.ref O)
  else if y = Str.ofString "elder" then some (.ref El) else if y = Str.ofString "far" then some vf else if y = Str.ofString "n" then some vn else u y
theorem frm_self {CL LL O El : Addr} {vf vn vk : Value} {m : Str → Option Value} (h1 : m (Str.ofString "k") = some vk) (h2 : m (Str.ofString "caches") = some (.ref CL)) (h3 : m (Str.ofString "laid") = some (.ref LL))
    (h4 : m (Str.ofString "order") = some (.ref O)) (h5 : m (Str.ofString "elder") = some (.ref El)) (h6 : m (Str.ofString "far") = some vf) (h7 : m (Str.ofString "n") = some vn) : m = frm CL LL O El vf vn vk m := by
  funext y
  unfold frm
  split
  · rename_i e; rw [e, h1]
  split
  · rename_i e; rw [e, h2]
  split
  · rename_i e; rw [e, h3]
  split
  · rename_i e; rw [e, h4]
  split
  · rename_i e; rw [e, h5]
  split
  · rename_i e; rw [e, h6]
  split
  · rename_i e; rw [e, h7]
  rfl
section
variable {prog : Program} {w : World} {A : Around} {s : Shared} {mean : ExcName → Option Value} {mg mb : Str → Option Value} {g : Heap} {L fa : Addr} {cd : Value} {E : Value → Shared → Prop} {Q : Value → Shared → Prop} {m : Str → Option Value} {news : List (Addr × Obj)}

theorem fr_frm {h : Heap} {CL LL O El : Addr} {vf vn vk : Value} (F : Fr g L h m) (h1 : m (Str.ofString "k") = some vk) (h2 : m (Str.ofString "caches") = some (.ref CL)) (h3 : m (Str.ofString "laid") = some (.ref LL))
    (h4 : m (Str.ofString "order") = some (.ref O)) (h5 : m (Str.ofString "elder") = some (.ref El)) (h6 : m (Str.ofString "far") = some vf) (h7 : m (Str.ofString "n") = some vn) : Fr g L h (frm CL LL O El vf vn vk m) := by
  have e := frm_self h1 h2 h3 h4 h5 h6 h7
  rw [← e]; exact F
theorem item_ref {value slice : PySem.Expr} {D : Addr} {its : Array Value} {n i : Nat} {u : Tok} {v : Value} (N : News g L s.heap news) (hm : (D, PySem.W.listOf its n) ∈ news) (hi : its[i]? = some v) (hsz : its.size ≤ 1000)
    (h : Q v s) (hs : subscripted slice false (.ref D) (.int (i : Nat) u) = operate [.ref D, .int (i : Nat) u] (getItem (.ref D) (.int (i : Nat) u)) := by with_unfolding_all rfl) :
    wpAny (model prog w) A (subscriptTail value slice (.ref D) (.int (i : Nat) u)) Q E s := by
  have hlt : i < its.size := by
    have := Array.getElem?_eq_some_iff.mp hi
    exact this.1
  have hl : s.heap.IsList D its := ⟨_, (N _ hm).1, rfl, _, rfl⟩
  exact tail_any hl.typeIs PySem.F.slot_list_getitem.lookup (wpAny_getItem_list hl (by omega) (by omega) (by simpa using hi) h) hs

theorem laid_own {value slice : PySem.Expr} {d : Addr} {o : Obj} {kvs : List (Int × Value)} {k : Int} {u : Tok} {v : Value} (N : News g L s.heap news) (hp : (d, o) ∈ news) (hd : o.IsDictOf (PySem.intKind prog w) kvs) (hv : valueAt kvs k = some v)
    (h : Q v { s with toks := s.toks + 1 }) (hs : subscripted slice false (.ref d) (.int k u) = operate [.ref d, .int k u] (getItem (.ref d) (.int k u)) := by with_unfolding_all rfl) :
    wpAny (model prog w) A (subscriptTail value slice (.ref d) (.int k u)) Q E s :=
  kdt_tail N hp hd (kdt_getItem N hp hd (intKind_is _ _ _ _) hv h) hs
theorem le_own {a b : Int} {t u : Tok} {r : Bool} (hr : decide (a ≤ b) = r) (h : Q (.bool r) s) : wpAny (model prog w) A (compareOp .LtE (.int a t) (.int b u)) Q E s := by
  subst hr; exact le_int h
theorem nei_own {a b : Int} {t u : Tok} (hr : a = b) (h : Q (.bool false) s) : wpAny (model prog w) A (compareOp .NotEq (.int a t) (.int b u)) Q E s := by
  refine ne_int ?_
  subst hr
  simpa using h
theorem kfi_ints : ∀ {vs : List Value} {ns : List Int}, IntsAre vs ns → kf_ints vs = true
  | _, _, .nil => rfl
  | _, _, .cons _ _ h => (kfi_ints h :)
theorem kfi_any {k : Int} : ∀ {vs : List Value} {ns : List Int}, IntsAre vs ns → vs.any (PyProof.Rows.isInt k) = ns.any fun x => x == k
  | _, _, .nil => rfl
  | _, _, .cons n t h => by
    rw [List.any_cons, List.any_cons, kfi_any h]
    rfl
theorem eqi_own {a b : Int} {t u : Tok} {r : Bool} (hr : decide (a = b) = r) (h : Q (.bool r) s) : wpAny (model prog w) A (compareOp .Eq (.int a t) (.int b u)) Q E s := by
  refine eq_int ?_
  subst hr
  by_cases z : a = b
  · subst z; simpa using h
  · have e : (a == b) = false := beq_false_of_ne z
    rw [e]
    simpa [z] using h
theorem in_own {D : Addr} {vs : List Value} {ns : List Int} {n : Nat} {k : Int} {t : Tok} {r : Bool} (N : News g L s.heap news) (hm : (D, PySem.W.listOf vs.toArray n) ∈ news) (hI : IntsAre vs ns) (hr : (ns.any fun x => x == k) = r) (h : Q (.bool r) s) :
    wpAny (model prog w) A (compareOp .In (.int k t) (.ref D)) Q E s :=
  kf_in N hm (by rw [List.toList_toArray]; exact kfi_ints hI) (by rw [List.toList_toArray, kfi_any hI]; exact hr) h
theorem sorted_same : ∀ {a b : List Int}, a.Perm b → a.Pairwise (· ≤ ·) → b.Pairwise (· ≤ ·) → a = b
  | [], b, p, _, _ => by rw [List.nil_perm.mp p]
  | x :: r, [], p, _, _ => by have := p.length_eq; simp at this
  | x :: r, y :: q, p, h1, h2 => by
    have a1 := (List.pairwise_cons.mp h1).1
    have a2 := (List.pairwise_cons.mp h2).1
    have hx : x ∈ y :: q := p.mem_iff.mp (.head _)
    have hy : y ∈ x :: r := p.mem_iff.mpr (.head _)
    have e : x = y := by
      rcases List.mem_cons.mp hx with z | z
      · exact z
      rcases List.mem_cons.mp hy with z' | z'
      · exact z'.symm
      have := a1 _ z'
      have := a2 _ z
      omega
    subst e
    rw [sorted_same ((List.perm_cons _).mp p) (List.pairwise_cons.mp h1).2 (List.pairwise_cons.mp h2).2]
theorem ne_own {D S : Addr} {vs us : List Value} {ns ms a b : List Int} {n c : Nat} (N : News g L s.heap news) (hm : (D, PySem.W.listOf vs.toArray n) ∈ news) (hs : (S, PySem.W.listOf us.toArray c) ∈ news) (hI : IntsAre vs ns) (hJ : IntsAre us ms) (hu : A.units + 64 < cLine)
    (p1 : ns.Perm a) (o1 : ns.Pairwise (· ≤ ·)) (p2 : ms.Perm b) (o2 : ms.Pairwise (· ≤ ·)) (p : a.Perm b) (h : Q (.bool false) s) :
    wpAny (model prog w) A (compareOp .NotEq (.ref D) (.ref S)) Q E s := by
  refine ne_intsK ⟨_, (N _ hm).1, rfl, _, rfl⟩ hI ⟨_, (N _ hs).1, rfl, _, rfl⟩ hJ hu ?_
  have e : ns = ms := sorted_same (p1.trans (p.trans p2.symm)) o1 o2
  rw [decide_eq_true e]
  exact h
theorem IntsAre.take : ∀ {vs : List Value} {ns : List Int}, IntsAre vs ns → ∀ k, IntsAre (vs.take k) (ns.take k)
  | _, _, .nil, k => by rw [List.take_nil, List.take_nil]; exact .nil
  | _, _, .cons n t h, 0 => .nil
  | _, _, .cons n t h, k + 1 => .cons n t (h.take k)
theorem slice_own {value slice : PySem.Expr} {D : Addr} {vs : List Value} {ns : List Int} {c k : Nat} {b : Int} {tb : Tok} (F : Fr g L s.heap m) (N : News g L s.heap news)
    (hD : (D, PySem.W.listOf vs.toArray c) ∈ news) (hI : IntsAre vs ns) (hb : b = (k : Int)) (h60 : ns.length ≤ 1000)
    (h : ∀ h' S (us : List Value), Fr g L h' m → News g L h' ((S, PySem.W.listOf us.toArray 0) :: news) → (∀ p ∈ news, p.1 < S) → IntsAre us (ns.take k) → Q (.ref S) { s with heap := h' })
    (hs : subscripted slice false (.ref D) (.ref s.heap.objs.size) = operate [.ref s.heap.objs.size, .ref D] (getItem (.ref D) (.ref s.heap.objs.size)) := by with_unfolding_all rfl)
    (ht : ∀ r, letTemporaryGo value (.ref D) r = pure () := by intro _; with_unfolding_all rfl) :
    wpAny (model prog w) A (subscriptTail value slice (.ref D) (.ref s.heap.objs.size)) Q E { s with heap := s.heap.push { cls := .type "slice", data := .fields #[.none, .int b tb, .none] } } := by
  have hl := hI.length
  refine slice_list F N (items := vs.toArray) ⟨_, (N _ hD).1, rfl, _, rfl⟩ .none (.int b tb) (fun h' F' N' => ?_) hs ht (by rw [List.size_toArray, sizeLine_eq]; omega)
  have e : slicePick vs.toArray none (some b) none = (vs.take k).toArray := by
    rw [hb, slicePick_upto', List.toList_toArray]
  rw [e] at N'
  exact h h' _ _ F' N' (fun p hp => Nat.lt_succ_of_lt (Heap.lt_size (N p hp).1)) (hI.take k)
theorem sorted_list {D : Addr} {vs : List Value} {ns : List Int} {c : Nat} (F : Fr g L s.heap m) (N : News g L s.heap news) (hD : (D, PySem.W.listOf vs.toArray c) ∈ news) (hI : IntsAre vs ns) (h64 : ns.length < 64)
    (h : ∀ S us ms c' h', Fr g L h' m → News g L h' ((S, PySem.W.listOf us.toArray c') :: news) → (∀ q ∈ news, q.1 < S) → IntsAre us ms → ms.Perm ns → ms.Pairwise (· ≤ ·) → Q (.ref S) { s with heap := h' }) :
    wpAny (model prog w) A (call (.builtin "sorted") [.ref D]) Q E s :=
  kso_sorted F N ⟨_, (N _ hD).1, rfl, _, rfl⟩ hI h64 fun S us ms c' h' F' N' l1 hJ _ p o _ => h S us ms c' h' F' N' l1 hJ p o

theorem set_stay_law {c dc d x dx : Addr} {cnt cap key vl : Int} {tc tcap tth th tk tv : Tok} {od : Obj} {kvs : List (Int × Value)} {n1 : Tok → List (Addr × Obj)} {n2 : Tok → Obj → List (Addr × Obj)} {ot : List Int}
    (F : Fr g L s.heap m) (X : (Mine.hd.heap_39 w.params).In g) (T : Top Mine.hd.view_39 (looseW Mine.hd.view_39 [Str.ofString "itemgetter", Str.ofString "LRUCache"]) mean mg mb g) (N : News g L s.heap news) (hroom : A.depth < 750)
    (U1 : ∀ t1, Upd c (cacheObj dc cnt tc d x cap tcap tth) (cacheObj dc (cnt + 1) t1 d x cap tcap tth) news (n1 t1)) (U2 : ∀ t1, UpdF d od (n1 t1) (n2 t1))
    (hdc : (dc, dictOf [] 0) ∈ news) (hd : (d, od) ∈ news) (hx : (x, lockObj dx) ∈ news) (hdx : (dx, heldObj w.params th false) ∈ news) (hod : od.IsDictOf (PySem.intKind prog w) kvs) (lo : (d == sysModules) = false) (hkl : kvs.length ≤ 100) (hnd : [c, dc, d, x, dx].Nodup)
    (hcap2 : cap ≤ 100) (hot : (ot.length : Int) ≤ cap) (hp2 : ∀ t : Addr, ((stored kvs key (.ref t)).map (·.1)).Perm ot)
    (h : ∀ h' tk' t1 (t l : Addr) tl od' kvs', Fr g L h' m → News g L h' ((t, tupObj key tk vl tv l) :: (l, ctrObj (cnt + 1) tl 0) :: n2 t1 od') → od'.IsDictOf (PySem.intKind prog w) kvs' → kvs' = stored kvs key (.ref t) → (kvs'.map (·.1)).Perm ot → kvs'.length = ot.length → AllNe t news → AllNe l news → @Ne Nat t l → Q .none { s with heap := h', toks := tk' }) :
    wpAny (model prog w) A (call (.ref 159) [.ref c, .int key tk, .int vl tv]) Q E s := by
  refine set_stay_walk F X T N hroom U1 U2 hdc hd hx hdx hod lo hkl hnd (fun t => ?_) hcap2 fun h' tk' t1 t l tl od' F' N' hd' a b _ _ => ?_
  · have := (hp2 t).length_eq
    rw [List.length_map] at this
    omega
  · have e := (hp2 t).length_eq
    rw [List.length_map] at e
    refine h h' tk' t1 t l tl od' _ F' N' hd' rfl (hp2 t) e a b fun z => ?_
    have q1 := (N' _ (.head _)).1
    have q2 := (N' _ (.tail _ (.head _))).1
    have z' : t = l := z
    subst z'
    rw [q1] at q2; simp at q2

theorem set_evict_law {c dc d x dx : Addr} {cnt cap key vl : Int} {tc tcap tth th tk tv : Tok} {od : Obj} {kvs : List (Int × Value)} {es : List Ent} {e0 : Ent} {n : Nat} {rest : List (Addr × Obj)} {n1 : Tok → List (Addr × Obj)} {n2 : Tok → Obj → List (Addr × Obj)} {ot : List Int}
    (F : Fr g L s.heap m) (X : (Mine.hd.heap_39 w.params).In g) (T : Top Mine.hd.view_39 (looseW Mine.hd.view_39 [Str.ofString "itemgetter", Str.ofString "LRUCache"]) mean mg mb g) (N : News g L s.heap news) (hroom : A.depth < 750)
    (U1 : ∀ t1, Upd c (cacheObj dc cnt tc d x cap tcap tth) (cacheObj dc (cnt + 1) t1 d x cap tcap tth) news (n1 t1)) (U2 : ∀ t1, UpdF d od (n1 t1) (n2 t1))
    (hdc : (dc, dictOf [] 0) ∈ news) (hd : (d, od) ∈ news) (hx : (x, lockObj dx) ∈ news) (hdx : (dx, heldObj w.params th false) ∈ news) (hod : od.IsDictOf (PySem.intKind prog w) kvs) (lo : (d == sysModules) = false) (hkl : kvs.length ≤ 100) (hnd : [c, dc, d, x, dx].Nodup)
    (hkv : kvs = kvsOf es) (habs : valueAt kvs key = none) (hh : A.handled = none) (hu : A.units + 110 < cLine)
    (hsub : ∀ p ∈ rest, p ∈ news) (hes : ∀ e ∈ es, (e.t, e.tup) ∈ rest ∧ (e.l, e.ctr) ∈ rest) (hct : (es.map (·.ct)).Nodup) (hcb : ∀ e ∈ es, e.ct < cnt + 1) (htn : (es.map (·.t)).Nodup)
    (h0 : e0 ∈ es) (hmin : ∀ e ∈ es, e0.ct ≤ e.ct) (hn : es.length = n) (h1 : 1 ≤ n) (hcap : cap = (n : Int)) (h50 : n < 50)
    (hp2 : ∀ t : Addr, ((without (kvs ++ [(key, .ref t)]) e0.nm).map (·.1)).Perm ot)
    (h : ∀ h' tk' t1 (t l : Addr) tl od' kvs', Fr g L h' m → News g L h' ((t, tupObj key tk vl tv l) :: (l, ctrObj (cnt + 1) tl 0) :: n2 t1 od') → od'.IsDictOf (PySem.intKind prog w) kvs' → kvs' = without (kvs ++ [(key, .ref t)]) e0.nm → (kvs'.map (·.1)).Perm ot → kvs'.length = ot.length → AllNe t news → AllNe l news → @Ne Nat t l → Q .none { s with heap := h', toks := tk' }) :
    wpAny (model prog w) A (call (.ref 159) [.ref c, .int key tk, .int vl tv]) Q E s := by
  refine set_evict_walk F X T N hroom U1 U2 hdc hd hx hdx hod lo hkl hnd hkv habs hh hu hsub hes hct hcb htn h0 hmin hn h1 hcap h50 fun h' tk' t1 t l tl od' F' N' hd' a b _ _ => ?_
  have e := (hp2 t).length_eq
  rw [List.length_map] at e
  refine h h' tk' t1 t l tl od' _ F' N' hd' rfl (hp2 t) e a b fun z => ?_
  have q1 := (N' _ (.head _)).1
  have q2 := (N' _ (.tail _ (.head _))).1
  have z' : t = l := z
  subst z'
  rw [q1] at q2; simp at q2
end


section
variable {prog : Program} {w : World} {A : Around} {s : Shared} {mean : ExcName → Option Value} {mg mb : Str → Option Value} {g : Heap} {L fa : Addr} {cd : Value} {E : Value → Shared → Prop} {Q : Flow → Shared → Prop}
local macro_rules | `(tactic| k_room) => `(tactic| ((try simp only [depth_under_make, depth_under_kw, depth_in1, depth_deeper, depth_caller] at *); (try simp only [recursionLimit] at *); omega))
local macro_rules | `(tactic| k_ne) => `(tactic| (refine neN ?_; (try dsimp only); first | assumption | (refine Ne.symm ?_; assumption)))
local macro_rules | `(tactic| k_all) => `(tactic| assumption)
local macro_rules | `(tactic| walk_at "subscriptTail") => `(tactic| (k_here; (with_reducible show wpAny _ _ (subscriptTail (PySem.Expr.Subscript _ _ _) _ (Value.ref _) (Value.int _ _)) _ _ _); k_dflt (refine' laid_own ?xN ?xm ?xd ?xv ?_ ?xs; (case xN => k_asm); (case xm => k_mem); (case xd => k_asm); (case xv => k_asm); (case xs => with_unfolding_all rfl); k_whole)))
local macro_rules | `(tactic| walk_at "subscriptTail") => `(tactic| (k_here; (with_reducible show wpAny _ _ (subscriptTail (PySem.Expr.Name _ _) _ (Value.ref _) (Value.int _ _)) _ _ _); k_dflt (refine' item_ref ?xN ?xm ?xi ?xz ?_ ?xs; (case xN => k_asm); (case xm => k_mem); (case xi => k_asm); (case xz => k_asm); (case xs => with_unfolding_all rfl); k_whole)))
local macro_rules | `(tactic| walk_at "call type:list") => `(tactic| (k_here; k_dflt (refine' list_own ?x0 ?x1 ?x2 ?x3 ?x4 ?x5 ?x6 ?_; (case x0 => k_asm); (case x1 => k_asm); (case x2 => k_asm); (case x3 => k_asm); (case x4 => k_room); (case x5 => k_asm); (case x6 => (refine' ⟨?q1, ?q2, ?q3, ?q4, ?q5, ?q6⟩; (case q1 => k_mem); (case q2 => k_mem); (case q3 => k_mem); (case q4 => k_asm); (case q5 => k_asm); (case q6 => first | k_asm | omega))); k_whole); intro D' e' vs' h' tk' F' N' l1 hI'; (try k_lt l1); (try k_sweep)))
local macro_rules | `(tactic| walk_at "call builtin:sorted") => `(tactic| (k_here; k_dflt (refine' sorted_own ?x0 ?x1 ?x2 ?x3 ?x4 ?x5 ?x6 ?x7 ?_; (case x0 => k_asm); (case x1 => k_asm); (case x2 => k_asm); (case x3 => k_asm); (case x4 => k_room); (case x5 => k_asm); (case x6 => (refine' ⟨?q1, ?q2, ?q3, ?q4, ?q5, ?q6⟩; (case q1 => k_mem); (case q2 => k_mem); (case q3 => k_mem); (case q4 => k_asm); (case q5 => k_asm); (case q6 => first | k_asm | omega))); (case x7 => omega); k_whole); intro D' e' vs' ns' h' tk' F' N' l1 hI' hp' ho'; (try k_lt l1); (try k_sweep)))
local macro_rules | `(tactic| walk_at "call builtin:sorted") => `(tactic| (k_here; k_dflt (refine' sorted_list ?x0 ?x1 ?x2 ?x3 ?x4 ?_; (case x0 => k_asm); (case x1 => k_asm); (case x2 => k_mem); (case x3 => k_asm); (case x4 => (simp only [List.length_take]; omega)); k_whole); intro D' vs' ns' e' h' F' N' l1 hI' hp' ho'; (try k_lt l1); (try k_sweep)))
local macro_rules | `(tactic| walk_at "compareOp In int ref") => `(tactic| (k_here; k_dflt (refine' in_own ?x0 ?x1 ?x2 ?x3 ?_; (case x0 => k_asm); (case x1 => k_mem); (case x2 => k_asm); (case x3 => k_asm); k_whole)))
local macro_rules | `(tactic| walk_at "compareOp LtE int int") => `(tactic| (k_here; k_dflt (refine' le_own ?x0 ?_; (case x0 => k_asm); k_whole)))
local macro_rules | `(tactic| walk_at "compareOp Eq int int") => `(tactic| (k_here; k_dflt (refine' eqi_own ?x0 ?_; (case x0 => k_asm); k_whole)))
local macro_rules | `(tactic| walk_at "compareOp NotEq int int") => `(tactic| (k_here; k_dflt (refine' nei_own ?x0 ?_; (case x0 => (first | with_reducible rfl | omega)); k_whole)))
local macro_rules | `(tactic| walk_at "compareOp NotEq ref ref") => `(tactic| (k_here; k_dflt (refine' ne_own ?x0 ?x1 ?x2 ?x3 ?x4 ?x5 ?x6 ?x7 ?x8 ?x9 ?x10 ?_; (case x0 => k_asm); (case x1 => k_mem); (case x2 => k_mem); (case x3 => k_asm); (case x4 => k_asm); (case x5 => ((try simp only [units_in1, units_deeper, Around.mark_units]); omega)); (case x6 => k_asm); (case x7 => k_asm); (case x8 => k_asm); (case x9 => k_asm); (case x10 => k_asm); k_whole)))
local macro_rules | `(tactic| walk_at "subscriptTail Name Slice ref ref") => `(tactic| (k_here; k_dflt (refine' slice_own ?x0 ?x1 ?x2 ?x3 ?x4 ?x5 ?_ ?x6 ?x7; (case x0 => k_asm); (case x1 => k_asm); (case x2 => k_mem); (case x3 => k_asm); (case x4 => exact Int.natCast_succ _); (case x5 => omega); (case x6 => with_unfolding_all rfl); (case x7 => (intro _; with_unfolding_all rfl)); k_whole); intro h' S' us' F' N' l1 hI'; (try k_lt l1); (try k_sweep)))
local macro_rules | `(tactic| walk_at "call ref") => `(tactic| (k_here; k_dflt (refine' len_walk ?x0 ?x1 ?x2 ?x3 ?x4 ?x5 ?x6 ?x7 ?x8 ?x9 ?x10 ?_; (case x0 => k_asm); (case x1 => k_asm); (case x2 => k_asm); (case x3 => k_asm); (case x4 => k_room); (case x5 => k_mem); (case x6 => k_mem); (case x7 => k_mem); (case x8 => k_asm); (case x9 => k_asm); (case x10 => omega); k_whole); intro h' tk' t' F' N'; (try k_sweep); (try dsimp only [PySem.W.LenBack]); (try (refine ⟨⟨by omega, by omega⟩, ?_⟩))))
local macro_rules | `(tactic| walk_at "call ref") => `(tactic| (k_here; k_dflt (refine' get_hit_walk ?x0 ?x1 ?x2 ?x3 ?x4 ?x5 ?x6 ?x7 ?x8 ?x9 ?x10 ?x11 ?x12 ?x13 ?x14 ?_; (case x0 => k_asm); (case x1 => k_asm); (case x2 => k_asm); (case x3 => k_asm); (case x4 => k_room); (case x5 => (intro t'; k_upd)); (case x7 => k_mem); (case x8 => k_mem); (case x11 => k_asm); (case x13 => k_asm); (case x9 => k_mem); (case x10 => k_mem); (case x6 => (intro t' t''; k_upd)); (case x12 => k_asm); (case x14 => k_asm); k_whole); intro h' tk' t1' t2' F' N'; (try k_sweep)))

set_option maxHeartbeats 8000000 in
theorem turn1 {c dc d x dx ld t l CL LL O El : Addr} {cnt cap ct nm far : Int} {tc tcap tth th tn tv tl tf tnm tnn tkk : Tok} {od lo oc : Obj} {kvs lkv : List (Int × Value)} {cl ll : Array Value} {eo : List Int} {k n ep : Nat} {vl : Int} {u : Str → Option Value} {rest : List (Addr × Obj)} {c1 c2 c3 c4 : Nat} {ov ev : List Value} {os : List Int} 
    (X : (Mine.hd.heap_39 w.params).In g) (T : Top Mine.hd.view_39 (looseW Mine.hd.view_39 [Str.ofString "itemgetter", Str.ofString "LRUCache"]) mean mg mb g) (hroom : A.depth < 700) (hh : A.handled = none) (hu : A.units + 200 < cLine)
    (F : Fr g L s.heap (frm CL LL O El (.int far tf) (.int (n : Nat) tnn) (.int (k : Nat) tkk) u))
    (N : News g L s.heap ((c, cacheObj dc cnt tc d x cap tcap tth) :: (dc, dictOf [] 0) :: (d, od) :: (x, lockObj dx) :: (dx, heldObj w.params th false) :: (ld, lo) :: (t, tupObj nm tn vl tv l) :: (l, ctrObj ct tl ep) :: (L + 1, oc) :: (CL, PySem.W.listOf cl c1) :: (LL, PySem.W.listOf ll c2) :: (O, PySem.W.listOf ov.toArray c3) :: (El, PySem.W.listOf ev.toArray c4) :: rest))
    (hoc : oc.data = .cell (some (.int nm tnm))) (hcl : cl[k]? = some (.ref c)) (hll : ll[k]? = some (.ref ld)) (hc5 : cl.size ≤ 1000) (hl5 : ll.size ≤ 1000) (hOs : IntsAre ov os) (hEo : IntsAre ev eo) (ho60 : os.length < 60) (he60 : eo.length < 60)
    (hod : od.IsDictOf (PySem.intKind prog w) kvs) (lo1 : (d == sysModules) = false) (lo2 : (ld == sysModules) = false) (hkl : kvs.length ≤ 100) (hkl2 : kvs.length < 60) (hk5 : k < 5)
    (hth : ((kvs.map (·.1)).any fun x => x == nm) = true) (hfar : decide (far ≤ (k : Int) + 1) = true) (hn3 : n % 3 = 0) (hn4 : decide (((n : Nat) : Int).fmod 3 = 0) = true)
    (_ : @Ne Nat c dc) (_ : @Ne Nat c d) (_ : @Ne Nat c x) (_ : @Ne Nat c dx) (_ : @Ne Nat c ld) (_ : @Ne Nat c t) (_ : @Ne Nat c l) (_ : @Ne Nat c (L + 1)) (_ : @Ne Nat c CL) (_ : @Ne Nat c LL) (_ : @Ne Nat c O) (_ : @Ne Nat c El) (_ : @Ne Nat l dc) (_ : @Ne Nat l d) (_ : @Ne Nat l x) (_ : @Ne Nat l dx) (_ : @Ne Nat l ld) (_ : @Ne Nat l t) (_ : @Ne Nat l (L + 1)) (_ : @Ne Nat l CL) (_ : @Ne Nat l LL) (_ : @Ne Nat l O) (_ : @Ne Nat l El)
    (_ : ∀ p ∈ rest, p.1 ≠ c) (_ : ∀ p ∈ rest, p.1 ≠ l)
    (hv : valueAt kvs nm = some (.ref t)) (hnd1 : [c, dc, d, t, l].Nodup) {tv2 : Tok} (hlo : lo.IsDictOf (PySem.intKind prog w) lkv) (hlv : valueAt lkv nm = some (.int vl tv2)) (hperm : (kvs.map (·.1)).Perm (os.take (k + 1))) (hlen : kvs.length = (os.take (k + 1)).length)
    (hQ : ∀ h' tk' m' t1 t2, m' (Str.ofString "requests") = u (Str.ofString "requests") → Fr g L h' (frm CL LL O El (.int far tf) (.int (n : Nat) tnn) (.int (k : Nat) tkk) m') → News g L h' ((c, cacheObj dc (cnt + 1) t1 d x cap tcap tth) :: (dc, dictOf [] 0) :: (d, od) :: (x, lockObj dx) :: (dx, heldObj w.params th false) :: (ld, lo) :: (t, tupObj nm tn vl tv l) :: (l, ctrObj (cnt + 1) t2 ep) :: (L + 1, oc) :: (CL, PySem.W.listOf cl c1) :: (LL, PySem.W.listOf ll c2) :: (O, PySem.W.listOf ov.toArray c3) :: (El, PySem.W.listOf ev.toArray c4) :: rest) → Q .next { s with heap := h', toks := tk' }) :
    wpAny (model prog w) A (execs innerBody (envOfC (Str.ofString "law") lawScope L fa cd)) Q E s := by
  conv in (innerBody) => whnf
  conv in (lawScope) => whnf
  k_steps
  (rename Fr _ _ _ _ => F')
  (rename News _ _ _ _ => N')
  replace F' := fr_frm (CL := CL) (LL := LL) (O := O) (El := El) (vf := .int far tf) (vn := .int (n : Nat) tnn) (vk := .int (k : Nat) tkk) F' rfl rfl rfl rfl rfl rfl rfl
  exact hQ _ _ _ _ _ (by rfl) F' (fun p hp => N' p (List.mem_append_right [_, _, _, _, _] hp))
end


section
variable {prog : Program} {w : World} {A : Around} {s : Shared} {mean : ExcName → Option Value} {mg mb : Str → Option Value} {g : Heap} {L fa : Addr} {cd : Value} {E : Value → Shared → Prop} {Q : Flow → Shared → Prop}
local macro_rules | `(tactic| k_room) => `(tactic| ((try simp only [depth_under_make, depth_under_kw, depth_in1, depth_deeper, depth_caller] at *); (try simp only [recursionLimit] at *); omega))
local macro_rules | `(tactic| k_ne) => `(tactic| (refine neN ?_; (try dsimp only); first | assumption | (refine Ne.symm ?_; assumption)))
local macro_rules | `(tactic| k_all) => `(tactic| assumption)
local macro_rules | `(tactic| walk_at "subscriptTail") => `(tactic| (k_here; (with_reducible show wpAny _ _ (subscriptTail (PySem.Expr.Subscript _ _ _) _ (Value.ref _) (Value.int _ _)) _ _ _); k_dflt (refine' laid_own ?xN ?xm ?xd ?xv ?_ ?xs; (case xN => k_asm); (case xm => k_mem); (case xd => k_asm); (case xv => k_asm); (case xs => with_unfolding_all rfl); k_whole)))
local macro_rules | `(tactic| walk_at "subscriptTail") => `(tactic| (k_here; (with_reducible show wpAny _ _ (subscriptTail (PySem.Expr.Name _ _) _ (Value.ref _) (Value.int _ _)) _ _ _); k_dflt (refine' item_ref ?xN ?xm ?xi ?xz ?_ ?xs; (case xN => k_asm); (case xm => k_mem); (case xi => k_asm); (case xz => k_asm); (case xs => with_unfolding_all rfl); k_whole)))
local macro_rules | `(tactic| walk_at "call type:list") => `(tactic| (k_here; k_dflt (refine' list_own ?x0 ?x1 ?x2 ?x3 ?x4 ?x5 ?x6 ?_; (case x0 => k_asm); (case x1 => k_asm); (case x2 => k_asm); (case x3 => k_asm); (case x4 => k_room); (case x5 => k_asm); (case x6 => (refine' ⟨?q1, ?q2, ?q3, ?q4, ?q5, ?q6⟩; (case q1 => k_mem); (case q2 => k_mem); (case q3 => k_mem); (case q4 => k_asm); (case q5 => k_asm); (case q6 => first | k_asm | omega))); k_whole); intro D' e' vs' h' tk' F' N' l1 hI'; (try k_lt l1); (try k_sweep)))
local macro_rules | `(tactic| walk_at "call builtin:sorted") => `(tactic| (k_here; k_dflt (refine' sorted_own ?x0 ?x1 ?x2 ?x3 ?x4 ?x5 ?x6 ?x7 ?_; (case x0 => k_asm); (case x1 => k_asm); (case x2 => k_asm); (case x3 => k_asm); (case x4 => k_room); (case x5 => k_asm); (case x6 => (refine' ⟨?q1, ?q2, ?q3, ?q4, ?q5, ?q6⟩; (case q1 => k_mem); (case q2 => k_mem); (case q3 => k_mem); (case q4 => k_asm); (case q5 => k_asm); (case q6 => first | k_asm | omega))); (case x7 => omega); k_whole); intro D' e' vs' ns' h' tk' F' N' l1 hI' hp' ho'; (try k_lt l1); (try k_sweep)))
local macro_rules | `(tactic| walk_at "call builtin:sorted") => `(tactic| (k_here; k_dflt (refine' sorted_list ?x0 ?x1 ?x2 ?x3 ?x4 ?_; (case x0 => k_asm); (case x1 => k_asm); (case x2 => k_mem); (case x3 => k_asm); (case x4 => (simp only [List.length_take]; omega)); k_whole); intro D' vs' ns' e' h' F' N' l1 hI' hp' ho'; (try k_lt l1); (try k_sweep)))
local macro_rules | `(tactic| walk_at "compareOp In int ref") => `(tactic| (k_here; k_dflt (refine' in_own ?x0 ?x1 ?x2 ?x3 ?_; (case x0 => k_asm); (case x1 => k_mem); (case x2 => k_asm); (case x3 => k_asm); k_whole)))
local macro_rules | `(tactic| walk_at "compareOp LtE int int") => `(tactic| (k_here; k_dflt (refine' le_own ?x0 ?_; (case x0 => k_asm); k_whole)))
local macro_rules | `(tactic| walk_at "compareOp Eq int int") => `(tactic| (k_here; k_dflt (refine' eqi_own ?x0 ?_; (case x0 => k_asm); k_whole)))
local macro_rules | `(tactic| walk_at "compareOp NotEq int int") => `(tactic| (k_here; k_dflt (refine' nei_own ?x0 ?_; (case x0 => (first | with_reducible rfl | omega)); k_whole)))
local macro_rules | `(tactic| walk_at "compareOp NotEq ref ref") => `(tactic| (k_here; k_dflt (refine' ne_own ?x0 ?x1 ?x2 ?x3 ?x4 ?x5 ?x6 ?x7 ?x8 ?x9 ?x10 ?_; (case x0 => k_asm); (case x1 => k_mem); (case x2 => k_mem); (case x3 => k_asm); (case x4 => k_asm); (case x5 => ((try simp only [units_in1, units_deeper, Around.mark_units]); omega)); (case x6 => k_asm); (case x7 => k_asm); (case x8 => k_asm); (case x9 => k_asm); (case x10 => k_asm); k_whole)))
local macro_rules | `(tactic| walk_at "subscriptTail Name Slice ref ref") => `(tactic| (k_here; k_dflt (refine' slice_own ?x0 ?x1 ?x2 ?x3 ?x4 ?x5 ?_ ?x6 ?x7; (case x0 => k_asm); (case x1 => k_asm); (case x2 => k_mem); (case x3 => k_asm); (case x4 => exact Int.natCast_succ _); (case x5 => omega); (case x6 => with_unfolding_all rfl); (case x7 => (intro _; with_unfolding_all rfl)); k_whole); intro h' S' us' F' N' l1 hI'; (try k_lt l1); (try k_sweep)))
local macro_rules | `(tactic| walk_at "call ref") => `(tactic| (k_here; k_dflt (refine' len_walk ?x0 ?x1 ?x2 ?x3 ?x4 ?x5 ?x6 ?x7 ?x8 ?x9 ?x10 ?_; (case x0 => k_asm); (case x1 => k_asm); (case x2 => k_asm); (case x3 => k_asm); (case x4 => k_room); (case x5 => k_mem); (case x6 => k_mem); (case x7 => k_mem); (case x8 => k_asm); (case x9 => k_asm); (case x10 => omega); k_whole); intro h' tk' t' F' N'; (try k_sweep); (try dsimp only [PySem.W.LenBack]); (try (refine ⟨⟨by omega, by omega⟩, ?_⟩))))
local macro_rules | `(tactic| walk_at "call ref") => `(tactic| (k_here; k_dflt (refine' getitem_walk ?x0 ?x1 ?x2 ?x3 ?x4 ?x5 ?x6 ?x7 ?x8 ?x9 ?x10 ?x11 ?x12 ?x13 ?x14 ?_; (case x0 => k_asm); (case x1 => k_asm); (case x2 => k_asm); (case x3 => k_asm); (case x4 => k_room); (case x5 => (intro t'; k_upd)); (case x7 => k_mem); (case x8 => k_mem); (case x11 => k_asm); (case x13 => k_asm); (case x9 => k_mem); (case x10 => k_mem); (case x6 => (intro t' t''; k_upd)); (case x12 => k_asm); (case x14 => k_asm); k_whole); intro h' tk' t1' t2' F' N'; (try k_sweep)))
local macro_rules | `(tactic| walk_at "no key z1401") => `(tactic| skip)

set_option maxHeartbeats 8000000 in
theorem turn2 {c dc d x dx ld t l CL LL O El : Addr} {cnt cap ct nm far : Int} {tc tcap tth th tn tv tl tf tnm tnn tkk : Tok} {od lo oc : Obj} {kvs lkv : List (Int × Value)} {cl ll : Array Value} {eo : List Int} {k n ep : Nat} {vl : Int} {u : Str → Option Value} {rest : List (Addr × Obj)} {c1 c2 c3 c4 : Nat} {ov ev : List Value} {os : List Int} 
    (X : (Mine.hd.heap_39 w.params).In g) (T : Top Mine.hd.view_39 (looseW Mine.hd.view_39 [Str.ofString "itemgetter", Str.ofString "LRUCache"]) mean mg mb g) (hroom : A.depth < 700) (hh : A.handled = none) (hu : A.units + 200 < cLine)
    (F : Fr g L s.heap (frm CL LL O El (.int far tf) (.int (n : Nat) tnn) (.int (k : Nat) tkk) u))
    (N : News g L s.heap ((c, cacheObj dc cnt tc d x cap tcap tth) :: (dc, dictOf [] 0) :: (d, od) :: (x, lockObj dx) :: (dx, heldObj w.params th false) :: (ld, lo) :: (t, tupObj nm tn vl tv l) :: (l, ctrObj ct tl ep) :: (L + 1, oc) :: (CL, PySem.W.listOf cl c1) :: (LL, PySem.W.listOf ll c2) :: (O, PySem.W.listOf ov.toArray c3) :: (El, PySem.W.listOf ev.toArray c4) :: rest))
    (hoc : oc.data = .cell (some (.int nm tnm))) (hcl : cl[k]? = some (.ref c)) (hll : ll[k]? = some (.ref ld)) (hc5 : cl.size ≤ 1000) (hl5 : ll.size ≤ 1000) (hOs : IntsAre ov os) (hEo : IntsAre ev eo) (ho60 : os.length < 60) (he60 : eo.length < 60)
    (hod : od.IsDictOf (PySem.intKind prog w) kvs) (lo1 : (d == sysModules) = false) (lo2 : (ld == sysModules) = false) (hkl : kvs.length ≤ 100) (hkl2 : kvs.length < 60) (hk5 : k < 5)
    (hth : ((kvs.map (·.1)).any fun x => x == nm) = true) (hfar : decide (far ≤ (k : Int) + 1) = true) (hn3 : n % 3 = 1) (hn4 : decide (((n : Nat) : Int).fmod 3 = 0) = false)
    (_ : @Ne Nat c dc) (_ : @Ne Nat c d) (_ : @Ne Nat c x) (_ : @Ne Nat c dx) (_ : @Ne Nat c ld) (_ : @Ne Nat c t) (_ : @Ne Nat c l) (_ : @Ne Nat c (L + 1)) (_ : @Ne Nat c CL) (_ : @Ne Nat c LL) (_ : @Ne Nat c O) (_ : @Ne Nat c El) (_ : @Ne Nat l dc) (_ : @Ne Nat l d) (_ : @Ne Nat l x) (_ : @Ne Nat l dx) (_ : @Ne Nat l ld) (_ : @Ne Nat l t) (_ : @Ne Nat l (L + 1)) (_ : @Ne Nat l CL) (_ : @Ne Nat l LL) (_ : @Ne Nat l O) (_ : @Ne Nat l El)
    (_ : ∀ p ∈ rest, p.1 ≠ c) (_ : ∀ p ∈ rest, p.1 ≠ l)
    (hv : valueAt kvs nm = some (.ref t)) (hnd1 : [c, dc, d, t, l].Nodup) {tv2 : Tok} (hlo : lo.IsDictOf (PySem.intKind prog w) lkv) (hlv : valueAt lkv nm = some (.int vl tv2)) (hperm : (kvs.map (·.1)).Perm (os.take (k + 1))) (hlen : kvs.length = (os.take (k + 1)).length)
    (hQ : ∀ h' tk' m' t1 t2, m' (Str.ofString "requests") = u (Str.ofString "requests") → Fr g L h' (frm CL LL O El (.int far tf) (.int (n : Nat) tnn) (.int (k : Nat) tkk) m') → News g L h' ((c, cacheObj dc (cnt + 1) t1 d x cap tcap tth) :: (dc, dictOf [] 0) :: (d, od) :: (x, lockObj dx) :: (dx, heldObj w.params th false) :: (ld, lo) :: (t, tupObj nm tn vl tv l) :: (l, ctrObj (cnt + 1) t2 ep) :: (L + 1, oc) :: (CL, PySem.W.listOf cl c1) :: (LL, PySem.W.listOf ll c2) :: (O, PySem.W.listOf ov.toArray c3) :: (El, PySem.W.listOf ev.toArray c4) :: rest) → Q .next { s with heap := h', toks := tk' }) :
    wpAny (model prog w) A (execs innerBody (envOfC (Str.ofString "law") lawScope L fa cd)) Q E s := by
  conv in (innerBody) => whnf
  conv in (lawScope) => whnf
  k_steps
  (rename Fr _ _ _ _ => F')
  (rename News _ _ _ _ => N')
  replace F' := fr_frm (CL := CL) (LL := LL) (O := O) (El := El) (vf := .int far tf) (vn := .int (n : Nat) tnn) (vk := .int (k : Nat) tkk) F' rfl rfl rfl rfl rfl rfl rfl
  exact hQ _ _ _ _ _ (by rfl) F' (fun p hp => N' p (List.mem_append_right [_, _, _, _, _] hp))
end


section
variable {prog : Program} {w : World} {A : Around} {s : Shared} {mean : ExcName → Option Value} {mg mb : Str → Option Value} {g : Heap} {L fa : Addr} {cd : Value} {E : Value → Shared → Prop} {Q : Flow → Shared → Prop}
local macro_rules | `(tactic| k_room) => `(tactic| ((try simp only [depth_under_make, depth_under_kw, depth_in1, depth_deeper, depth_caller] at *); (try simp only [recursionLimit] at *); omega))
local macro_rules | `(tactic| k_ne) => `(tactic| (refine neN ?_; (try dsimp only); first | assumption | (refine Ne.symm ?_; assumption)))
local macro_rules | `(tactic| k_all) => `(tactic| assumption)
local macro_rules | `(tactic| walk_at "subscriptTail") => `(tactic| (k_here; (with_reducible show wpAny _ _ (subscriptTail (PySem.Expr.Subscript _ _ _) _ (Value.ref _) (Value.int _ _)) _ _ _); k_dflt (refine' laid_own ?xN ?xm ?xd ?xv ?_ ?xs; (case xN => k_asm); (case xm => k_mem); (case xd => k_asm); (case xv => k_asm); (case xs => with_unfolding_all rfl); k_whole)))
local macro_rules | `(tactic| walk_at "subscriptTail") => `(tactic| (k_here; (with_reducible show wpAny _ _ (subscriptTail (PySem.Expr.Name _ _) _ (Value.ref _) (Value.int _ _)) _ _ _); k_dflt (refine' item_ref ?xN ?xm ?xi ?xz ?_ ?xs; (case xN => k_asm); (case xm => k_mem); (case xi => k_asm); (case xz => k_asm); (case xs => with_unfolding_all rfl); k_whole)))
local macro_rules | `(tactic| walk_at "call type:list") => `(tactic| (k_here; k_dflt (refine' list_own ?x0 ?x1 ?x2 ?x3 ?x4 ?x5 ?x6 ?_; (case x0 => k_asm); (case x1 => k_asm); (case x2 => k_asm); (case x3 => k_asm); (case x4 => k_room); (case x5 => k_asm); (case x6 => (refine' ⟨?q1, ?q2, ?q3, ?q4, ?q5, ?q6⟩; (case q1 => k_mem); (case q2 => k_mem); (case q3 => k_mem); (case q4 => k_asm); (case q5 => k_asm); (case q6 => first | k_asm | omega))); k_whole); intro D' e' vs' h' tk' F' N' l1 hI'; (try k_lt l1); (try k_sweep)))
local macro_rules | `(tactic| walk_at "call builtin:sorted") => `(tactic| (k_here; k_dflt (refine' sorted_own ?x0 ?x1 ?x2 ?x3 ?x4 ?x5 ?x6 ?x7 ?_; (case x0 => k_asm); (case x1 => k_asm); (case x2 => k_asm); (case x3 => k_asm); (case x4 => k_room); (case x5 => k_asm); (case x6 => (refine' ⟨?q1, ?q2, ?q3, ?q4, ?q5, ?q6⟩; (case q1 => k_mem); (case q2 => k_mem); (case q3 => k_mem); (case q4 => k_asm); (case q5 => k_asm); (case q6 => first | k_asm | omega))); (case x7 => omega); k_whole); intro D' e' vs' ns' h' tk' F' N' l1 hI' hp' ho'; (try k_lt l1); (try k_sweep)))
local macro_rules | `(tactic| walk_at "call builtin:sorted") => `(tactic| (k_here; k_dflt (refine' sorted_list ?x0 ?x1 ?x2 ?x3 ?x4 ?_; (case x0 => k_asm); (case x1 => k_asm); (case x2 => k_mem); (case x3 => k_asm); (case x4 => (simp only [List.length_take]; omega)); k_whole); intro D' vs' ns' e' h' F' N' l1 hI' hp' ho'; (try k_lt l1); (try k_sweep)))
local macro_rules | `(tactic| walk_at "compareOp In int ref") => `(tactic| (k_here; k_dflt (refine' in_own ?x0 ?x1 ?x2 ?x3 ?_; (case x0 => k_asm); (case x1 => k_mem); (case x2 => k_asm); (case x3 => k_asm); k_whole)))
local macro_rules | `(tactic| walk_at "compareOp LtE int int") => `(tactic| (k_here; k_dflt (refine' le_own ?x0 ?_; (case x0 => k_asm); k_whole)))
local macro_rules | `(tactic| walk_at "compareOp Eq int int") => `(tactic| (k_here; k_dflt (refine' eqi_own ?x0 ?_; (case x0 => k_asm); k_whole)))
local macro_rules | `(tactic| walk_at "compareOp NotEq int int") => `(tactic| (k_here; k_dflt (refine' nei_own ?x0 ?_; (case x0 => (first | with_reducible rfl | omega)); k_whole)))
local macro_rules | `(tactic| walk_at "compareOp NotEq ref ref") => `(tactic| (k_here; k_dflt (refine' ne_own ?x0 ?x1 ?x2 ?x3 ?x4 ?x5 ?x6 ?x7 ?x8 ?x9 ?x10 ?_; (case x0 => k_asm); (case x1 => k_mem); (case x2 => k_mem); (case x3 => k_asm); (case x4 => k_asm); (case x5 => ((try simp only [units_in1, units_deeper, Around.mark_units]); omega)); (case x6 => k_asm); (case x7 => k_asm); (case x8 => k_asm); (case x9 => k_asm); (case x10 => k_asm); k_whole)))
local macro_rules | `(tactic| walk_at "subscriptTail Name Slice ref ref") => `(tactic| (k_here; k_dflt (refine' slice_own ?x0 ?x1 ?x2 ?x3 ?x4 ?x5 ?_ ?x6 ?x7; (case x0 => k_asm); (case x1 => k_asm); (case x2 => k_mem); (case x3 => k_asm); (case x4 => exact Int.natCast_succ _); (case x5 => omega); (case x6 => with_unfolding_all rfl); (case x7 => (intro _; with_unfolding_all rfl)); k_whole); intro h' S' us' F' N' l1 hI'; (try k_lt l1); (try k_sweep)))
local macro_rules | `(tactic| walk_at "call ref") => `(tactic| (k_here; k_dflt (refine' len_walk ?x0 ?x1 ?x2 ?x3 ?x4 ?x5 ?x6 ?x7 ?x8 ?x9 ?x10 ?_; (case x0 => k_asm); (case x1 => k_asm); (case x2 => k_asm); (case x3 => k_asm); (case x4 => k_room); (case x5 => k_mem); (case x6 => k_mem); (case x7 => k_mem); (case x8 => k_asm); (case x9 => k_asm); (case x10 => omega); k_whole); intro h' tk' t' F' N'; (try k_sweep); (try dsimp only [PySem.W.LenBack]); (try (refine ⟨⟨by omega, by omega⟩, ?_⟩))))
local macro_rules | `(tactic| walk_at "call ref") => `(tactic| (k_here; k_dflt (refine' set_stay_law ?x0 ?x1 ?x2 ?x3 ?x4 ?x5 ?x6 ?x7 ?x8 ?x9 ?x10 ?x11 ?x12 ?x13 ?x14 ?x15 ?x16 ?x17 ?_; (case x0 => k_asm); (case x1 => k_asm); (case x2 => k_asm); (case x3 => k_asm); (case x4 => k_room); (case x5 => (intro t'; k_upd)); (case x6 => (intro t'; k_updF)); (case x7 => k_mem); (case x8 => k_mem); (case x9 => k_mem); (case x10 => k_mem); (case x11 => k_asm); (case x12 => k_asm); (case x13 => omega); (case x14 => k_asm); (case x15 => omega); (case x16 => k_asm); (case x17 => k_asm); k_whole); intro h' tk' t1' t' l' tl' o' kvs' F' N' hd' hk' hp' hl' a' b' z'; (try dsimp only at N'); (simp only [AllNe] at a' b'); (repeat (obtain ⟨_, a'⟩ := a')); (repeat (obtain ⟨_, b'⟩ := b')); (try k_sweep)))
local macro_rules | `(tactic| walk_at "setItem ref int") => `(tactic| (k_here; k_dflt (refine' kda_set (knd := PySem.intKind _ _) ?F ?N ?U ?d (intKind_is _ _ _ _) ?z ?_; (case F => k_asm); (case N => k_asm); (case U => k_updF); (case d => k_asm); (case z => (rw [sizeLine_eq]; omega))); intro h' o' F' N' hd'; (try dsimp only at N'); (try k_sweep)))
local macro_rules | `(tactic| walk_at "no key z1501") => `(tactic| skip)

set_option maxHeartbeats 8000000 in
theorem turn3 {c dc d x dx ld CL LL O El : Addr} {cnt cap nm far : Int} {tc tcap tth th tf tnm tnn tkk : Tok} {od lo oc : Obj} {kvs lkv : List (Int × Value)} {cl ll : Array Value} {eo : List Int} {k n : Nat} {u : Str → Option Value} {rest : List (Addr × Obj)} {c1 c2 c3 c4 : Nat} {ov ev : List Value} {os : List Int} 
    (X : (Mine.hd.heap_39 w.params).In g) (T : Top Mine.hd.view_39 (looseW Mine.hd.view_39 [Str.ofString "itemgetter", Str.ofString "LRUCache"]) mean mg mb g) (hroom : A.depth < 700) (hh : A.handled = none) (hu : A.units + 200 < cLine)
    (F : Fr g L s.heap (frm CL LL O El (.int far tf) (.int (n : Nat) tnn) (.int (k : Nat) tkk) u))
    (N : News g L s.heap ((c, cacheObj dc cnt tc d x cap tcap tth) :: (dc, dictOf [] 0) :: (d, od) :: (x, lockObj dx) :: (dx, heldObj w.params th false) :: (ld, lo) :: (L + 1, oc) :: (CL, PySem.W.listOf cl c1) :: (LL, PySem.W.listOf ll c2) :: (O, PySem.W.listOf ov.toArray c3) :: (El, PySem.W.listOf ev.toArray c4) :: rest))
    (hoc : oc.data = .cell (some (.int nm tnm))) (hcl : cl[k]? = some (.ref c)) (hll : ll[k]? = some (.ref ld)) (hc5 : cl.size ≤ 1000) (hl5 : ll.size ≤ 1000) (hOs : IntsAre ov os) (hEo : IntsAre ev eo) (ho60 : os.length < 60) (he60 : eo.length < 60)
    (hod : od.IsDictOf (PySem.intKind prog w) kvs) (lo1 : (d == sysModules) = false) (lo2 : (ld == sysModules) = false) (hkl : kvs.length ≤ 100) (hkl2 : kvs.length < 60) (hk5 : k < 5)
    (hth : ((kvs.map (·.1)).any fun x => x == nm) = true) (hfar : decide (far ≤ (k : Int) + 1) = true) (hn3 : n % 3 = 2)
    (_ : @Ne Nat c dc) (_ : @Ne Nat c d) (_ : @Ne Nat c x) (_ : @Ne Nat c dx) (_ : @Ne Nat c ld) (_ : @Ne Nat c (L + 1)) (_ : @Ne Nat c CL) (_ : @Ne Nat c LL) (_ : @Ne Nat c O) (_ : @Ne Nat c El) (_ : @Ne Nat d dc) (_ : @Ne Nat d x) (_ : @Ne Nat d dx) (_ : @Ne Nat d ld) (_ : @Ne Nat d (L + 1)) (_ : @Ne Nat d CL) (_ : @Ne Nat d LL) (_ : @Ne Nat d O) (_ : @Ne Nat d El) (_ : @Ne Nat ld dc) (_ : @Ne Nat ld x) (_ : @Ne Nat ld dx) (_ : @Ne Nat ld (L + 1)) (_ : @Ne Nat ld CL) (_ : @Ne Nat ld LL) (_ : @Ne Nat ld O) (_ : @Ne Nat ld El)
    (_ : ∀ p ∈ rest, p.1 ≠ c) (_ : ∀ p ∈ rest, p.1 ≠ d) (_ : ∀ p ∈ rest, p.1 ≠ ld)
    (hnd1 : [c, dc, d, x, dx].Nodup) (hlo : lo.IsDictOf (PySem.intKind prog w) lkv) (hlk : lkv.length ≤ 100) (hot : (os.take (k + 1)).length ≤ 50) (hcap : cap = ((k + 1 : Nat) : Int)) (hcap2 : ((os.take (k + 1)).length : Int) ≤ cap) (hp2 : ∀ t : Addr, ((stored kvs nm (.ref t)).map (·.1)).Perm (os.take (k + 1)))
    (hQ : ∀ h' tk' m' t1 (t l : Addr) tl od' lo' G, m' (Str.ofString "requests") = u (Str.ofString "requests") → Fr g L h' (frm CL LL O El (.int far tf) (.int (n : Nat) tnn) (.int (k : Nat) tkk) m') → News g L h' ((t, tupObj nm tnm (n : Nat) tnn l) :: (l, ctrObj (cnt + 1) tl 0) :: G :: (c, cacheObj dc (cnt + 1) t1 d x cap tcap tth) :: (dc, dictOf [] 0) :: (d, od') :: (x, lockObj dx) :: (dx, heldObj w.params th false) :: (ld, lo') :: (L + 1, oc) :: (CL, PySem.W.listOf cl c1) :: (LL, PySem.W.listOf ll c2) :: (O, PySem.W.listOf ov.toArray c3) :: (El, PySem.W.listOf ev.toArray c4) :: rest) → od'.IsDictOf (PySem.intKind prog w) (stored kvs nm (.ref t)) → lo'.IsDictOf (PySem.intKind prog w) (stored lkv nm (.int (n : Nat) tnn)) → (∀ p ∈ (c, cacheObj dc cnt tc d x cap tcap tth) :: (dc, dictOf [] 0) :: (d, od) :: (x, lockObj dx) :: (dx, heldObj w.params th false) :: (ld, lo) :: (L + 1, oc) :: (CL, PySem.W.listOf cl c1) :: (LL, PySem.W.listOf ll c2) :: (O, PySem.W.listOf ov.toArray c3) :: (El, PySem.W.listOf ev.toArray c4) :: rest, p.1 ≠ t) → (∀ p ∈ (c, cacheObj dc cnt tc d x cap tcap tth) :: (dc, dictOf [] 0) :: (d, od) :: (x, lockObj dx) :: (dx, heldObj w.params th false) :: (ld, lo) :: (L + 1, oc) :: (CL, PySem.W.listOf cl c1) :: (LL, PySem.W.listOf ll c2) :: (O, PySem.W.listOf ov.toArray c3) :: (El, PySem.W.listOf ev.toArray c4) :: rest, p.1 ≠ l) → t ≠ l → Q .next { s with heap := h', toks := tk' }) :
    wpAny (model prog w) A (execs innerBody (envOfC (Str.ofString "law") lawScope L fa cd)) Q E s := by
  conv in (innerBody) => whnf
  conv in (lawScope) => whnf
  k_steps
  (rename Fr _ _ _ _ => F')
  (rename News _ _ _ _ => N')
  replace F' := fr_frm (CL := CL) (LL := LL) (O := O) (El := El) (vf := .int far tf) (vn := .int (n : Nat) tnn) (vk := .int (k : Nat) tkk) F' rfl rfl rfl rfl rfl rfl rfl
  refine hQ _ _ _ _ _ _ _ _ _ _ (by rfl) F' (fun p hp => N' p (List.mem_append_right [_, _, _, _] hp)) ?hd ?hl ?nt ?nl ?ntl
  case hd => first | assumption | (subst_vars; assumption)
  case hl => assumption
  case nt =>
    repeat (refine List.forall_mem_cons.mpr ⟨by assumption, ?_⟩)
    exact AllNe.all (by assumption)
  case nl =>
    repeat (refine List.forall_mem_cons.mpr ⟨by assumption, ?_⟩)
    exact AllNe.all (by assumption)
  case ntl => assumption
end


section
variable {prog : Program} {w : World} {A : Around} {s : Shared} {mean : ExcName → Option Value} {mg mb : Str → Option Value} {g : Heap} {L fa : Addr} {cd : Value} {E : Value → Shared → Prop} {Q : Flow → Shared → Prop}
local macro_rules | `(tactic| k_room) => `(tactic| ((try simp only [depth_under_make, depth_under_kw, depth_in1, depth_deeper, depth_caller] at *); (try simp only [recursionLimit] at *); omega))
local macro_rules | `(tactic| k_ne) => `(tactic| (refine neN ?_; (try dsimp only); first | assumption | (refine Ne.symm ?_; assumption)))
local macro_rules | `(tactic| k_all) => `(tactic| assumption)
local macro_rules | `(tactic| walk_at "subscriptTail") => `(tactic| (k_here; (with_reducible show wpAny _ _ (subscriptTail (PySem.Expr.Subscript _ _ _) _ (Value.ref _) (Value.int _ _)) _ _ _); k_dflt (refine' laid_own ?xN ?xm ?xd ?xv ?_ ?xs; (case xN => k_asm); (case xm => k_mem); (case xd => k_asm); (case xv => k_asm); (case xs => with_unfolding_all rfl); k_whole)))
local macro_rules | `(tactic| walk_at "subscriptTail") => `(tactic| (k_here; (with_reducible show wpAny _ _ (subscriptTail (PySem.Expr.Name _ _) _ (Value.ref _) (Value.int _ _)) _ _ _); k_dflt (refine' item_ref ?xN ?xm ?xi ?xz ?_ ?xs; (case xN => k_asm); (case xm => k_mem); (case xi => k_asm); (case xz => k_asm); (case xs => with_unfolding_all rfl); k_whole)))
local macro_rules | `(tactic| walk_at "call type:list") => `(tactic| (k_here; k_dflt (refine' list_own ?x0 ?x1 ?x2 ?x3 ?x4 ?x5 ?x6 ?_; (case x0 => k_asm); (case x1 => k_asm); (case x2 => k_asm); (case x3 => k_asm); (case x4 => k_room); (case x5 => k_asm); (case x6 => (refine' ⟨?q1, ?q2, ?q3, ?q4, ?q5, ?q6⟩; (case q1 => k_mem); (case q2 => k_mem); (case q3 => k_mem); (case q4 => k_asm); (case q5 => k_asm); (case q6 => first | k_asm | omega))); k_whole); intro D' e' vs' h' tk' F' N' l1 hI'; (try k_lt l1); (try k_sweep)))
local macro_rules | `(tactic| walk_at "call builtin:sorted") => `(tactic| (k_here; k_dflt (refine' sorted_own ?x0 ?x1 ?x2 ?x3 ?x4 ?x5 ?x6 ?x7 ?_; (case x0 => k_asm); (case x1 => k_asm); (case x2 => k_asm); (case x3 => k_asm); (case x4 => k_room); (case x5 => k_asm); (case x6 => (refine' ⟨?q1, ?q2, ?q3, ?q4, ?q5, ?q6⟩; (case q1 => k_mem); (case q2 => k_mem); (case q3 => k_mem); (case q4 => k_asm); (case q5 => k_asm); (case q6 => first | k_asm | omega))); (case x7 => omega); k_whole); intro D' e' vs' ns' h' tk' F' N' l1 hI' hp' ho'; (try k_lt l1); (try k_sweep)))
local macro_rules | `(tactic| walk_at "call builtin:sorted") => `(tactic| (k_here; k_dflt (refine' sorted_list ?x0 ?x1 ?x2 ?x3 ?x4 ?_; (case x0 => k_asm); (case x1 => k_asm); (case x2 => k_mem); (case x3 => k_asm); (case x4 => (simp only [List.length_take]; omega)); k_whole); intro D' vs' ns' e' h' F' N' l1 hI' hp' ho'; (try k_lt l1); (try k_sweep)))
local macro_rules | `(tactic| walk_at "compareOp In int ref") => `(tactic| (k_here; k_dflt (refine' in_own ?x0 ?x1 ?x2 ?x3 ?_; (case x0 => k_asm); (case x1 => k_mem); (case x2 => k_asm); (case x3 => k_asm); k_whole)))
local macro_rules | `(tactic| walk_at "compareOp LtE int int") => `(tactic| (k_here; k_dflt (refine' le_own ?x0 ?_; (case x0 => k_asm); k_whole)))
local macro_rules | `(tactic| walk_at "compareOp Eq int int") => `(tactic| (k_here; k_dflt (refine' eqi_own ?x0 ?_; (case x0 => k_asm); k_whole)))
local macro_rules | `(tactic| walk_at "compareOp NotEq int int") => `(tactic| (k_here; k_dflt (refine' nei_own ?x0 ?_; (case x0 => (first | with_reducible rfl | omega)); k_whole)))
local macro_rules | `(tactic| walk_at "compareOp NotEq ref ref") => `(tactic| (k_here; k_dflt (refine' ne_own ?x0 ?x1 ?x2 ?x3 ?x4 ?x5 ?x6 ?x7 ?x8 ?x9 ?x10 ?_; (case x0 => k_asm); (case x1 => k_mem); (case x2 => k_mem); (case x3 => k_asm); (case x4 => k_asm); (case x5 => ((try simp only [units_in1, units_deeper, Around.mark_units]); omega)); (case x6 => k_asm); (case x7 => k_asm); (case x8 => k_asm); (case x9 => k_asm); (case x10 => k_asm); k_whole)))
local macro_rules | `(tactic| walk_at "subscriptTail Name Slice ref ref") => `(tactic| (k_here; k_dflt (refine' slice_own ?x0 ?x1 ?x2 ?x3 ?x4 ?x5 ?_ ?x6 ?x7; (case x0 => k_asm); (case x1 => k_asm); (case x2 => k_mem); (case x3 => k_asm); (case x4 => exact Int.natCast_succ _); (case x5 => omega); (case x6 => with_unfolding_all rfl); (case x7 => (intro _; with_unfolding_all rfl)); k_whole); intro h' S' us' F' N' l1 hI'; (try k_lt l1); (try k_sweep)))
local macro_rules | `(tactic| walk_at "call ref") => `(tactic| (k_here; k_dflt (refine' len_walk ?x0 ?x1 ?x2 ?x3 ?x4 ?x5 ?x6 ?x7 ?x8 ?x9 ?x10 ?_; (case x0 => k_asm); (case x1 => k_asm); (case x2 => k_asm); (case x3 => k_asm); (case x4 => k_room); (case x5 => k_mem); (case x6 => k_mem); (case x7 => k_mem); (case x8 => k_asm); (case x9 => k_asm); (case x10 => omega); k_whole); intro h' tk' t' F' N'; (try k_sweep); (try dsimp only [PySem.W.LenBack]); (try (refine ⟨⟨by omega, by omega⟩, ?_⟩))))
local macro_rules | `(tactic| walk_at "call ref") => `(tactic| (k_here; k_dflt (refine' get_miss_walk ?x0 ?x1 ?x2 ?x3 ?x4 ?x5 ?x6 ?x7 ?x8 ?x9 ?x10 ?_; (case x0 => k_asm); (case x1 => k_asm); (case x2 => k_asm); (case x3 => k_asm); (case x4 => k_room); (case x5 => k_mem); (case x6 => k_mem); (case x7 => k_mem); (case x8 => k_asm); (case x9 => k_asm); (case x10 => k_asm); k_whole); intro h' tk' F' N'; (try k_sweep)))
local macro_rules | `(tactic| walk_at "call ref") => `(tactic| (k_here; k_dflt (refine' set_stay_law ?x0 ?x1 ?x2 ?x3 ?x4 ?x5 ?x6 ?x7 ?x8 ?x9 ?x10 ?x11 ?x12 ?x13 ?x14 ?x15 ?x16 ?x17 ?_; (case x0 => k_asm); (case x1 => k_asm); (case x2 => k_asm); (case x3 => k_asm); (case x4 => k_room); (case x5 => (intro t'; k_upd)); (case x6 => (intro t'; k_updF)); (case x7 => k_mem); (case x8 => k_mem); (case x9 => k_mem); (case x10 => k_mem); (case x11 => k_asm); (case x12 => k_asm); (case x13 => omega); (case x14 => k_asm); (case x15 => omega); (case x16 => k_asm); (case x17 => k_asm); k_whole); intro h' tk' t1' t' l' tl' o' kvs' F' N' hd' hk' hp' hl' a' b' z'; (try dsimp only at N'); (simp only [AllNe] at a' b'); (repeat (obtain ⟨_, a'⟩ := a')); (repeat (obtain ⟨_, b'⟩ := b')); (try k_sweep)))
local macro_rules | `(tactic| walk_at "setItem ref int") => `(tactic| (k_here; k_dflt (refine' kda_set (knd := PySem.intKind _ _) ?F ?N ?U ?d (intKind_is _ _ _ _) ?z ?_; (case F => k_asm); (case N => k_asm); (case U => k_updF); (case d => k_asm); (case z => (rw [sizeLine_eq]; omega))); intro h' o' F' N' hd'; (try dsimp only at N'); (try k_sweep)))
local macro_rules | `(tactic| walk_at "no key z1601") => `(tactic| skip)

set_option maxHeartbeats 8000000 in
theorem turn4 {c dc d x dx ld CL LL O El : Addr} {cnt cap nm far : Int} {tc tcap tth th tf tnm tnn tkk : Tok} {od lo oc : Obj} {kvs lkv : List (Int × Value)} {cl ll : Array Value} {eo : List Int} {k n : Nat} {u : Str → Option Value} {rest : List (Addr × Obj)} {c1 c2 c3 c4 : Nat} {ov ev : List Value} {os : List Int} 
    (X : (Mine.hd.heap_39 w.params).In g) (T : Top Mine.hd.view_39 (looseW Mine.hd.view_39 [Str.ofString "itemgetter", Str.ofString "LRUCache"]) mean mg mb g) (hroom : A.depth < 700) (hh : A.handled = none) (hu : A.units + 200 < cLine)
    (F : Fr g L s.heap (frm CL LL O El (.int far tf) (.int (n : Nat) tnn) (.int (k : Nat) tkk) u))
    (N : News g L s.heap ((c, cacheObj dc cnt tc d x cap tcap tth) :: (dc, dictOf [] 0) :: (d, od) :: (x, lockObj dx) :: (dx, heldObj w.params th false) :: (ld, lo) :: (L + 1, oc) :: (CL, PySem.W.listOf cl c1) :: (LL, PySem.W.listOf ll c2) :: (O, PySem.W.listOf ov.toArray c3) :: (El, PySem.W.listOf ev.toArray c4) :: rest))
    (hoc : oc.data = .cell (some (.int nm tnm))) (hcl : cl[k]? = some (.ref c)) (hll : ll[k]? = some (.ref ld)) (hc5 : cl.size ≤ 1000) (hl5 : ll.size ≤ 1000) (hOs : IntsAre ov os) (hEo : IntsAre ev eo) (ho60 : os.length < 60) (he60 : eo.length < 60)
    (hod : od.IsDictOf (PySem.intKind prog w) kvs) (lo1 : (d == sysModules) = false) (lo2 : (ld == sysModules) = false) (hkl : kvs.length ≤ 100) (hkl2 : kvs.length < 60) (hk5 : k < 5)
    (hth : ((kvs.map (·.1)).any fun x => x == nm) = false) (hfar : decide (far ≤ (k : Int) + 1) = false) 
    (_ : @Ne Nat c dc) (_ : @Ne Nat c d) (_ : @Ne Nat c x) (_ : @Ne Nat c dx) (_ : @Ne Nat c ld) (_ : @Ne Nat c (L + 1)) (_ : @Ne Nat c CL) (_ : @Ne Nat c LL) (_ : @Ne Nat c O) (_ : @Ne Nat c El) (_ : @Ne Nat d dc) (_ : @Ne Nat d x) (_ : @Ne Nat d dx) (_ : @Ne Nat d ld) (_ : @Ne Nat d (L + 1)) (_ : @Ne Nat d CL) (_ : @Ne Nat d LL) (_ : @Ne Nat d O) (_ : @Ne Nat d El) (_ : @Ne Nat ld dc) (_ : @Ne Nat ld x) (_ : @Ne Nat ld dx) (_ : @Ne Nat ld (L + 1)) (_ : @Ne Nat ld CL) (_ : @Ne Nat ld LL) (_ : @Ne Nat ld O) (_ : @Ne Nat ld El)
    (_ : ∀ p ∈ rest, p.1 ≠ c) (_ : ∀ p ∈ rest, p.1 ≠ d) (_ : ∀ p ∈ rest, p.1 ≠ ld)
    (hnd1 : [c, dc, d, x, dx].Nodup) (hlo : lo.IsDictOf (PySem.intKind prog w) lkv) (hlk : lkv.length ≤ 100) (hot : (os.take (k + 1)).length ≤ 50) (hcap : cap = ((k + 1 : Nat) : Int)) (habs : valueAt kvs nm = none) (hperm : (kvs.map (·.1)).Perm (eo.take (k + 1))) (hcap2 : ((os.take (k + 1)).length : Int) ≤ cap) (hp2 : ∀ t : Addr, ((stored kvs nm (.ref t)).map (·.1)).Perm (os.take (k + 1)))
    (hQ : ∀ h' tk' m' t1 (t l : Addr) tl od' lo' G1 G2 G3 G4, m' (Str.ofString "requests") = u (Str.ofString "requests") → Fr g L h' (frm CL LL O El (.int far tf) (.int (n : Nat) tnn) (.int (k : Nat) tkk) m') → News g L h' ((t, tupObj nm tnm (n : Nat) tnn l) :: (l, ctrObj (cnt + 1) tl 0) :: G1 :: G2 :: G3 :: G4 :: (c, cacheObj dc (cnt + 1) t1 d x cap tcap tth) :: (dc, dictOf [] 0) :: (d, od') :: (x, lockObj dx) :: (dx, heldObj w.params th false) :: (ld, lo') :: (L + 1, oc) :: (CL, PySem.W.listOf cl c1) :: (LL, PySem.W.listOf ll c2) :: (O, PySem.W.listOf ov.toArray c3) :: (El, PySem.W.listOf ev.toArray c4) :: rest) → od'.IsDictOf (PySem.intKind prog w) (stored kvs nm (.ref t)) → lo'.IsDictOf (PySem.intKind prog w) (stored lkv nm (.int (n : Nat) tnn)) → (∀ p ∈ (c, cacheObj dc cnt tc d x cap tcap tth) :: (dc, dictOf [] 0) :: (d, od) :: (x, lockObj dx) :: (dx, heldObj w.params th false) :: (ld, lo) :: (L + 1, oc) :: (CL, PySem.W.listOf cl c1) :: (LL, PySem.W.listOf ll c2) :: (O, PySem.W.listOf ov.toArray c3) :: (El, PySem.W.listOf ev.toArray c4) :: rest, p.1 ≠ t) → (∀ p ∈ (c, cacheObj dc cnt tc d x cap tcap tth) :: (dc, dictOf [] 0) :: (d, od) :: (x, lockObj dx) :: (dx, heldObj w.params th false) :: (ld, lo) :: (L + 1, oc) :: (CL, PySem.W.listOf cl c1) :: (LL, PySem.W.listOf ll c2) :: (O, PySem.W.listOf ov.toArray c3) :: (El, PySem.W.listOf ev.toArray c4) :: rest, p.1 ≠ l) → t ≠ l → Q .next { s with heap := h', toks := tk' }) :
    wpAny (model prog w) A (execs innerBody (envOfC (Str.ofString "law") lawScope L fa cd)) Q E s := by
  conv in (innerBody) => whnf
  conv in (lawScope) => whnf
  k_steps
  (rename Fr _ _ _ _ => F')
  (rename News _ _ _ _ => N')
  replace F' := fr_frm (CL := CL) (LL := LL) (O := O) (El := El) (vf := .int far tf) (vn := .int (n : Nat) tnn) (vk := .int (k : Nat) tkk) F' rfl rfl rfl rfl rfl rfl rfl
  refine hQ _ _ _ _ _ _ _ _ _ _ _ _ _ (by rfl) F' (fun p hp => N' p (List.mem_append_right [_, _, _, _] hp)) ?hd ?hl ?nt ?nl ?ntl
  case hd => first | assumption | (subst_vars; assumption)
  case hl => assumption
  case nt =>
    repeat (refine List.forall_mem_cons.mpr ⟨by assumption, ?_⟩)
    exact AllNe.all (by assumption)
  case nl =>
    repeat (refine List.forall_mem_cons.mpr ⟨by assumption, ?_⟩)
    exact AllNe.all (by assumption)
  case ntl => assumption
end


section
variable {prog : Program} {w : World} {A : Around} {s : Shared} {mean : ExcName → Option Value} {mg mb : Str → Option Value} {g : Heap} {L fa : Addr} {cd : Value} {E : Value → Shared → Prop} {Q : Flow → Shared → Prop}
local macro_rules | `(tactic| k_room) => `(tactic| ((try simp only [depth_under_make, depth_under_kw, depth_in1, depth_deeper, depth_caller] at *); (try simp only [recursionLimit] at *); omega))
local macro_rules | `(tactic| k_ne) => `(tactic| (refine neN ?_; (try dsimp only); first | assumption | (refine Ne.symm ?_; assumption)))
local macro_rules | `(tactic| k_all) => `(tactic| assumption)
local macro_rules | `(tactic| walk_at "subscriptTail") => `(tactic| (k_here; (with_reducible show wpAny _ _ (subscriptTail (PySem.Expr.Subscript _ _ _) _ (Value.ref _) (Value.int _ _)) _ _ _); k_dflt (refine' laid_own ?xN ?xm ?xd ?xv ?_ ?xs; (case xN => k_asm); (case xm => k_mem); (case xd => k_asm); (case xv => k_asm); (case xs => with_unfolding_all rfl); k_whole)))
local macro_rules | `(tactic| walk_at "subscriptTail") => `(tactic| (k_here; (with_reducible show wpAny _ _ (subscriptTail (PySem.Expr.Name _ _) _ (Value.ref _) (Value.int _ _)) _ _ _); k_dflt (refine' item_ref ?xN ?xm ?xi ?xz ?_ ?xs; (case xN => k_asm); (case xm => k_mem); (case xi => k_asm); (case xz => k_asm); (case xs => with_unfolding_all rfl); k_whole)))
local macro_rules | `(tactic| walk_at "call type:list") => `(tactic| (k_here; k_dflt (refine' list_own ?x0 ?x1 ?x2 ?x3 ?x4 ?x5 ?x6 ?_; (case x0 => k_asm); (case x1 => k_asm); (case x2 => k_asm); (case x3 => k_asm); (case x4 => k_room); (case x5 => k_asm); (case x6 => (refine' ⟨?q1, ?q2, ?q3, ?q4, ?q5, ?q6⟩; (case q1 => k_mem); (case q2 => k_mem); (case q3 => k_mem); (case q4 => k_asm); (case q5 => k_asm); (case q6 => first | k_asm | omega))); k_whole); intro D' e' vs' h' tk' F' N' l1 hI'; (try k_lt l1); (try k_sweep)))
local macro_rules | `(tactic| walk_at "call builtin:sorted") => `(tactic| (k_here; k_dflt (refine' sorted_own ?x0 ?x1 ?x2 ?x3 ?x4 ?x5 ?x6 ?x7 ?_; (case x0 => k_asm); (case x1 => k_asm); (case x2 => k_asm); (case x3 => k_asm); (case x4 => k_room); (case x5 => k_asm); (case x6 => (refine' ⟨?q1, ?q2, ?q3, ?q4, ?q5, ?q6⟩; (case q1 => k_mem); (case q2 => k_mem); (case q3 => k_mem); (case q4 => k_asm); (case q5 => k_asm); (case q6 => first | k_asm | omega))); (case x7 => omega); k_whole); intro D' e' vs' ns' h' tk' F' N' l1 hI' hp' ho'; (try k_lt l1); (try k_sweep)))
local macro_rules | `(tactic| walk_at "call builtin:sorted") => `(tactic| (k_here; k_dflt (refine' sorted_list ?x0 ?x1 ?x2 ?x3 ?x4 ?_; (case x0 => k_asm); (case x1 => k_asm); (case x2 => k_mem); (case x3 => k_asm); (case x4 => (simp only [List.length_take]; omega)); k_whole); intro D' vs' ns' e' h' F' N' l1 hI' hp' ho'; (try k_lt l1); (try k_sweep)))
local macro_rules | `(tactic| walk_at "compareOp In int ref") => `(tactic| (k_here; k_dflt (refine' in_own ?x0 ?x1 ?x2 ?x3 ?_; (case x0 => k_asm); (case x1 => k_mem); (case x2 => k_asm); (case x3 => k_asm); k_whole)))
local macro_rules | `(tactic| walk_at "compareOp LtE int int") => `(tactic| (k_here; k_dflt (refine' le_own ?x0 ?_; (case x0 => k_asm); k_whole)))
local macro_rules | `(tactic| walk_at "compareOp Eq int int") => `(tactic| (k_here; k_dflt (refine' eqi_own ?x0 ?_; (case x0 => k_asm); k_whole)))
local macro_rules | `(tactic| walk_at "compareOp NotEq int int") => `(tactic| (k_here; k_dflt (refine' nei_own ?x0 ?_; (case x0 => (first | with_reducible rfl | omega)); k_whole)))
local macro_rules | `(tactic| walk_at "compareOp NotEq ref ref") => `(tactic| (k_here; k_dflt (refine' ne_own ?x0 ?x1 ?x2 ?x3 ?x4 ?x5 ?x6 ?x7 ?x8 ?x9 ?x10 ?_; (case x0 => k_asm); (case x1 => k_mem); (case x2 => k_mem); (case x3 => k_asm); (case x4 => k_asm); (case x5 => ((try simp only [units_in1, units_deeper, Around.mark_units]); omega)); (case x6 => k_asm); (case x7 => k_asm); (case x8 => k_asm); (case x9 => k_asm); (case x10 => k_asm); k_whole)))
local macro_rules | `(tactic| walk_at "subscriptTail Name Slice ref ref") => `(tactic| (k_here; k_dflt (refine' slice_own ?x0 ?x1 ?x2 ?x3 ?x4 ?x5 ?_ ?x6 ?x7; (case x0 => k_asm); (case x1 => k_asm); (case x2 => k_mem); (case x3 => k_asm); (case x4 => exact Int.natCast_succ _); (case x5 => omega); (case x6 => with_unfolding_all rfl); (case x7 => (intro _; with_unfolding_all rfl)); k_whole); intro h' S' us' F' N' l1 hI'; (try k_lt l1); (try k_sweep)))
local macro_rules | `(tactic| walk_at "call ref") => `(tactic| (k_here; k_dflt (refine' len_walk ?x0 ?x1 ?x2 ?x3 ?x4 ?x5 ?x6 ?x7 ?x8 ?x9 ?x10 ?_; (case x0 => k_asm); (case x1 => k_asm); (case x2 => k_asm); (case x3 => k_asm); (case x4 => k_room); (case x5 => k_mem); (case x6 => k_mem); (case x7 => k_mem); (case x8 => k_asm); (case x9 => k_asm); (case x10 => omega); k_whole); intro h' tk' t' F' N'; (try k_sweep); (try dsimp only [PySem.W.LenBack]); (try (refine ⟨⟨by omega, by omega⟩, ?_⟩))))
local macro_rules | `(tactic| walk_at "call ref") => `(tactic| (k_here; k_dflt (refine' get_miss_walk ?x0 ?x1 ?x2 ?x3 ?x4 ?x5 ?x6 ?x7 ?x8 ?x9 ?x10 ?_; (case x0 => k_asm); (case x1 => k_asm); (case x2 => k_asm); (case x3 => k_asm); (case x4 => k_room); (case x5 => k_mem); (case x6 => k_mem); (case x7 => k_mem); (case x8 => k_asm); (case x9 => k_asm); (case x10 => k_asm); k_whole); intro h' tk' F' N'; (try k_sweep)))
local macro_rules | `(tactic| walk_at "call ref") => `(tactic| (k_here; k_dflt (refine' set_evict_law ?x0 ?x1 ?x2 ?x3 ?x4 ?x5 ?x6 ?x7 ?x8 ?x9 ?x10 ?x11 ?x12 ?x13 ?x14 ?x15 ?x16 ?x17 ?x18 ?x19 ?x20 ?x21 ?x22 ?x23 ?x24 ?x25 ?x26 ?x27 ?x28 ?x29 ?x30 ?_; (case x0 => k_asm); (case x1 => k_asm); (case x2 => k_asm); (case x3 => k_asm); (case x4 => k_room); (case x5 => (intro t'; k_upd)); (case x6 => (intro t'; k_updF)); (case x7 => k_mem); (case x8 => k_mem); (case x9 => k_mem); (case x10 => k_mem); (case x11 => k_asm); (case x12 => k_asm); (case x13 => omega); (case x14 => k_asm); (case x15 => k_asm); (case x16 => k_asm); (case x17 => k_asm); (case x18 => ((try simp only [units_in1, units_deeper, Around.mark_units]); omega)); (case x20 => k_asm); (case x19 => (intro p hp; repeat (first | exact hp | refine List.Mem.tail _ ?_))); (case x21 => k_asm); (case x22 => k_asm); (case x23 => k_asm); (case x24 => k_asm); (case x25 => k_asm); (case x26 => k_asm); (case x27 => omega); (case x28 => k_asm); (case x29 => omega); (case x30 => k_asm); k_whole); intro h' tk' t1' t' l' tl' o' kvs' F' N' hd' hk' hp' hl' a' b' z'; (try dsimp only at N'); (simp only [AllNe] at a' b'); (repeat (obtain ⟨_, a'⟩ := a')); (repeat (obtain ⟨_, b'⟩ := b')); (try k_sweep)))
local macro_rules | `(tactic| walk_at "setItem ref int") => `(tactic| (k_here; k_dflt (refine' kda_set (knd := PySem.intKind _ _) ?F ?N ?U ?d (intKind_is _ _ _ _) ?z ?_; (case F => k_asm); (case N => k_asm); (case U => k_updF); (case d => k_asm); (case z => (rw [sizeLine_eq]; omega))); intro h' o' F' N' hd'; (try dsimp only at N'); (try k_sweep)))
local macro_rules | `(tactic| walk_at "no key z1701") => `(tactic| skip)
local macro_rules | `(tactic| walk_at "no key z1702") => `(tactic| skip)

set_option maxHeartbeats 8000000 in
theorem turn5 {c dc d x dx ld CL LL O El : Addr} {cnt cap nm far : Int} {tc tcap tth th tf tnm tnn tkk : Tok} {od lo oc : Obj} {kvs lkv : List (Int × Value)} {cl ll : Array Value} {eo : List Int} {k n : Nat} {u : Str → Option Value} {rest : List (Addr × Obj)} {c1 c2 c3 c4 : Nat} {ov ev : List Value} {os : List Int} {es : List Ent} {e0 : Ent}
    (X : (Mine.hd.heap_39 w.params).In g) (T : Top Mine.hd.view_39 (looseW Mine.hd.view_39 [Str.ofString "itemgetter", Str.ofString "LRUCache"]) mean mg mb g) (hroom : A.depth < 700) (hh : A.handled = none) (hu : A.units + 200 < cLine)
    (F : Fr g L s.heap (frm CL LL O El (.int far tf) (.int (n : Nat) tnn) (.int (k : Nat) tkk) u))
    (N : News g L s.heap ((c, cacheObj dc cnt tc d x cap tcap tth) :: (dc, dictOf [] 0) :: (d, od) :: (x, lockObj dx) :: (dx, heldObj w.params th false) :: (ld, lo) :: (L + 1, oc) :: (CL, PySem.W.listOf cl c1) :: (LL, PySem.W.listOf ll c2) :: (O, PySem.W.listOf ov.toArray c3) :: (El, PySem.W.listOf ev.toArray c4) :: rest))
    (hoc : oc.data = .cell (some (.int nm tnm))) (hcl : cl[k]? = some (.ref c)) (hll : ll[k]? = some (.ref ld)) (hc5 : cl.size ≤ 1000) (hl5 : ll.size ≤ 1000) (hOs : IntsAre ov os) (hEo : IntsAre ev eo) (ho60 : os.length < 60) (he60 : eo.length < 60)
    (hod : od.IsDictOf (PySem.intKind prog w) kvs) (lo1 : (d == sysModules) = false) (lo2 : (ld == sysModules) = false) (hkl : kvs.length ≤ 100) (hkl2 : kvs.length < 60) (hk5 : k < 5)
    (hth : ((kvs.map (·.1)).any fun x => x == nm) = false) (hfar : decide (far ≤ (k : Int) + 1) = false) 
    (_ : @Ne Nat c dc) (_ : @Ne Nat c d) (_ : @Ne Nat c x) (_ : @Ne Nat c dx) (_ : @Ne Nat c ld) (_ : @Ne Nat c (L + 1)) (_ : @Ne Nat c CL) (_ : @Ne Nat c LL) (_ : @Ne Nat c O) (_ : @Ne Nat c El) (_ : @Ne Nat d dc) (_ : @Ne Nat d x) (_ : @Ne Nat d dx) (_ : @Ne Nat d ld) (_ : @Ne Nat d (L + 1)) (_ : @Ne Nat d CL) (_ : @Ne Nat d LL) (_ : @Ne Nat d O) (_ : @Ne Nat d El) (_ : @Ne Nat ld dc) (_ : @Ne Nat ld x) (_ : @Ne Nat ld dx) (_ : @Ne Nat ld (L + 1)) (_ : @Ne Nat ld CL) (_ : @Ne Nat ld LL) (_ : @Ne Nat ld O) (_ : @Ne Nat ld El)
    (_ : ∀ p ∈ rest, p.1 ≠ c) (_ : ∀ p ∈ rest, p.1 ≠ d) (_ : ∀ p ∈ rest, p.1 ≠ ld)
    (hnd1 : [c, dc, d, x, dx].Nodup) (hlo : lo.IsDictOf (PySem.intKind prog w) lkv) (hlk : lkv.length ≤ 100) (hot : (os.take (k + 1)).length ≤ 50) (hcap : cap = ((k + 1 : Nat) : Int)) (habs : valueAt kvs nm = none) (hperm : (kvs.map (·.1)).Perm (eo.take (k + 1))) (hkv : kvs = kvsOf es) (hes : ∀ e ∈ es, (e.t, e.tup) ∈ rest ∧ (e.l, e.ctr) ∈ rest) (hct : (es.map (·.ct)).Nodup) (hcb : ∀ e ∈ es, e.ct < cnt + 1) (htn : (es.map (·.t)).Nodup)
    (h0 : e0 ∈ es) (hmin : ∀ e ∈ es, e0.ct ≤ e.ct) (hn : es.length = k + 1) (hp2 : ∀ t : Addr, ((without (kvs ++ [(nm, .ref t)]) e0.nm).map (·.1)).Perm (os.take (k + 1)))
    (hQ : ∀ h' tk' m' t1 (t l : Addr) tl od' lo' G1 G2 G3 G4, m' (Str.ofString "requests") = u (Str.ofString "requests") → Fr g L h' (frm CL LL O El (.int far tf) (.int (n : Nat) tnn) (.int (k : Nat) tkk) m') → News g L h' ((t, tupObj nm tnm (n : Nat) tnn l) :: (l, ctrObj (cnt + 1) tl 0) :: G1 :: G2 :: G3 :: G4 :: (c, cacheObj dc (cnt + 1) t1 d x cap tcap tth) :: (dc, dictOf [] 0) :: (d, od') :: (x, lockObj dx) :: (dx, heldObj w.params th false) :: (ld, lo') :: (L + 1, oc) :: (CL, PySem.W.listOf cl c1) :: (LL, PySem.W.listOf ll c2) :: (O, PySem.W.listOf ov.toArray c3) :: (El, PySem.W.listOf ev.toArray c4) :: rest) → od'.IsDictOf (PySem.intKind prog w) (without (kvs ++ [(nm, .ref t)]) e0.nm) → lo'.IsDictOf (PySem.intKind prog w) (stored lkv nm (.int (n : Nat) tnn)) → (∀ p ∈ (c, cacheObj dc cnt tc d x cap tcap tth) :: (dc, dictOf [] 0) :: (d, od) :: (x, lockObj dx) :: (dx, heldObj w.params th false) :: (ld, lo) :: (L + 1, oc) :: (CL, PySem.W.listOf cl c1) :: (LL, PySem.W.listOf ll c2) :: (O, PySem.W.listOf ov.toArray c3) :: (El, PySem.W.listOf ev.toArray c4) :: rest, p.1 ≠ t) → (∀ p ∈ (c, cacheObj dc cnt tc d x cap tcap tth) :: (dc, dictOf [] 0) :: (d, od) :: (x, lockObj dx) :: (dx, heldObj w.params th false) :: (ld, lo) :: (L + 1, oc) :: (CL, PySem.W.listOf cl c1) :: (LL, PySem.W.listOf ll c2) :: (O, PySem.W.listOf ov.toArray c3) :: (El, PySem.W.listOf ev.toArray c4) :: rest, p.1 ≠ l) → t ≠ l → Q .next { s with heap := h', toks := tk' }) :
    wpAny (model prog w) A (execs innerBody (envOfC (Str.ofString "law") lawScope L fa cd)) Q E s := by
  conv in (innerBody) => whnf
  conv in (lawScope) => whnf
  k_steps
  (rename Fr _ _ _ _ => F')
  (rename News _ _ _ _ => N')
  replace F' := fr_frm (CL := CL) (LL := LL) (O := O) (El := El) (vf := .int far tf) (vn := .int (n : Nat) tnn) (vk := .int (k : Nat) tkk) F' rfl rfl rfl rfl rfl rfl rfl
  refine hQ _ _ _ _ _ _ _ _ _ _ _ _ _ (by rfl) F' (fun p hp => N' p (List.mem_append_right [_, _, _, _] hp)) ?hd ?hl ?nt ?nl ?ntl
  case hd => first | assumption | (subst_vars; assumption)
  case hl => assumption
  case nt =>
    repeat (refine List.forall_mem_cons.mpr ⟨by assumption, ?_⟩)
    exact AllNe.all (by assumption)
  case nl =>
    repeat (refine List.forall_mem_cons.mpr ⟨by assumption, ?_⟩)
    exact AllNe.all (by assumption)
  case ntl => assumption
end


section plain
/-- names after a request, newest first -/
def newer (nm : Int) (l : List Int) : List Int := nm :: l.filter fun x => x != nm

theorem split_at {α β : Type} {f : α → β} {b : β} : ∀ {l : List α}, b ∈ l.map f → ∃ p x q, l = p ++ x :: q ∧ f x = b
  | l, h => by
    obtain ⟨x, hx, e⟩ := List.mem_map.mp h
    obtain ⟨p, q, e2⟩ := List.append_of_mem hx
    exact ⟨p, x, q, e2, e⟩

theorem filter_ne {l : List Int} {nm : Int} (h : nm ∉ l) : l.filter (fun x => x != nm) = l := by
  rw [List.filter_eq_self]
  intro a ha
  simp only [bne_iff_ne, ne_eq]
  intro e; exact h (e ▸ ha)

theorem take_newer_hit {p q l : List Int} {nm : Int} {k : Nat} (hn : l.Nodup) (e : l.take (k + 1) = p ++ nm :: q) : (newer nm l).take (k + 1) = nm :: (p ++ q) := by
  have hl : l = p ++ nm :: q ++ l.drop (k + 1) := by rw [← e, List.take_append_drop]
  have hn' := hn
  rw [hl] at hn'
  rw [List.append_assoc, List.cons_append] at hn'
  have h1 := (List.nodup_append.mp hn')
  have h2 := (List.nodup_cons.mp h1.2.1)
  have np : nm ∉ p := fun z => h1.2.2 nm z nm (.head _) rfl
  have nq : nm ∉ q := fun z => h2.1 (List.mem_append_left _ z)
  have nr : nm ∉ l.drop (k + 1) := fun z => h2.1 (List.mem_append_right _ z)
  have e2 : l.filter (fun x => x != nm) = p ++ q ++ l.drop (k + 1) := by
    conv => lhs; rw [hl]
    rw [List.filter_append, List.filter_append, List.filter_cons, filter_ne np, filter_ne nq, filter_ne nr]
    simp
  unfold newer
  rw [e2, List.take_succ_cons]
  congr 1
  by_cases hk : k + 1 ≤ l.length
  · have h3 : (p ++ nm :: q).length = k + 1 := by rw [← e, List.length_take]; omega
    have h4 : (p ++ q).length = k := by simp at h3 ⊢; omega
    rw [List.take_append_of_le_length (by omega), List.take_of_length_le (by omega)]
  · have h3 : l.drop (k + 1) = [] := List.drop_of_length_le (by omega)
    have h4 : (p ++ nm :: q).length ≤ k := by rw [← e, List.length_take]; omega
    rw [h3, List.append_nil]
    exact List.take_of_length_le (by simp at h4 ⊢; omega)

theorem take_filter_miss {nm : Int} : ∀ {l : List Int} {j : Nat}, nm ∉ l.take j → (l.filter fun x => x != nm).take j = l.take j
  | [], j, _ => by simp
  | a :: r, 0, _ => by simp
  | a :: r, j + 1, h => by
    rw [List.take_succ_cons, List.mem_cons, not_or] at h
    have ha : (a != nm) = true := by simp only [bne_iff_ne, ne_eq]; exact fun z => h.1 z.symm
    rw [List.filter_cons, if_pos ha, List.take_succ_cons, List.take_succ_cons, take_filter_miss h.2]

theorem take_newer_miss {l : List Int} {nm : Int} {k : Nat} (h : nm ∉ l.take (k + 1)) : (newer nm l).take (k + 1) = nm :: l.take k := by
  unfold newer
  rw [List.take_succ_cons, take_filter_miss]
  intro z
  exact h (List.mem_of_mem_take (List.take_take (l := l) ▸ (by rw [Nat.min_eq_left (Nat.le_succ k)]; exact z : nm ∈ l.take (min k (k + 1)))))

theorem newer_nodup {l : List Int} {nm : Int} (h : l.Nodup) : (newer nm l).Nodup := by
  unfold newer
  rw [List.nodup_cons]
  refine ⟨fun z => ?_, h.sublist List.filter_sublist⟩
  have := (List.mem_filter.mp z).2
  simp at this

theorem newer_length {l : List Int} {nm : Int} : (newer nm l).length ≤ l.length + 1 := by
  unfold newer
  have := List.length_filter_le (fun x => x != nm) l
  simp; omega

theorem nd_count {old new : List Nat} {t l : Nat} (h : old.Nodup) (ht : t ∉ old) (hl : l ∉ old) (htl : t ≠ l) (hc : ∀ a, new.count a ≤ old.count a + (if a = t then 1 else 0) + (if a = l then 1 else 0)) : new.Nodup := by
  rw [List.nodup_iff_count] at h ⊢
  intro a
  have h1 := h a
  have h2 := hc a
  by_cases e1 : a = t
  · rw [if_pos e1, if_neg (fun z => htl (e1.symm.trans z))] at h2
    have : old.count a = 0 := List.count_eq_zero.mpr (e1 ▸ ht)
    omega
  · by_cases e2 : a = l
    · rw [if_neg e1, if_pos e2] at h2
      have : old.count a = 0 := List.count_eq_zero.mpr (e2 ▸ hl)
      omega
    · rw [if_neg e1, if_neg e2] at h2
      omega
end plain

def entNews (es : List Ent) : List (Addr × Obj) := es.flatMap fun e => [(e.t, e.tup), (e.l, e.ctr)]
theorem entNews_append (a b : List Ent) : entNews (a ++ b) = entNews a ++ entNews b := by unfold entNews; rw [List.flatMap_append]
theorem entNews_cons (e : Ent) (b : List Ent) : entNews (e :: b) = (e.t, e.tup) :: (e.l, e.ctr) :: entNews b := rfl
theorem entNews_mem {es : List Ent} {e : Ent} (h : e ∈ es) : (e.t, e.tup) ∈ entNews es ∧ (e.l, e.ctr) ∈ entNews es := by
  obtain ⟨p, q, rfl⟩ := List.append_of_mem h
  rw [entNews_append, entNews_cons]
  simp

/-- one cache and its shadow dict -/
structure Cch where
  c : Addr
  dc : Addr
  d : Addr
  x : Addr
  dx : Addr
  ld : Addr
  cnt : Int
  tc : Tok
  tcap : Tok
  tth : Tok
  th : Tok
  od : Obj
  lo : Obj
  es : List Ent
  lkv : List (Int × Value)

abbrev Cch.hd (C : Cch) (w : World) (k : Nat) : List (Addr × Obj) :=
  [(C.c, cacheObj C.dc C.cnt C.tc C.d C.x ((k + 1 : Nat) : Int) C.tcap C.tth), (C.dc, dictOf [] 0), (C.d, C.od), (C.x, lockObj C.dx), (C.dx, heldObj w.params C.th false), (C.ld, C.lo)]

structure Cch.Ok (C : Cch) (prog : Program) (w : World) (k : Nat) (ord : List Int) (n : Nat) : Prop where
  od : C.od.IsDictOf (PySem.intKind prog w) (kvsOf C.es)
  lo : C.lo.IsDictOf (PySem.intKind prog w) C.lkv
  d0 : (C.d == sysModules) = false
  l0 : (C.ld == sysModules) = false
  ex : ∃ rs : List Ent, rs.Perm C.es ∧ rs.map (·.nm) = ord.take (k + 1) ∧ rs.Pairwise (fun a b => b.ct < a.ct)
  ct : ∀ e ∈ C.es, e.ct ≤ C.cnt
  lv : ∀ e ∈ C.es, ∃ t, valueAt C.lkv e.nm = some (.int e.vl t)
  lk : C.lkv.length ≤ n

theorem dict_nodup {prog : Program} {w : World} {o : Obj} {kvs : List (Int × Value)} (h : o.IsDictOf (PySem.intKind prog w) kvs) : (kvs.map (·.1)).Nodup := by
  obtain ⟨_, _, _, _, _, _, z⟩ := h; exact z

theorem kvs_names (es : List Ent) : (kvsOf es).map (·.1) = es.map (·.nm) := by simp [kvsOf]

theorem valueAt_mem {kvs : List (Int × Value)} {k : Int} {v : Value} (hn : (kvs.map (·.1)).Nodup) (h : (k, v) ∈ kvs) : valueAt kvs k = some v := by
  induction kvs with
  | nil => cases h
  | cons p r ih =>
    rw [List.map_cons, List.nodup_cons] at hn
    unfold valueAt
    by_cases hp : p.1 = k
    · rw [List.find?_cons_of_pos (by simp [hp])]
      rcases List.mem_cons.mp h with e | e
      · rw [← e]; rfl
      · exact absurd (List.mem_map.mpr ⟨_, e, rfl⟩) (by rw [hp] at hn; exact hn.1)
    · rw [List.find?_cons_of_neg (by simp [hp])]
      rcases List.mem_cons.mp h with e | e
      · exact absurd (by rw [← e]) hp
      · exact ih hn.2 e
theorem valueAt_none {kvs : List (Int × Value)} {k : Int} (h : k ∉ kvs.map (·.1)) : valueAt kvs k = none := by
  cases e : valueAt kvs k with
  | none => rfl
  | some v => exact absurd (valueAt_isSome.mp (by rw [e]; rfl)) h

theorem stored_mid {a b : List (Int × Value)} {k : Int} {u v : Value} (hn : ((a ++ (k, u) :: b).map (·.1)).Nodup) : stored (a ++ (k, u) :: b) k v = a ++ (k, v) :: b := by
  have hn' := hn
  rw [List.map_append, List.map_cons] at hn'
  have h1 := List.nodup_append.mp hn'
  have h2 := List.nodup_cons.mp h1.2.1
  have na : ∀ p ∈ a, p.1 ≠ k := fun p hp z => h1.2.2 p.1 (List.mem_map_of_mem hp) k (.head _) z
  have nb : ∀ p ∈ b, p.1 ≠ k := fun p hp z => h2.1 (List.mem_map.mpr ⟨p, hp, z⟩)
  unfold stored
  rw [if_pos (by simp)]
  rw [List.map_append, List.map_cons]
  congr 1
  · conv => rhs; rw [← List.map_id a]
    refine List.map_congr_left fun p hp => ?_
    simp [na p hp]
  · congr 1
    · simp
    · conv => rhs; rw [← List.map_id b]
      refine List.map_congr_left fun p hp => ?_
      simp [nb p hp]
theorem without_mid {a b : List (Int × Value)} {k : Int} {u : Value} (hn : ((a ++ (k, u) :: b).map (·.1)).Nodup) : without (a ++ (k, u) :: b) k = a ++ b := by
  have hn' := hn
  rw [List.map_append, List.map_cons] at hn'
  have h1 := List.nodup_append.mp hn'
  have h2 := List.nodup_cons.mp h1.2.1
  have na : k ∉ a.map (·.1) := fun z => h1.2.2 k z k (.head _) rfl
  have e1 := without_of_not_mem a k na
  have e2 := without_of_not_mem b k h2.1
  unfold without at e1 e2 ⊢
  rw [List.filter_append, List.filter_cons, e1, e2]
  simp
theorem valueAt_cons {p : Int × Value} {r : List (Int × Value)} {j : Int} : valueAt (p :: r) j = if p.1 = j then some p.2 else valueAt r j := by
  unfold valueAt
  by_cases h : p.1 = j
  · rw [List.find?_cons_of_pos (by simp [h]), if_pos h]; rfl
  · rw [List.find?_cons_of_neg (by simp [h]), if_neg h]
theorem valueAt_map_ne {k j : Int} {v : Value} (hj : j ≠ k) : ∀ kvs : List (Int × Value), valueAt (kvs.map fun kv => if kv.1 = k then (kv.1, v) else kv) j = valueAt kvs j
  | [] => rfl
  | p :: r => by
    rw [List.map_cons, valueAt_cons, valueAt_cons, valueAt_map_ne hj r]
    by_cases h : p.1 = k
    · rw [if_pos h]
      have h' : ¬ p.1 = j := fun z => hj (z.symm.trans h)
      simp [h']
    · rw [if_neg h]
theorem valueAt_map_eq {k : Int} {v : Value} : ∀ kvs : List (Int × Value), kvs.any (fun kv => kv.1 = k) = true → valueAt (kvs.map fun kv => if kv.1 = k then (kv.1, v) else kv) k = some v
  | [], h => by simp at h
  | p :: r, h => by
    rw [List.map_cons, valueAt_cons]
    by_cases hp : p.1 = k
    · rw [if_pos hp]; simp [hp]
    · rw [if_neg hp, if_neg hp]
      refine valueAt_map_eq r ?_
      simpa [hp] using h
theorem valueAt_append {a b : List (Int × Value)} {j : Int} (h : j ∉ a.map (·.1)) : valueAt (a ++ b) j = valueAt b j := by
  induction a with
  | nil => rfl
  | cons p r ih =>
    rw [List.map_cons, List.mem_cons, not_or] at h
    rw [List.cons_append, valueAt_cons, if_neg (fun z => h.1 z.symm), ih h.2]
theorem valueAt_append_some {a b : List (Int × Value)} {j : Int} {v : Value} (h : valueAt a j = some v) : valueAt (a ++ b) j = some v := by
  induction a with
  | nil => cases h
  | cons p r ih =>
    rw [valueAt_cons] at h
    rw [List.cons_append, valueAt_cons]
    by_cases hp : p.1 = j
    · rw [if_pos hp] at h ⊢; exact h
    · rw [if_neg hp] at h ⊢; exact ih h
theorem valueAt_stored_eq {kvs : List (Int × Value)} {k : Int} {v : Value} : valueAt (stored kvs k v) k = some v := by
  unfold stored
  by_cases h : kvs.any (fun kv => kv.1 = k) = true
  · rw [if_pos h]; exact valueAt_map_eq kvs h
  · rw [if_neg h]
    rw [valueAt_append, valueAt_cons, if_pos rfl]
    intro z
    obtain ⟨p, hp, e⟩ := List.mem_map.mp z
    exact h (List.any_eq_true.mpr ⟨p, hp, by simpa using e⟩)
theorem valueAt_stored_ne {kvs : List (Int × Value)} {k j : Int} {v w : Value} (hj : j ≠ k) (h : valueAt kvs j = some w) : valueAt (stored kvs k v) j = some w := by
  unfold stored
  split
  · rw [valueAt_map_ne hj]; exact h
  · exact valueAt_append_some h
theorem stored_len {kvs : List (Int × Value)} {k : Int} {v : Value} : (stored kvs k v).length ≤ kvs.length + 1 := by
  unfold stored
  split <;> simp


section
theorem nd_ne {l : List Nat} (h : l.Nodup) (i j : Nat) (hij : i < j) {a b : Nat} (ha : l[i]? = some a) (hb : l[j]? = some b) : a ≠ b := by
  have h1 := List.getElem?_eq_some_iff.mp ha
  have h2 := List.getElem?_eq_some_iff.mp hb
  obtain ⟨hi, e1⟩ := h1
  obtain ⟨hj, e2⟩ := h2
  have := List.pairwise_iff_getElem.mp h i j hi hj hij
  rw [e1, e2] at this
  exact this
theorem nd_rest {l : List Nat} {k : Nat} (h : l.Nodup) (i : Nat) (hi : i < k) {a : Nat} {rest : List (Addr × Obj)} (ha : l[i]? = some a) (hr : l.drop k = rest.map (·.1)) : ∀ p ∈ rest, p.1 ≠ a := fun p hp z => by
  have h1 : p.1 ∈ l.drop k := by rw [hr]; exact List.mem_map_of_mem hp
  obtain ⟨j, hj, e⟩ := List.mem_iff_getElem.mp h1
  rw [List.getElem_drop] at e
  exact nd_ne h i (k + j) (by omega) ha (by rw [← z, ← e]; exact List.getElem?_eq_getElem _) rfl

/-- the other objects of the law that the turn's ledger names -/
abbrev tail5 (L : Addr) (oc : Obj) (CL : Addr) (cl : Array Value) (c1 : Nat) (LL : Addr) (ll : Array Value) (c2 : Nat) (O : Addr) (ov : List Value) (c3 : Nat) (El : Addr) (ev : List Value) (c4 : Nat) : List (Addr × Obj) :=
  [(L + 1, oc), (CL, PySem.W.listOf cl c1), (LL, PySem.W.listOf ll c2), (O, PySem.W.listOf ov.toArray c3), (El, PySem.W.listOf ev.toArray c4)]

theorem ok_next {prog : Program} {w : World} {C' : Cch} {k n : Nat} {cnt : Int} {ord' : List Int} {e1 : Ent} {R S : List Ent} (hR : R.Perm S) (hes : C'.es.Perm (e1 :: S)) (hS : ∀ e ∈ S, e.ct ≤ cnt) (hp : R.Pairwise (fun a b => b.ct < a.ct))
    (hm : e1.nm :: R.map (·.nm) = ord'.take (k + 1)) (h1 : e1.ct = cnt + 1) (hc : C'.cnt = cnt + 1) (od' : C'.od.IsDictOf (PySem.intKind prog w) (kvsOf C'.es)) (lo' : C'.lo.IsDictOf (PySem.intKind prog w) C'.lkv)
    (d0 : (C'.d == sysModules) = false) (l0 : (C'.ld == sysModules) = false) (hlv : ∀ e ∈ e1 :: S, ∃ t, valueAt C'.lkv e.nm = some (.int e.vl t)) (lk : C'.lkv.length ≤ n) : C'.Ok prog w k ord' n where
  od := od'
  lo := lo'
  d0 := d0
  l0 := l0
  ex := ⟨e1 :: R, (hR.cons _).trans hes.symm, hm, List.pairwise_cons.mpr ⟨fun e he => by have := hS e (hR.mem_iff.mp he); omega, hp⟩⟩
  ct := fun e he => by
    rcases List.mem_cons.mp (hes.mem_iff.mp he) with z | z
    · rw [z, h1, hc]; exact Int.le_refl _
    · have := hS e z; omega
  lv := fun e he => hlv e (hes.mem_iff.mp he)
  lk := lk

theorem tsub : ∀ es : List Ent, (es.map (·.t)).Sublist ((entNews es).map (·.1))
  | [] => List.Sublist.refl _
  | e :: r => by rw [entNews_cons]; exact ((tsub r).cons _).cons_cons _
theorem perm_mid {α : Type} {p q a b : List α} {x : α} (h : (p ++ x :: q).Perm (a ++ x :: b)) : (p ++ q).Perm (a ++ b) :=
  (List.perm_cons x).mp (List.perm_middle.symm.trans (h.trans List.perm_middle))
end
section
variable {prog : Program} {w : World} {A : Around} {s : Shared} {mean : ExcName → Option Value} {mg mb : Str → Option Value} {g : Heap} {L fa : Addr} {cd : Value} {E : Value → Shared → Prop} {Q : Flow → Shared → Prop}

set_option maxHeartbeats 4000000 in
theorem turn {C : Cch} {k n : Nat} {elder : List Int} {nm far : Int} {tf tnm tnn tkk : Tok} {CL LL O El : Addr} {oc : Obj} {cl ll : Array Value} {u : Str → Option Value} {rest : List (Addr × Obj)} {c1 c2 c3 c4 : Nat} {ov ev : List Value}
    (X : (Mine.hd.heap_39 w.params).In g) (T : Top Mine.hd.view_39 (looseW Mine.hd.view_39 [Str.ofString "itemgetter", Str.ofString "LRUCache"]) mean mg mb g) (hroom : A.depth < 700) (hh : A.handled = none) (hu : A.units + 200 < cLine)
    (F : Fr g L s.heap (frm CL LL O El (.int far tf) (.int (n : Nat) tnn) (.int (k : Nat) tkk) u))
    (N : News g L s.heap (C.hd w k ++ (tail5 L oc CL cl c1 LL ll c2 O ov c3 El ev c4 ++ (entNews C.es ++ rest))))
    (hnd : ((C.hd w k ++ (tail5 L oc CL cl c1 LL ll c2 O ov c3 El ev c4 ++ (entNews C.es ++ rest))).map (·.1)).Nodup)
    (hoc : oc.data = .cell (some (.int nm tnm))) (hcl : cl[k]? = some (.ref C.c)) (hll : ll[k]? = some (.ref C.ld)) (hc5 : cl.size ≤ 1000) (hl5 : ll.size ≤ 1000) (hOs : IntsAre ov (newer nm elder)) (hEo : IntsAre ev elder)
    (he : elder.length < 50) (hen : elder.Nodup) (hk5 : k < 5) (hn60 : n ≤ 60) (hfar : decide (far ≤ (k : Int) + 1) = decide (nm ∈ elder.take (k + 1)))
    (Ok : C.Ok prog w k elder n)
    (hQ : ∀ h' tk' m' (C' : Cch), C'.c = C.c → C'.ld = C.ld → C'.Ok prog w k (newer nm elder) (n + 1) → m' (Str.ofString "requests") = u (Str.ofString "requests") → Fr g L h' (frm CL LL O El (.int far tf) (.int (n : Nat) tnn) (.int (k : Nat) tkk) m') →
      News g L h' (C'.hd w k ++ (tail5 L oc CL cl c1 LL ll c2 O ov c3 El ev c4 ++ (entNews C'.es ++ rest))) → ((C'.hd w k ++ (tail5 L oc CL cl c1 LL ll c2 O ov c3 El ev c4 ++ (entNews C'.es ++ rest))).map (·.1)).Nodup →
      Q .next { s with heap := h', toks := tk' }) :
    wpAny (model prog w) A (execs innerBody (envOfC (Str.ofString "law") lawScope L fa cd)) Q E s := by
  obtain ⟨c, dc, d, x, dx, ld, cnt, tc, tcap, tth, th, od, lo, es, lkv⟩ := C
  obtain ⟨hod, hlo, d0, l0, ⟨rs, prs, mrs, ors⟩, hct, hlv, hlk⟩ := Ok
  dsimp only at hod hlo d0 l0 prs hct hlv hlk hcl hll
  have hon : (newer nm elder).length < 60 := by have := newer_length (l := elder) (nm := nm); omega
  have hkn : (es.map (·.nm)).Nodup := by have := dict_nodup hod; rwa [kvs_names] at this
  have hpm : (es.map (·.nm)).Perm (elder.take (k + 1)) := by rw [← mrs]; exact (prs.map _).symm
  have hperm : ((kvsOf es).map (·.1)).Perm (elder.take (k + 1)) := by rw [kvs_names]; exact hpm
  have hlen : (kvsOf es).length = (elder.take (k + 1)).length := by have := hpm.length_eq; simpa [kvsOf] using this
  have hlen6 : (kvsOf es).length ≤ 6 := by rw [hlen, List.length_take]; omega
  have esl : es.length = (kvsOf es).length := by simp [kvsOf]
  have hot : ((newer nm elder).take (k + 1)).length ≤ k + 1 := by rw [List.length_take]; omega
  have hfm : ((n : Nat) : Int).fmod 3 = ((n % 3 : Nat) : Int) := by rw [Int.fmod_eq_emod_of_nonneg _ (by decide)]; omega
  by_cases hin : nm ∈ elder.take (k + 1)
  · rw [decide_eq_true hin] at hfar
    have hth : (((kvsOf es).map (·.1)).any fun x => x == nm) = true := List.any_eq_true.mpr ⟨nm, hperm.mem_iff.mpr hin, by simp⟩
    obtain ⟨p, e0, q, ers, hnm⟩ := split_at (f := fun e : Ent => e.nm) (b := nm) (l := rs) (by rw [mrs]; exact hin)
    have he0 : e0 ∈ es := prs.mem_iff.mp (by rw [ers]; simp)
    obtain ⟨a, b, ees⟩ := List.append_of_mem he0
    have ppq : (p ++ q).Perm (a ++ b) := perm_mid (x := e0) (by rw [← ers, ← ees]; exact prs)
    have hnew : nm :: (p ++ q).map (·.nm) = (newer nm elder).take (k + 1) := by
      have := take_newer_hit (nm := nm) (p := p.map (·.nm)) (q := q.map (·.nm)) (k := k) hen (by rw [← mrs, ers, List.map_append, List.map_cons, hnm])
      rw [this, List.map_append]
    have hab : ∀ e ∈ a ++ b, e ∈ es := fun e h => by
      rw [ees]
      rcases List.mem_append.mp h with h | h
      · exact List.mem_append_left _ h
      · exact List.mem_append_right _ (.tail _ h)
    have hS : ∀ e ∈ a ++ b, e.ct ≤ cnt := fun e h => hct e (hab e h)
    have hpw : (p ++ q).Pairwise (fun a b => b.ct < a.ct) := by
      rw [ers] at ors
      exact ors.sublist (List.Sublist.append_left (List.sublist_cons_self _ _) _)
    have hpn : ((kvsOf es).map (·.1)).Perm ((newer nm elder).take (k + 1)) := by
      rw [← hnew, kvs_names, ees, List.map_append, List.map_cons, hnm]
      refine List.perm_middle.trans (List.Perm.cons _ ?_)
      rw [← List.map_append]
      exact (ppq.map _).symm
    have hne0 : ∀ e ∈ a ++ b, e.nm ≠ nm := by
      rw [ees, List.map_append, List.map_cons] at hkn
      have h1 := (List.perm_middle.nodup_iff).mp hkn
      rw [List.nodup_cons] at h1
      intro e he z
      refine h1.1 ?_
      rw [hnm, ← z, ← List.map_append]
      exact List.mem_map_of_mem he
    by_cases h2 : n % 3 = 2
    · have hnd2 := hnd
      refine turn3 (kvs := kvsOf es) (lkv := lkv) (rest := entNews es ++ rest) X T hroom hh hu F N hoc hcl hll hc5 hl5 hOs hEo hon (by omega) hod d0 l0 (by omega) (by omega) hk5 hth hfar h2
        (nd_ne hnd2 0 1 (by decide) rfl rfl) (nd_ne hnd2 0 2 (by decide) rfl rfl) (nd_ne hnd2 0 3 (by decide) rfl rfl) (nd_ne hnd2 0 4 (by decide) rfl rfl) (nd_ne hnd2 0 5 (by decide) rfl rfl) (nd_ne hnd2 0 6 (by decide) rfl rfl) (nd_ne hnd2 0 7 (by decide) rfl rfl) (nd_ne hnd2 0 8 (by decide) rfl rfl) (nd_ne hnd2 0 9 (by decide) rfl rfl) (nd_ne hnd2 0 10 (by decide) rfl rfl) (Ne.symm (nd_ne hnd2 1 2 (by decide) rfl rfl)) (nd_ne hnd2 2 3 (by decide) rfl rfl) (nd_ne hnd2 2 4 (by decide) rfl rfl) (nd_ne hnd2 2 5 (by decide) rfl rfl) (nd_ne hnd2 2 6 (by decide) rfl rfl) (nd_ne hnd2 2 7 (by decide) rfl rfl) (nd_ne hnd2 2 8 (by decide) rfl rfl) (nd_ne hnd2 2 9 (by decide) rfl rfl) (nd_ne hnd2 2 10 (by decide) rfl rfl) (Ne.symm (nd_ne hnd2 1 5 (by decide) rfl rfl)) (Ne.symm (nd_ne hnd2 3 5 (by decide) rfl rfl)) (Ne.symm (nd_ne hnd2 4 5 (by decide) rfl rfl)) (nd_ne hnd2 5 6 (by decide) rfl rfl) (nd_ne hnd2 5 7 (by decide) rfl rfl) (nd_ne hnd2 5 8 (by decide) rfl rfl) (nd_ne hnd2 5 9 (by decide) rfl rfl) (nd_ne hnd2 5 10 (by decide) rfl rfl) (nd_rest (k := 11) hnd2 0 (by decide) rfl rfl) (nd_rest (k := 11) hnd2 2 (by decide) rfl rfl) (nd_rest (k := 11) hnd2 5 (by decide) rfl rfl)
        (hnd2.sublist (by simp)) hlo (by omega) (by omega) rfl (by omega) (fun t => ?_) fun h' tk' m' t1 t l tl od' lo' G hmr F' N' hod' hlo' ht hl htl => ?_
      · rw [ees] at hod ⊢
        have hdn := dict_nodup hod
        rw [← hnew]
        have : kvsOf (a ++ e0 :: b) = kvsOf a ++ (nm, .ref e0.t) :: kvsOf b := by rw [← hnm]; simp [kvsOf]
        rw [this] at hdn ⊢
        rw [stored_mid hdn, List.map_append, List.map_cons, kvs_names, kvs_names]
        refine List.perm_middle.trans (List.Perm.cons _ ?_)
        rw [← List.map_append]
        exact (ppq.map _).symm
      · have ekv : stored (kvsOf es) nm (.ref t) = kvsOf (a ++ (⟨nm, (n : Nat), cnt + 1, t, l, tnm, tnn, tl, 0⟩ : Ent) :: b) := by
          have hdn := dict_nodup hod
          rw [ees] at hdn ⊢
          have : kvsOf (a ++ e0 :: b) = kvsOf a ++ (nm, .ref e0.t) :: kvsOf b := by rw [← hnm]; simp [kvsOf]
          rw [this] at hdn ⊢
          rw [stored_mid hdn]; simp [kvsOf]
        rw [ekv] at hod'
        refine hQ h' tk' m' ⟨c, dc, d, x, dx, ld, cnt + 1, t1, tcap, tth, th, od', lo', a ++ (⟨nm, (n : Nat), cnt + 1, t, l, tnm, tnn, tl, 0⟩ : Ent) :: b, stored lkv nm (.int (n : Nat) tnn)⟩ rfl rfl
          (ok_next (e1 := ⟨nm, (n : Nat), cnt + 1, t, l, tnm, tnn, tl, 0⟩) ppq List.perm_middle hS hpw hnew rfl rfl hod' hlo' d0 l0 (fun e hee => ?_) (Nat.le_trans stored_len (Nat.succ_le_succ hlk))) hmr F' ?_ ?_
        · rcases List.mem_cons.mp hee with z | z
          · rw [z]; exact ⟨_, valueAt_stored_eq⟩
          · obtain ⟨tt, h3⟩ := hlv e (hab e z)
            exact ⟨tt, valueAt_stored_ne (hne0 e z) h3⟩
        · intro r hr
          refine N' r ?_
          simp only [entNews_append, entNews_cons, List.cons_append, List.nil_append, List.mem_cons, List.mem_append, List.append_assoc, ees] at hr ⊢
          grind
        · refine nd_count (t := t) (l := l) hnd (fun z => ?_) (fun z => ?_) htl (fun r => ?_)
          · obtain ⟨y, hy, ey⟩ := List.mem_map.mp z; exact ht y hy ey
          · obtain ⟨y, hy, ey⟩ := List.mem_map.mp z; exact hl y hy ey
          · simp only [ees, entNews_append, entNews_cons, List.map_append, List.map_cons, List.count_append, List.count_cons, List.count_nil, List.map_nil, List.cons_append, List.nil_append]
            simp only [beq_iff_eq, eq_comm]
            grind
    · have hv : valueAt (kvsOf es) nm = some (.ref e0.t) := valueAt_mem (dict_nodup hod) (by rw [← hnm]; exact List.mem_map.mpr ⟨e0, he0, rfl⟩)
      obtain ⟨tv2, hlv0⟩ := hlv e0 he0
      rw [hnm] at hlv0
      have hnd2 : ((c :: dc :: d :: x :: dx :: ld :: e0.t :: e0.l :: (L + 1) :: CL :: LL :: O :: El :: (entNews a ++ (entNews b ++ rest)).map (·.1)) : List Nat).Nodup := by
        refine (List.perm_iff_count.mpr fun r => ?_ : List.Perm _ _).nodup hnd
        simp only [ees, entNews_append, entNews_cons, List.map_append, List.map_cons, List.count_append, List.count_cons, List.count_nil, List.map_nil, List.cons_append, List.nil_append]
        omega
      have N2 : News g L s.heap ((c, cacheObj dc cnt tc d x ((k + 1 : Nat) : Int) tcap tth) :: (dc, dictOf [] 0) :: (d, od) :: (x, lockObj dx) :: (dx, heldObj w.params th false) :: (ld, lo) :: (e0.t, tupObj nm e0.tn e0.vl e0.tv e0.l) :: (e0.l, ctrObj e0.ct e0.tl e0.ep) ::
          (L + 1, oc) :: (CL, PySem.W.listOf cl c1) :: (LL, PySem.W.listOf ll c2) :: (O, PySem.W.listOf ov.toArray c3) :: (El, PySem.W.listOf ev.toArray c4) :: (entNews a ++ (entNews b ++ rest))) := by
        intro r hr
        refine N r ?_
        have e1 : (e0.t, tupObj nm e0.tn e0.vl e0.tv e0.l) = (e0.t, e0.tup) := by rw [← hnm]
        rw [e1] at hr
        simp only [entNews_append, entNews_cons, List.cons_append, List.nil_append, List.mem_cons, List.mem_append, List.append_assoc, ees] at hr ⊢
        grind
      have fin : ∀ h' tk' m' t1 t2, m' (Str.ofString "requests") = u (Str.ofString "requests") → Fr g L h' (frm CL LL O El (.int far tf) (.int (n : Nat) tnn) (.int (k : Nat) tkk) m') → News g L h' ((c, cacheObj dc (cnt + 1) t1 d x ((k + 1 : Nat) : Int) tcap tth) :: (dc, dictOf [] 0) :: (d, od) :: (x, lockObj dx) :: (dx, heldObj w.params th false) :: (ld, lo) :: (e0.t, tupObj nm e0.tn e0.vl e0.tv e0.l) :: (e0.l, ctrObj (cnt + 1) t2 e0.ep) ::
          (L + 1, oc) :: (CL, PySem.W.listOf cl c1) :: (LL, PySem.W.listOf ll c2) :: (O, PySem.W.listOf ov.toArray c3) :: (El, PySem.W.listOf ev.toArray c4) :: (entNews a ++ (entNews b ++ rest))) → Q .next { s with heap := h', toks := tk' } := by
        intro h' tk' m' t1 t2 hmr F' N'
        have ekv : kvsOf es = kvsOf (a ++ (⟨nm, e0.vl, cnt + 1, e0.t, e0.l, e0.tn, e0.tv, t2, e0.ep⟩ : Ent) :: b) := by rw [ees, ← hnm]; simp [kvsOf]
        rw [ekv] at hod
        refine hQ h' tk' m' ⟨c, dc, d, x, dx, ld, cnt + 1, t1, tcap, tth, th, od, lo, a ++ (⟨nm, e0.vl, cnt + 1, e0.t, e0.l, e0.tn, e0.tv, t2, e0.ep⟩ : Ent) :: b, lkv⟩ rfl rfl
          (ok_next (e1 := ⟨nm, e0.vl, cnt + 1, e0.t, e0.l, e0.tn, e0.tv, t2, e0.ep⟩) ppq List.perm_middle hS hpw hnew rfl rfl hod hlo d0 l0 (fun e hee => ?_) (Nat.le_succ_of_le hlk)) hmr F' ?_ ?_
        · rcases List.mem_cons.mp hee with z | z
          · rw [z]; exact ⟨_, hlv0⟩
          · exact hlv e (hab e z)
        · intro r hr
          refine N' r ?_
          simp only [entNews_append, entNews_cons, List.cons_append, List.nil_append, List.mem_cons, List.mem_append, List.append_assoc] at hr ⊢
          grind
        · refine (List.perm_iff_count.mpr fun r => ?_ : List.Perm _ _).nodup hnd
          simp only [ees, entNews_append, entNews_cons, List.map_append, List.map_cons, List.count_append, List.count_cons, List.count_nil, List.map_nil, List.cons_append, List.nil_append]
      have hnd1 : ([c, dc, d, e0.t, e0.l] : List Nat).Nodup := hnd2.sublist (by
        refine .cons_cons _ (.cons_cons _ (.cons_cons _ (.cons _ (.cons _ (.cons _ (.cons_cons _ (.cons_cons _ ?_))))))) 
        exact List.nil_sublist _)
      by_cases h0 : n % 3 = 0
      · exact turn1 (kvs := kvsOf es) (lkv := lkv) (ct := e0.ct) (tl := e0.tl) (rest := entNews a ++ (entNews b ++ rest)) X T hroom hh hu F N2 hoc hcl hll hc5 hl5 hOs hEo hon (by omega) hod d0 l0 (by omega) (by omega) hk5 hth hfar h0 (by rw [hfm, h0]; rfl)
          (nd_ne hnd2 0 1 (by decide) rfl rfl) (nd_ne hnd2 0 2 (by decide) rfl rfl) (nd_ne hnd2 0 3 (by decide) rfl rfl) (nd_ne hnd2 0 4 (by decide) rfl rfl) (nd_ne hnd2 0 5 (by decide) rfl rfl) (nd_ne hnd2 0 6 (by decide) rfl rfl) (nd_ne hnd2 0 7 (by decide) rfl rfl) (nd_ne hnd2 0 8 (by decide) rfl rfl) (nd_ne hnd2 0 9 (by decide) rfl rfl) (nd_ne hnd2 0 10 (by decide) rfl rfl) (nd_ne hnd2 0 11 (by decide) rfl rfl) (nd_ne hnd2 0 12 (by decide) rfl rfl) (Ne.symm (nd_ne hnd2 1 7 (by decide) rfl rfl)) (Ne.symm (nd_ne hnd2 2 7 (by decide) rfl rfl)) (Ne.symm (nd_ne hnd2 3 7 (by decide) rfl rfl)) (Ne.symm (nd_ne hnd2 4 7 (by decide) rfl rfl)) (Ne.symm (nd_ne hnd2 5 7 (by decide) rfl rfl)) (Ne.symm (nd_ne hnd2 6 7 (by decide) rfl rfl)) (nd_ne hnd2 7 8 (by decide) rfl rfl) (nd_ne hnd2 7 9 (by decide) rfl rfl) (nd_ne hnd2 7 10 (by decide) rfl rfl) (nd_ne hnd2 7 11 (by decide) rfl rfl) (nd_ne hnd2 7 12 (by decide) rfl rfl) (nd_rest (k := 13) hnd2 0 (by decide) rfl rfl) (nd_rest (k := 13) hnd2 7 (by decide) rfl rfl)
          hv hnd1 hlo hlv0 hpn (by have := hpn.length_eq; simpa [kvsOf] using this) fin
      · exact turn2 (kvs := kvsOf es) (lkv := lkv) (ct := e0.ct) (tl := e0.tl) (rest := entNews a ++ (entNews b ++ rest)) X T hroom hh hu F N2 hoc hcl hll hc5 hl5 hOs hEo hon (by omega) hod d0 l0 (by omega) (by omega) hk5 hth hfar (by omega) (decide_eq_false (by rw [hfm]; omega))
          (nd_ne hnd2 0 1 (by decide) rfl rfl) (nd_ne hnd2 0 2 (by decide) rfl rfl) (nd_ne hnd2 0 3 (by decide) rfl rfl) (nd_ne hnd2 0 4 (by decide) rfl rfl) (nd_ne hnd2 0 5 (by decide) rfl rfl) (nd_ne hnd2 0 6 (by decide) rfl rfl) (nd_ne hnd2 0 7 (by decide) rfl rfl) (nd_ne hnd2 0 8 (by decide) rfl rfl) (nd_ne hnd2 0 9 (by decide) rfl rfl) (nd_ne hnd2 0 10 (by decide) rfl rfl) (nd_ne hnd2 0 11 (by decide) rfl rfl) (nd_ne hnd2 0 12 (by decide) rfl rfl) (Ne.symm (nd_ne hnd2 1 7 (by decide) rfl rfl)) (Ne.symm (nd_ne hnd2 2 7 (by decide) rfl rfl)) (Ne.symm (nd_ne hnd2 3 7 (by decide) rfl rfl)) (Ne.symm (nd_ne hnd2 4 7 (by decide) rfl rfl)) (Ne.symm (nd_ne hnd2 5 7 (by decide) rfl rfl)) (Ne.symm (nd_ne hnd2 6 7 (by decide) rfl rfl)) (nd_ne hnd2 7 8 (by decide) rfl rfl) (nd_ne hnd2 7 9 (by decide) rfl rfl) (nd_ne hnd2 7 10 (by decide) rfl rfl) (nd_ne hnd2 7 11 (by decide) rfl rfl) (nd_ne hnd2 7 12 (by decide) rfl rfl) (nd_rest (k := 13) hnd2 0 (by decide) rfl rfl) (nd_rest (k := 13) hnd2 7 (by decide) rfl rfl)
          hv hnd1 hlo hlv0 hpn (by have := hpn.length_eq; simpa [kvsOf] using this) fin
  · rw [decide_eq_false hin] at hfar
    have hth : (((kvsOf es).map (·.1)).any fun x => x == nm) = false := by
      rw [List.any_eq_false]
      intro y hy z
      exact hin (hperm.mem_iff.mp ((by simpa using z : y = nm) ▸ hy))
    have habs : valueAt (kvsOf es) nm = none := valueAt_none (fun z => hin (hperm.mem_iff.mp z))
    have hnew0 : (newer nm elder).take (k + 1) = nm :: elder.take k := take_newer_miss hin
    have hnes : ∀ e ∈ es, e.nm ≠ nm := fun e he z => hin (hpm.mem_iff.mp (z ▸ List.mem_map_of_mem he))
    by_cases hfull : es.length = k + 1
    · have rl : rs.length = k + 1 := by rw [prs.length_eq]; exact hfull
      obtain ⟨r0, e0, ers⟩ : ∃ r0 e0, rs = r0 ++ [e0] := ⟨rs.dropLast, rs.getLast (by intro z; rw [z] at rl; cases rl), (List.dropLast_concat_getLast _).symm⟩
      have he0 : e0 ∈ es := prs.mem_iff.mp (by rw [ers]; simp)
      obtain ⟨a, b, ees⟩ := List.append_of_mem he0
      have ppq : r0.Perm (a ++ b) := by
        have := perm_mid (x := e0) (p := r0) (q := []) (a := a) (b := b) (by rw [← ers, ← ees]; exact prs)
        rwa [List.append_nil] at this
      have r0l : r0.length = k := by rw [ers] at rl; simpa using rl
      have hnew : nm :: r0.map (·.nm) = (newer nm elder).take (k + 1) := by
        rw [hnew0]
        congr 1
        have h3 : (elder.take (k + 1)).take k = elder.take k := by rw [List.take_take, Nat.min_eq_left (Nat.le_succ k)]
        rw [← h3, ← mrs, ers, List.map_append, List.take_append_of_le_length (by simp [r0l]), List.take_of_length_le (by simp [r0l])]
      have hab : ∀ e ∈ a ++ b, e ∈ es := fun e h => by
        rw [ees]
        rcases List.mem_append.mp h with h | h
        · exact List.mem_append_left _ h
        · exact List.mem_append_right _ (.tail _ h)
      rw [ers] at ors
      have hpw : r0.Pairwise (fun a b => b.ct < a.ct) := ors.sublist (List.sublist_append_left _ _)
      have hmin : ∀ e ∈ es, e0.ct ≤ e.ct := fun e he => by
        have h3 := prs.mem_iff.mpr he
        rw [ers] at h3
        rcases List.mem_append.mp h3 with h3 | h3
        · exact Int.le_of_lt ((List.pairwise_append.mp ors).2.2 e h3 e0 (.head _))
        · rw [List.mem_singleton.mp h3]; exact Int.le_refl _
      have hctn : (es.map (·.ct)).Nodup := by
        refine (prs.map (·.ct)).nodup ?_
        rw [ers]
        have h4 : ((r0 ++ [e0]).map (·.ct)).Pairwise (fun a b => b < a) := List.pairwise_map.mpr ors
        exact h4.imp fun h => (Int.ne_of_lt h).symm
      have htn : (es.map (·.t)).Nodup := by
        have h4 : ((entNews es).map (·.1)).Nodup := hnd.sublist (by
          rw [List.map_append, List.map_append, List.map_append]
          exact ((List.sublist_append_left _ _).trans (List.sublist_append_right _ _)).trans (List.sublist_append_right _ _))
        exact h4.sublist (tsub es)
      have e0n : e0.nm ≠ nm := hnes e0 he0
      have ekv : ∀ t l tl, without (kvsOf es ++ [(nm, .ref t)]) e0.nm = kvsOf (a ++ b ++ [(⟨nm, (n : Nat), cnt + 1, t, l, tnm, tnn, tl, 0⟩ : Ent)]) := fun t l tl => by
        have h5 : kvsOf es ++ [(nm, .ref t)] = kvsOf a ++ (e0.nm, .ref e0.t) :: (kvsOf b ++ [(nm, .ref t)]) := by rw [ees]; simp [kvsOf]
        rw [h5, without_mid]
        · simp [kvsOf]
        · rw [← h5, List.map_append, kvs_names]
          refine (List.perm_append_comm (l₁ := [nm]) (l₂ := es.map (·.nm))).nodup ?_
          show (nm :: es.map (·.nm)).Nodup
          rw [List.nodup_cons]
          exact ⟨fun z => hin (hpm.mem_iff.mp z), hkn⟩
      have hnd2 := hnd
      refine turn5 (kvs := kvsOf es) (lkv := lkv) (es := es) (e0 := e0) (rest := entNews es ++ rest) X T hroom hh hu F N hoc hcl hll hc5 hl5 hOs hEo hon (by omega) hod d0 l0 (by omega) (by omega) hk5 hth hfar
        (nd_ne hnd2 0 1 (by decide) rfl rfl) (nd_ne hnd2 0 2 (by decide) rfl rfl) (nd_ne hnd2 0 3 (by decide) rfl rfl) (nd_ne hnd2 0 4 (by decide) rfl rfl) (nd_ne hnd2 0 5 (by decide) rfl rfl) (nd_ne hnd2 0 6 (by decide) rfl rfl) (nd_ne hnd2 0 7 (by decide) rfl rfl) (nd_ne hnd2 0 8 (by decide) rfl rfl) (nd_ne hnd2 0 9 (by decide) rfl rfl) (nd_ne hnd2 0 10 (by decide) rfl rfl) (Ne.symm (nd_ne hnd2 1 2 (by decide) rfl rfl)) (nd_ne hnd2 2 3 (by decide) rfl rfl) (nd_ne hnd2 2 4 (by decide) rfl rfl) (nd_ne hnd2 2 5 (by decide) rfl rfl) (nd_ne hnd2 2 6 (by decide) rfl rfl) (nd_ne hnd2 2 7 (by decide) rfl rfl) (nd_ne hnd2 2 8 (by decide) rfl rfl) (nd_ne hnd2 2 9 (by decide) rfl rfl) (nd_ne hnd2 2 10 (by decide) rfl rfl) (Ne.symm (nd_ne hnd2 1 5 (by decide) rfl rfl)) (Ne.symm (nd_ne hnd2 3 5 (by decide) rfl rfl)) (Ne.symm (nd_ne hnd2 4 5 (by decide) rfl rfl)) (nd_ne hnd2 5 6 (by decide) rfl rfl) (nd_ne hnd2 5 7 (by decide) rfl rfl) (nd_ne hnd2 5 8 (by decide) rfl rfl) (nd_ne hnd2 5 9 (by decide) rfl rfl) (nd_ne hnd2 5 10 (by decide) rfl rfl) (nd_rest (k := 11) hnd2 0 (by decide) rfl rfl) (nd_rest (k := 11) hnd2 2 (by decide) rfl rfl) (nd_rest (k := 11) hnd2 5 (by decide) rfl rfl)
        (hnd2.sublist (by simp)) hlo (by omega) (by omega) rfl habs hperm rfl (fun e he => ⟨List.mem_append_left _ (entNews_mem he).1, List.mem_append_left _ (entNews_mem he).2⟩) hctn (fun e he => Int.lt_add_one_of_le (hct e he)) htn he0 hmin hfull (fun t => ?_) fun h' tk' m' t1 t l tl od' lo' G1 G2 G3 G4 hmr F' N' hod' hlo' ht hl htl => ?_
      · rw [ekv t 0 0, ← hnew, kvs_names, List.map_append]
        exact List.perm_append_comm.trans (List.Perm.cons _ (ppq.map _).symm)
      · rw [ekv t l tl] at hod'
        refine hQ h' tk' m' ⟨c, dc, d, x, dx, ld, cnt + 1, t1, tcap, tth, th, od', lo', a ++ b ++ [(⟨nm, (n : Nat), cnt + 1, t, l, tnm, tnn, tl, 0⟩ : Ent)], stored lkv nm (.int (n : Nat) tnn)⟩ rfl rfl
          (ok_next (e1 := ⟨nm, (n : Nat), cnt + 1, t, l, tnm, tnn, tl, 0⟩) ppq List.perm_append_comm (fun e he => hct e (hab e he)) hpw hnew rfl rfl hod' hlo' d0 l0 (fun e hee => ?_) (Nat.le_trans stored_len (Nat.succ_le_succ hlk))) hmr F' ?_ ?_
        · rcases List.mem_cons.mp hee with z | z
          · rw [z]; exact ⟨_, valueAt_stored_eq⟩
          · obtain ⟨tt, h3⟩ := hlv e (hab e z)
            exact ⟨tt, valueAt_stored_ne (hnes e (hab e z)) h3⟩
        · intro r hr
          refine N' r ?_
          simp only [entNews_append, entNews_cons, List.cons_append, List.nil_append, List.mem_cons, List.mem_append, List.append_assoc, show entNews [] = [] from rfl, ees] at hr ⊢
          grind
        · refine nd_count (t := t) (l := l) hnd (fun z => ?_) (fun z => ?_) htl (fun r => ?_)
          · obtain ⟨y, hy, ey⟩ := List.mem_map.mp z; exact ht y hy ey
          · obtain ⟨y, hy, ey⟩ := List.mem_map.mp z; exact hl y hy ey
          · simp only [ees, entNews_append, entNews_cons, List.map_append, List.map_cons, List.count_append, List.count_cons, List.count_nil, List.map_nil, List.cons_append, List.nil_append, show entNews [] = [] from rfl]
            simp only [beq_iff_eq, eq_comm]
            grind
    · have hshort : elder.length ≤ k := by
        have h3 : (elder.take (k + 1)).length ≠ k + 1 := by rw [← hlen, ← esl]; exact hfull
        rw [List.length_take] at h3; omega
      have htk : elder.take k = elder.take (k + 1) := by rw [List.take_of_length_le hshort, List.take_of_length_le (by omega)]
      have hnew : nm :: rs.map (·.nm) = (newer nm elder).take (k + 1) := by rw [hnew0, htk, mrs]
      have hnd2 := hnd
      refine turn4 (kvs := kvsOf es) (lkv := lkv) (rest := entNews es ++ rest) X T hroom hh hu F N hoc hcl hll hc5 hl5 hOs hEo hon (by omega) hod d0 l0 (by omega) (by omega) hk5 hth hfar
        (nd_ne hnd2 0 1 (by decide) rfl rfl) (nd_ne hnd2 0 2 (by decide) rfl rfl) (nd_ne hnd2 0 3 (by decide) rfl rfl) (nd_ne hnd2 0 4 (by decide) rfl rfl) (nd_ne hnd2 0 5 (by decide) rfl rfl) (nd_ne hnd2 0 6 (by decide) rfl rfl) (nd_ne hnd2 0 7 (by decide) rfl rfl) (nd_ne hnd2 0 8 (by decide) rfl rfl) (nd_ne hnd2 0 9 (by decide) rfl rfl) (nd_ne hnd2 0 10 (by decide) rfl rfl) (Ne.symm (nd_ne hnd2 1 2 (by decide) rfl rfl)) (nd_ne hnd2 2 3 (by decide) rfl rfl) (nd_ne hnd2 2 4 (by decide) rfl rfl) (nd_ne hnd2 2 5 (by decide) rfl rfl) (nd_ne hnd2 2 6 (by decide) rfl rfl) (nd_ne hnd2 2 7 (by decide) rfl rfl) (nd_ne hnd2 2 8 (by decide) rfl rfl) (nd_ne hnd2 2 9 (by decide) rfl rfl) (nd_ne hnd2 2 10 (by decide) rfl rfl) (Ne.symm (nd_ne hnd2 1 5 (by decide) rfl rfl)) (Ne.symm (nd_ne hnd2 3 5 (by decide) rfl rfl)) (Ne.symm (nd_ne hnd2 4 5 (by decide) rfl rfl)) (nd_ne hnd2 5 6 (by decide) rfl rfl) (nd_ne hnd2 5 7 (by decide) rfl rfl) (nd_ne hnd2 5 8 (by decide) rfl rfl) (nd_ne hnd2 5 9 (by decide) rfl rfl) (nd_ne hnd2 5 10 (by decide) rfl rfl) (nd_rest (k := 11) hnd2 0 (by decide) rfl rfl) (nd_rest (k := 11) hnd2 2 (by decide) rfl rfl) (nd_rest (k := 11) hnd2 5 (by decide) rfl rfl)
        (hnd2.sublist (by simp)) hlo (by omega) (by omega) rfl habs hperm (by omega) (fun t => ?_) fun h' tk' m' t1 t l tl od' lo' G1 G2 G3 G4 hmr F' N' hod' hlo' ht hl htl => ?_
      · rw [stored_new habs, ← hnew, List.map_append, kvs_names]
        refine List.perm_append_comm.trans (List.Perm.cons _ (prs.map _).symm)
      · have ekv : stored (kvsOf es) nm (.ref t) = kvsOf (es ++ [(⟨nm, (n : Nat), cnt + 1, t, l, tnm, tnn, tl, 0⟩ : Ent)]) := by rw [stored_new habs]; simp [kvsOf]
        rw [ekv] at hod'
        refine hQ h' tk' m' ⟨c, dc, d, x, dx, ld, cnt + 1, t1, tcap, tth, th, od', lo', es ++ [(⟨nm, (n : Nat), cnt + 1, t, l, tnm, tnn, tl, 0⟩ : Ent)], stored lkv nm (.int (n : Nat) tnn)⟩ rfl rfl
          (ok_next (e1 := ⟨nm, (n : Nat), cnt + 1, t, l, tnm, tnn, tl, 0⟩) prs List.perm_append_comm hct ors hnew rfl rfl hod' hlo' d0 l0 (fun e hee => ?_) (Nat.le_trans stored_len (Nat.succ_le_succ hlk))) hmr F' ?_ ?_
        · rcases List.mem_cons.mp hee with z | z
          · rw [z]; exact ⟨_, valueAt_stored_eq⟩
          · obtain ⟨tt, h3⟩ := hlv e z
            exact ⟨tt, valueAt_stored_ne (hnes e z) h3⟩
        · intro r hr
          refine N' r ?_
          simp only [entNews_append, entNews_cons, List.cons_append, List.nil_append, List.mem_cons, List.mem_append, List.append_assoc, show entNews [] = [] from rfl] at hr ⊢
          grind
        · refine nd_count (t := t) (l := l) hnd (fun z => ?_) (fun z => ?_) htl (fun r => ?_)
          · obtain ⟨y, hy, ey⟩ := List.mem_map.mp z; exact ht y hy ey
          · obtain ⟨y, hy, ey⟩ := List.mem_map.mp z; exact hl y hy ey
          · simp only [entNews_append, entNews_cons, List.map_append, List.map_cons, List.count_append, List.count_cons, List.count_nil, List.map_nil, List.cons_append, List.nil_append, show entNews [] = [] from rfl]
            simp only [beq_iff_eq, eq_comm]
            grind
end


section
variable {prog : Program} {w : World} {A : Around} {s : Shared} {h₀ : Heap} {L : Addr} {m : Str → Option Value} {env : Env}

theorem IntsAre.at : ∀ {vs : List Value} {ns : List Int}, IntsAre vs ns → ∀ {i : Nat} {v : Value}, vs[i]? = some v → ∃ n t, v = .int n t ∧ ns[i]? = some n
  | _, _, .nil, i, v, h => by simp at h
  | _, _, .cons n t I, 0, v, h => ⟨n, t, by simpa using h.symm, rfl⟩
  | _, _, .cons n t I, i + 1, v, h => by simpa using IntsAre.at I (i := i) (v := v) (by simpa using h)
theorem IntsAre.snoc {n : Int} {t : Tok} : ∀ {vs : List Value} {ns : List Int}, IntsAre vs ns → IntsAre (vs ++ [.int n t]) (ns ++ [n])
  | _, _, .nil => .cons n t .nil
  | _, _, .cons k u I => .cons k u (IntsAre.snoc I)

theorem restT_ind {ct elt : PySem.Expr} {x : Str} {scope : Scope} {cl : List (Str × Addr)} {S : List (Addr × Obj) → Prop} {Fin : List Value → List (Addr × Obj) → Prop} {news : List (Addr × Obj)} {vs : List Value} {ns : List Int} (p : Int → Bool) (hI : IntsAre vs ns) (hS : S news)
    (ev : ∀ n t I oI C oC D ys m₂ h tk (E' : Value → Shared → Prop) (Q1 : Value → Shared → Prop) (Q2 : Shared → Prop), LCg.NsObj oC m₂ → m₂ x = some (.int n t) → Fr h₀ L h m → News h₀ L h ((I, oI) :: (C, oC) :: (D, LCg.lst ys) :: news) →
      (p n = true → ∀ tk', Q1 (.int n t) { s with heap := h, toks := tk' }) → (p n = false → ∀ tk', Q2 { s with heap := h, toks := tk' }) →
      wpAny (model prog w) A (isTrue ct (compEnvC scope cl C env) (eval ct (compEnvC scope cl C env))) (fun ok s' => if ok = true then wpAny (model prog w) A (eval elt (compEnvC scope cl C env)) Q1 E' s' else Q2 s') E' { s with heap := h, toks := tk })
    (fin : ∀ us, IntsAre us (ns.filter p) → Fin us news) : LCt.CompRestT prog w A h₀ L m env ct elt x scope cl s S (fun i v => vs.toArray[i]? = some v) Fin vs.toArray.size 0 [] news := by
  have key : ∀ j i ys, i + j = vs.length → IntsAre ys ((ns.take i).filter p) → LCt.CompRestT prog w A h₀ L m env ct elt x scope cl s S (fun i v => vs.toArray[i]? = some v) Fin j i ys news := by
    intro j
    induction j with
    | zero =>
      intro i ys hi hy
      refine LCt.CompRestT.zero (fin ys ?_)
      rwa [List.take_of_length_le (by rw [← hI.length]; omega)] at hy
    | succ j ih =>
      intro i ys hi hy
      refine LCt.CompRestT.succ fun v I oI C oC D m₂ h tk E' hv hC hx F N off ne => ?_
      obtain ⟨n, t, rfl, hn⟩ := IntsAre.at hI (i := i) (v := v) (by simpa using hv)
      have htake : ns.take (i + 1) = ns.take i ++ [n] := by rw [List.take_add_one, hn]; rfl
      refine ev n t I oI C oC D ys m₂ h tk E' _ _ hC hx F N (fun hp tk' => ?_) (fun hp tk' => ?_)
      · refine ⟨h, tk', news, rfl, F, N, off, hS, ih (i + 1) _ (by omega) ?_⟩
        rw [htake, List.filter_append, List.filter_cons, if_pos hp]
        exact IntsAre.snoc hy
      · refine ⟨h, tk', news, rfl, F, N, off, hS, ih (i + 1) _ (by omega) ?_⟩
        rw [htake, List.filter_append, List.filter_cons, if_neg (by rw [hp]; exact Bool.false_ne_true), List.filter_nil, List.append_nil]
        exact hy
  have := key vs.toArray.size 0 [] (by simp) .nil
  exact this

theorem restU_ind {elt : PySem.Expr} {x : Str} {scope : Scope} {cl : List (Str × Addr)} {S : List (Addr × Obj) → Prop} {Fin : List Value → List (Addr × Obj) → Prop} {news : List (Addr × Obj)} {vs : List Value} {ns : List Int} (f : Int → Int) (hI : IntsAre vs ns) (hS : S news)
    (ev : ∀ n t I oI C oC D ys m₂ h tk (E' : Value → Shared → Prop) (Q1 : Value → Shared → Prop), LCg.NsObj oC m₂ → m₂ x = some (.int n t) → Fr h₀ L h m → News h₀ L h ((I, oI) :: (C, oC) :: (D, LCg.lst ys) :: news) →
      (∀ t' tk', Q1 (.int (f n) t') { s with heap := h, toks := tk' }) →
      wpAny (model prog w) A (eval elt (compEnvC scope cl C env)) Q1 E' { s with heap := h, toks := tk })
    (fin : ∀ us, IntsAre us (ns.map f) → Fin us news) : LCg.CompRest prog w A h₀ L m env elt x scope cl s S (fun i v => vs.toArray[i]? = some v) Fin vs.toArray.size 0 [] news := by
  have key : ∀ j i ys, i + j = vs.length → IntsAre ys ((ns.take i).map f) → LCg.CompRest prog w A h₀ L m env elt x scope cl s S (fun i v => vs.toArray[i]? = some v) Fin j i ys news := by
    intro j
    induction j with
    | zero =>
      intro i ys hi hy
      refine LCg.CompRest.zero (fin ys ?_)
      rwa [List.take_of_length_le (by rw [← hI.length]; omega)] at hy
    | succ j ih =>
      intro i ys hi hy
      refine LCg.CompRest.succ fun v I oI C oC D m₂ h tk E' hv hC hx F N off ne => ?_
      obtain ⟨n, t, rfl, hn⟩ := IntsAre.at hI (i := i) (v := v) (by simpa using hv)
      have htake : ns.take (i + 1) = ns.take i ++ [n] := by rw [List.take_add_one, hn]; rfl
      refine ev n t I oI C oC D ys m₂ h tk E' _ hC hx F N (fun t' tk' => ?_)
      refine ⟨h, tk', news, rfl, F, N, off, hS, ih (i + 1) _ (by omega) ?_⟩
      rw [htake, List.map_append]
      exact IntsAre.snoc hy
  have := key vs.toArray.size 0 [] (by simp) .nil
  exact this

theorem kfi_at {k : Int} : ∀ {vs : List Value} {ns : List Int}, IntsAre vs ns → ∀ {j : Nat}, ns[j]? = some k → (∀ i, i < j → ns[i]? ≠ some k) → kf_at k vs = some j
  | _, _, .nil, j, h, _ => by simp at h
  | _, _, .cons n t I, 0, h, _ => by
    have e : n = k := by simpa using h
    unfold kf_at
    have : PyProof.Rows.isInt k (.int n t) = true := by simp [PyProof.Rows.isInt, e]
    rw [this]; rfl
  | _, _, .cons n t I, j + 1, h, h2 => by
    have e : n ≠ k := fun z => h2 0 (Nat.zero_lt_succ _) (by simp [z])
    have e3 := kfi_at I (j := j) (by simpa using h) (fun i hi z => h2 (i + 1) (Nat.succ_lt_succ hi) (by simpa using z))
    unfold kf_at
    have : PyProof.Rows.isInt k (.int n t) = false := by simp [PyProof.Rows.isInt, e]
    rw [this, e3]; rfl
end
section
variable {prog : Program} {w : World} {A : Around} {s : Shared} {g : Heap} {L : Addr} {E : Value → Shared → Prop} {Q : Value → Shared → Prop} {m : Str → Option Value} {news : List (Addr × Obj)}
theorem index_own {D : Addr} {vs : List Value} {ns : List Int} {k : Int} {t : Tok} {n j : Nat} (N : News g L s.heap news) (hm : (D, PySem.W.listOf vs.toArray n) ∈ news) (hI : IntsAre vs ns) (hl : ns.length ≤ 1000) (hj : ns[j]? = some k) (hf : ∀ i, i < j → ns[i]? ≠ some k)
    (h : Q (.int (j : Nat) s.toks) { s with toks := s.toks + 1 }) : wpAny (model prog w) A (call (.builtin "list.index") [.ref D, .int k t]) Q E s :=
  kf_index N hm (by rw [List.toList_toArray]; exact kfi_ints hI) (by rw [List.toList_toArray]; exact kfi_at hI hj hf) rfl (by rw [List.toList_toArray, hI.length, sizeLine_eq]; omega) h
end
section
variable {prog : Program} {w : World} {A : Around} {E : Value → Shared → Prop} {s : Shared} {env : Env} {h₀ : Heap} {x : Str} {body : List Stmt} {Q : Flow → Shared → Prop}

/-- a loop over range(n), with an invariant over the turn's number, the frame's names and the ledger -/
theorem range_loop {r : Addr} {b₀ : Int} {t₀ u₀ v₀ : Tok} {n : Nat} {m₀ : Str → Option Value} {news : List (Addr × Obj)} (J : Nat → (Str → Option Value) → List (Addr × Obj) → Prop)
    (hh : A.handled = none) (hr : IsRange s.heap r 0 b₀ 1 t₀ u₀ v₀) (hsmall : Builtin.Range.small 0 b₀ 1 = true) (hn : Builtin.Range.rangeSize 0 b₀ 1 = (n : Int)) (F : Fr h₀ env.locals s.heap m₀) (N : News h₀ env.locals s.heap news) (hj : J 0 m₀ news)
    (turn : ∀ i t m₁ news₁ I oI h tk, i < n → J i m₁ news₁ → (∀ p ∈ news₁, p.1 ≠ I) → Fr h₀ env.locals h (fun y => if y = x then some (.int (i : Nat) t) else m₁ y) → News h₀ env.locals h ((I, oI) :: news₁) →
      wpAny (model prog w) A (execs body env) (fun f s₂ => f = .next ∧ ∃ h' tk' m' news', s₂ = { s with heap := h', toks := tk' } ∧ Fr h₀ env.locals h' m' ∧ News h₀ env.locals h' ((I, oI) :: news') ∧ (∀ p ∈ news', p.1 ≠ I) ∧ J (i + 1) m' news') E { s with heap := h, toks := tk })
    (done : ∀ m₁ news₁ h tk, J n m₁ news₁ → Fr h₀ env.locals h m₁ → News h₀ env.locals h news₁ → Q .next { s with heap := h, toks := tk }) :
    wpAny (model prog w) A (pyIter (.ref r)) (fun it s₂ => LoopAtV prog w A h₀ env x body Q E it s₂) E s := by
  refine wpAny_pyIter_range hr hsmall ?_
  have W : Walks prog w A s.heap.objs.size [s.heap.objs.size] [s.heap.objs.size] n (fun i v => ∃ t, v = .int (0 + (i : Int)) t)
      (fun i h => IsRangeIter h s.heap.objs.size (0 + (i : Nat) * 1) ((n : Int) - (i : Nat)) 1) := LCg.range_walks hh 0 n
  refine ⟨_, _, _, n, _, _, m₀, news, J, rfl, W, ?_, ?_, ?_, (by show IsRangeIter _ _ _ _ _; rw [hn]; simpa using Heap.get?_push_size _ rfl), F.push _, (fun p hp => ⟨Heap.get?_push_of_some _ (N p hp).1, (N p hp).2⟩), hj, ?_, ?_⟩
  · intro hm
    exact absurd F.ns.lt ((List.mem_singleton.mp hm) ▸ Nat.lt_irrefl _)
  · intro b hb
    rw [List.mem_singleton.mp hb]
    exact next_is_new F
  · intro p hp hI
    exact absurd (Heap.lt_size (N p hp).1) ((List.mem_singleton.mp hI) ▸ Nat.lt_irrefl _)
  · rintro i v m₁ news₁ s₁ own ⟨hh', tk', rfl⟩ hin ⟨t, rfl⟩ hJ hoff hown howg hfp hst F₁ N₁
    have e0 : (0 : Int) + (i : Int) = ((i : Nat) : Int) := by omega
    rw [e0] at F₁
    obtain ⟨oI, hst'⟩ : ∃ oI, hh'.get? s.heap.objs.size = some oI := ⟨_, hst⟩
    have hI0 : h₀.get? s.heap.objs.size = none := next_is_new F
    have hIown := hfp _ (.head _) hI0 _ hst'
    have N₂ : News h₀ env.locals hh' ((s.heap.objs.size, oI) :: news₁) := fun p hp => by
      rcases List.mem_cons.mp hp with rfl | hp
      · exact N₁ _ (List.mem_append_left _ hIown)
      · exact N₁ _ (List.mem_append_right _ hp)
    refine wpAny_mono (turn i t m₁ news₁ s.heap.objs.size _ hh' tk' hin hJ (fun p hp z => hoff p hp (by rw [z]; exact .head _)) F₁ N₂) (fun f s₂ pp => ?_) fun _ _ e => e
    obtain ⟨rfl, h', tk'', m', news', rfl, F', N', off', hJ'⟩ := pp
    refine LoopStepV.next ⟨rfl, h', tk'', m', news', rfl, F', fun p hp => ?_, fun p hp z => off' p hp (List.mem_singleton.mp z), hJ'⟩
    rcases List.mem_append.mp hp with hp | hp
    · have z := List.mem_singleton.mp (hown p hp)
      have z2 := howg p hp
      have e1 : some p.2 = some oI := by rw [← z2, z]; exact hst'
      have e2 : p = (s.heap.objs.size, oI) := Prod.ext z (Option.some.inj e1)
      rw [e2]; exact N' _ (.head _)
    · exact N' _ (.tail _ hp)
  · rintro h' tk m' news' F' N' _ hJ
    exact done m' news' h' tk hJ F' N'
end


def newsFrom (w : World) : Nat → List Cch → List (Addr × Obj)
  | _, [] => []
  | k, C :: r => C.hd w k ++ (entNews C.es ++ newsFrom w (k + 1) r)
theorem newsFrom_append (w : World) : ∀ (a b : List Cch) (k : Nat), newsFrom w k (a ++ b) = newsFrom w k a ++ newsFrom w (k + a.length) b
  | [], b, k => by simp [newsFrom]
  | C :: r, b, k => by
    rw [List.cons_append, newsFrom, newsFrom, newsFrom_append w r b (k + 1)]
    simp [List.append_assoc, Nat.add_assoc, Nat.add_comm 1]

structure LoopFacts (m : Str → Option Value) (CL LL O El R : Addr) (vf vn : Value) : Prop where
  caches : m (Str.ofString "caches") = some (.ref CL)
  laid : m (Str.ofString "laid") = some (.ref LL)
  order : m (Str.ofString "order") = some (.ref O)
  elder : m (Str.ofString "elder") = some (.ref El)
  far : m (Str.ofString "far") = some vf
  n : m (Str.ofString "n") = some vn
  requests : m (Str.ofString "requests") = some (.ref R)

section
variable {prog : Program} {w : World} {A : Around} {s : Shared} {mean : ExcName → Option Value} {mg mb : Str → Option Value} {g : Heap} {L fa : Addr} {cd : Value} {E : Value → Shared → Prop} {Q : Flow → Shared → Prop}

set_option maxHeartbeats 4000000 in
theorem inner_loop {Cs : List Cch} {cs lds : List Addr} {n : Nat} {elder : List Int} {nm far : Int} {tf tnm tnn t₀ u₀ v₀ : Tok} {CL LL O El R r : Addr} {oc : Obj} {m₀ : Str → Option Value} {rest : List (Addr × Obj)} {c1 c2 c3 c4 : Nat} {ov ev : List Value}
    (X : (Mine.hd.heap_39 w.params).In g) (T : Top Mine.hd.view_39 (looseW Mine.hd.view_39 [Str.ofString "itemgetter", Str.ofString "LRUCache"]) mean mg mb g) (hroom : A.depth < 700) (hh : A.handled = none) (hu : A.units + 200 < cLine)
    (hr : IsRange s.heap r 0 5 1 t₀ u₀ v₀) (F : Fr g L s.heap m₀) (M : LoopFacts m₀ CL LL O El R (.int far tf) (.int (n : Nat) tnn))
    (N : News g L s.heap (tail5 L oc CL (cs.map Value.ref).toArray c1 LL (lds.map Value.ref).toArray c2 O ov c3 El ev c4 ++ (newsFrom w 0 Cs ++ rest)))
    (hnd : ((tail5 L oc CL (cs.map Value.ref).toArray c1 LL (lds.map Value.ref).toArray c2 O ov c3 El ev c4 ++ (newsFrom w 0 Cs ++ rest)).map (·.1)).Nodup)
    (hoc : oc.data = .cell (some (.int nm tnm))) (hcs : Cs.map (·.c) = cs) (hld : Cs.map (·.ld) = lds) (hC5 : Cs.length = 5) (hOs : IntsAre ov (newer nm elder)) (hEo : IntsAre ev elder)
    (he : elder.length < 50) (hen : elder.Nodup) (hn60 : n ≤ 60) (hfar : ∀ k, k < 5 → decide (far ≤ ((k : Nat) : Int) + 1) = decide (nm ∈ elder.take (k + 1)))
    (Ok : ∀ (j : Nat) (C : Cch), Cs[j]? = some C → C.Ok prog w j elder n)
    (hQ : ∀ h' tk' m' (Cs' : List Cch), LoopFacts m' CL LL O El R (.int far tf) (.int (n : Nat) tnn) → Fr g L h' m' →
      News g L h' (tail5 L oc CL (cs.map Value.ref).toArray c1 LL (lds.map Value.ref).toArray c2 O ov c3 El ev c4 ++ (newsFrom w 0 Cs' ++ rest)) →
      ((tail5 L oc CL (cs.map Value.ref).toArray c1 LL (lds.map Value.ref).toArray c2 O ov c3 El ev c4 ++ (newsFrom w 0 Cs' ++ rest)).map (·.1)).Nodup →
      Cs'.map (·.c) = cs → Cs'.map (·.ld) = lds → Cs'.length = 5 → (∀ (j : Nat) (C : Cch), Cs'[j]? = some C → C.Ok prog w j (newer nm elder) (n + 1)) → Q .next { s with heap := h', toks := tk' }) :
    wpAny (model prog w) A (pyIter (.ref r)) (fun it s₂ => LoopAtV prog w A g (envOfC (Str.ofString "law") lawScope L fa cd) (Str.ofString "k") innerBody Q E it s₂) E s := by
  let J : Nat → (Str → Option Value) → List (Addr × Obj) → Prop := fun i m₁ nw => ∃ Ds : List Cch, LoopFacts m₁ CL LL O El R (.int far tf) (.int (n : Nat) tnn) ∧
    nw = tail5 L oc CL (cs.map Value.ref).toArray c1 LL (lds.map Value.ref).toArray c2 O ov c3 El ev c4 ++ (newsFrom w 0 Ds ++ rest) ∧ (nw.map (·.1)).Nodup ∧ Ds.map (·.c) = cs ∧ Ds.map (·.ld) = lds ∧ Ds.length = 5 ∧
    ∀ (j : Nat) (C : Cch), Ds[j]? = some C → C.Ok prog w j (if j < i then newer nm elder else elder) (if j < i then n + 1 else n)
  refine range_loop (n := 5) (env := envOfC (Str.ofString "law") lawScope L fa cd) J hh hr (by decide) (by decide) F N ⟨Cs, M, rfl, hnd, hcs, hld, hC5, fun j C hj => by rw [if_neg (Nat.not_lt_zero _), if_neg (Nat.not_lt_zero _)]; exact Ok j C hj⟩ ?_ ?_
  · rintro i t m₁ nw I oI h tk hi ⟨Ds, M₁, rfl, hnd₁, hc₁, hl₁, h5, Ok₁⟩ off F₁ N₁
    obtain ⟨C, hC⟩ : ∃ C, Ds[i]? = some C := ⟨Ds[i], List.getElem?_eq_getElem (by omega)⟩
    obtain ⟨hi', eC⟩ := List.getElem?_eq_some_iff.mp hC
    obtain ⟨pre, post, eD, lp⟩ : ∃ pre post, Ds = pre ++ C :: post ∧ pre.length = i := ⟨Ds.take i, Ds.drop (i + 1), by rw [← eC, ← List.drop_eq_getElem_cons hi', List.take_append_drop], by rw [List.length_take]; omega⟩
    have eN : ∀ C' : Cch, newsFrom w 0 (pre ++ C' :: post) = newsFrom w 0 pre ++ (C'.hd w i ++ (entNews C'.es ++ newsFrom w (i + 1) post)) := fun C' => by
      rw [newsFrom_append, Nat.zero_add, lp]; rfl
    have OkC : C.Ok prog w i elder n := by have := Ok₁ i C hC; rwa [if_neg (Nat.lt_irrefl _), if_neg (Nat.lt_irrefl _)] at this
    rw [eD, eN] at N₁ hnd₁ off
    have F₂ := fr_frm (CL := CL) (LL := LL) (O := O) (El := El) (vf := .int far tf) (vn := .int (n : Nat) tnn) (vk := .int (i : Nat) t) F₁ (if_pos rfl) ((if_neg (by decide)).trans M₁.caches) ((if_neg (by decide)).trans M₁.laid) ((if_neg (by decide)).trans M₁.order) ((if_neg (by decide)).trans M₁.elder) ((if_neg (by decide)).trans M₁.far) ((if_neg (by decide)).trans M₁.n)
    have hIo : I ∉ (tail5 L oc CL (cs.map Value.ref).toArray c1 LL (lds.map Value.ref).toArray c2 O ov c3 El ev c4 ++ (newsFrom w 0 pre ++ (C.hd w i ++ (entNews C.es ++ newsFrom w (i + 1) post)) ++ rest)).map (·.1) := fun z => by
      obtain ⟨p, hp, e⟩ := List.mem_map.mp z
      exact off p hp e
    refine turn (C := C) (k := i) (n := n) (elder := elder) (nm := nm) (cl := (cs.map Value.ref).toArray) (ll := (lds.map Value.ref).toArray) (c1 := c1) (c2 := c2) (c3 := c3) (c4 := c4) (ov := ov) (ev := ev) (oc := oc) (CL := CL) (LL := LL) (O := O) (El := El) (rest := (I, oI) :: (newsFrom w 0 pre ++ (newsFrom w (i + 1) post ++ rest))) X T hroom hh hu F₂ (fun p hp => N₁ p ?_) ?_ hoc ?_ ?_ ?_ ?_ hOs hEo he hen hi hn60 (hfar i hi) OkC ?_
    · simp only [List.mem_append, List.mem_cons] at hp ⊢
      grind
    · have h6 : (I :: (tail5 L oc CL (cs.map Value.ref).toArray c1 LL (lds.map Value.ref).toArray c2 O ov c3 El ev c4 ++ (newsFrom w 0 pre ++ (C.hd w i ++ (entNews C.es ++ newsFrom w (i + 1) post)) ++ rest)).map (·.1) : List Nat).Nodup := List.nodup_cons.mpr ⟨hIo, hnd₁⟩
      refine (List.perm_iff_count.mpr fun y => ?_ : List.Perm _ _).nodup h6
      simp only [List.map_append, List.map_cons, List.count_append, List.count_cons]
      omega
    · rw [← hc₁, eD]
      simp [lp]
    · rw [← hl₁, eD]
      simp [lp]
    · rw [← hc₁]; simp [h5]
    · rw [← hl₁]; simp [h5]
    · intro h' tk' m' C' e1 e2 OkC' hmr F' N' hnd'
      refine ⟨rfl, h', tk', _, tail5 L oc CL (cs.map Value.ref).toArray c1 LL (lds.map Value.ref).toArray c2 O ov c3 El ev c4 ++ (newsFrom w 0 (pre ++ C' :: post) ++ rest), rfl, F', fun p hp => N' p ?_, ?_, pre ++ C' :: post, ⟨rfl, rfl, rfl, rfl, rfl, rfl, ?_⟩, rfl, ?_, ?_, ?_, ?_, ?_⟩
      · rw [eN] at hp
        simp only [List.mem_append, List.mem_cons] at hp ⊢
        grind
      · intro p hp z
        rw [eN] at hp
        have h6 : (I :: (tail5 L oc CL (cs.map Value.ref).toArray c1 LL (lds.map Value.ref).toArray c2 O ov c3 El ev c4 ++ (newsFrom w 0 pre ++ (C'.hd w i ++ (entNews C'.es ++ newsFrom w (i + 1) post)) ++ rest)).map (·.1) : List Nat).Nodup := by
          refine (List.perm_iff_count.mpr fun y => ?_ : List.Perm _ _).nodup hnd'
          simp only [List.map_append, List.map_cons, List.count_append, List.count_cons]
          omega
        exact (List.nodup_cons.mp h6).1 (z ▸ List.mem_map_of_mem hp)
      · show m' (Str.ofString "requests") = _
        rw [hmr]
        exact (if_neg (by decide)).trans M₁.requests
      · rw [eN]
        have h6 : (I :: (tail5 L oc CL (cs.map Value.ref).toArray c1 LL (lds.map Value.ref).toArray c2 O ov c3 El ev c4 ++ (newsFrom w 0 pre ++ (C'.hd w i ++ (entNews C'.es ++ newsFrom w (i + 1) post)) ++ rest)).map (·.1) : List Nat).Nodup := by
          refine (List.perm_iff_count.mpr fun y => ?_ : List.Perm _ _).nodup hnd'
          simp only [List.map_append, List.map_cons, List.count_append, List.count_cons]
          omega
        exact (List.nodup_cons.mp h6).2
      · rw [← hc₁, eD]; simp [e1]
      · rw [← hl₁, eD]; simp [e2]
      · rw [← h5, eD]; simp
      · intro j D hj
        by_cases hji : j = i
        · subst hji
          rw [if_pos (Nat.lt_succ_self _), if_pos (Nat.lt_succ_self _)]
          rw [List.getElem?_append_right (by omega), lp, Nat.sub_self] at hj
          have : C' = D := by simpa using hj
          rw [← this]; exact OkC'
        · have hj' : Ds[j]? = some D := by
            rw [eD]
            by_cases h7 : j < i
            · rw [List.getElem?_append_left (by omega)] at hj ⊢; exact hj
            · rw [List.getElem?_append_right (by omega)] at hj ⊢
              obtain ⟨d, hd⟩ : ∃ d, j - pre.length = d + 1 := ⟨j - pre.length - 1, by omega⟩
              rw [hd] at hj ⊢
              simpa using hj
          have := Ok₁ j D hj'
          by_cases h7 : j < i
          · rw [if_pos h7, if_pos h7] at this
            rw [if_pos (by omega), if_pos (by omega)]; exact this
          · rw [if_neg h7, if_neg h7] at this
            rw [if_neg (by omega), if_neg (by omega)]; exact this
  · rintro m₁ nw h tk ⟨Ds, M₁, rfl, hnd₁, hc₁, hl₁, h5, Ok₁⟩ F₁ N₁
    refine hQ h tk m₁ Ds M₁ F₁ N₁ hnd₁ hc₁ hl₁ h5 fun j C hj => ?_
    have := Ok₁ j C hj
    have hlt : j < 5 := by rw [← h5]; exact (List.getElem?_eq_some_iff.mp hj).1
    rwa [if_pos hlt, if_pos hlt] at this
end


/-- above all of a ledger -/
structure Fresh (S : Addr) (l : List (Addr × Obj)) : Prop where
  lt : ∀ q ∈ l, q.1 < S
theorem Fresh.adr {S : Addr} {l : List (Addr × Obj)} (h : Fresh S l) : ∀ a ∈ l.map (·.1), a < S := fun a ha => by
  obtain ⟨p, hp, rfl⟩ := List.mem_map.mp ha
  exact h.lt p hp
structure OutFacts (m : Str → Option Value) (R CL LL O : Addr) : Prop where
  requests : m (Str.ofString "requests") = some (.ref R)
  caches : m (Str.ofString "caches") = some (.ref CL)
  laid : m (Str.ofString "laid") = some (.ref LL)
  order : m (Str.ofString "order") = some (.ref O)
theorem mem_take_first {l : List Int} {a : Int} {j k : Nat} (hj : l[j]? = some a) (hf : ∀ i, i < j → l[i]? ≠ some a) : a ∈ l.take k ↔ j < k := by
  constructor
  · intro h
    obtain ⟨i, hi, e⟩ := List.mem_iff_getElem.mp h
    rw [List.length_take] at hi
    rw [List.getElem_take] at e
    refine Nat.lt_of_le_of_lt ?_ (Nat.lt_of_lt_of_le hi (Nat.min_le_left _ _))
    apply Nat.le_of_not_lt
    intro z
    exact hf i z (by rw [List.getElem?_eq_getElem (by omega), e])
  · intro h
    obtain ⟨hl, e⟩ := List.getElem?_eq_some_iff.mp hj
    exact List.mem_iff_getElem.mpr ⟨j, by rw [List.length_take]; omega, by rw [List.getElem_take]; exact e⟩
/-- a mark where the walk is to stop -/
structure StopHere (p : Prop) : Prop where
  go : p
theorem restT_own {prog : Program} {w : World} {A : Around} {s : Shared} {h₀ : Heap} {L : Addr} {m : Str → Option Value} {env : Env} {ct elt : PySem.Expr} {x : Str} {scope : Scope} {cl : List (Str × Addr)} {S : List (Addr × Obj) → Prop} {Fin : List Value → List (Addr × Obj) → Prop} {news : List (Addr × Obj)} {vs : List Value} {ns : List Int} {nm : Int} {b : Bool} (_ : (ns.any fun x => x == nm) = b) (hI : IntsAre vs ns) (hS : S news)
    (ev : ∀ n t I oI C oC D ys m₂ h tk (E' : Value → Shared → Prop) (Q1 : Value → Shared → Prop) (Q2 : Shared → Prop), LCg.NsObj oC m₂ → m₂ x = some (.int n t) → Fr h₀ L h m → News h₀ L h ((I, oI) :: (C, oC) :: (D, LCg.lst ys) :: news) →
      ((n != nm) = true → ∀ tk', Q1 (.int n t) { s with heap := h, toks := tk' }) → ((n != nm) = false → ∀ tk', Q2 { s with heap := h, toks := tk' }) →
      wpAny (model prog w) A (isTrue ct (compEnvC scope cl C env) (eval ct (compEnvC scope cl C env))) (fun ok s' => if ok = true then wpAny (model prog w) A (eval elt (compEnvC scope cl C env)) Q1 E' s' else Q2 s') E' { s with heap := h, toks := tk })
    (fin : ∀ us, IntsAre us (ns.filter fun x => x != nm) → Fin us news) : LCt.CompRestT prog w A h₀ L m env ct elt x scope cl s S (fun i v => vs.toArray[i]? = some v) Fin vs.toArray.size 0 [] news :=
  restT_ind _ hI hS ev fin
theorem cat_own {prog : Program} {w : World} {A : Around} {s : Shared} {g : Heap} {L : Addr} {E : Value → Shared → Prop} {Q : Value → Shared → Prop} {m : Str → Option Value} {news : List (Addr × Obj)} {l D : Addr} {us : List Value} {fs : List Int} {nm : Int} {t : Tok} {c k : Nat}
    (F : Fr g L s.heap m) (N : News g L s.heap news) (hl : (l, PySem.W.listOf #[.int nm t] c) ∈ news) (hD : (D, PySem.W.listOf us.toArray k) ∈ news) (hI : IntsAre us fs) (hz : fs.length ≤ 100)
    (h : ∀ S (ws : List Value) h', Fr g L h' m → News g L h' ((S, PySem.W.listOf ws.toArray 0) :: news) → (∀ q ∈ news, q.1 < S) → IntsAre ws (nm :: fs) → Fresh S news → Q (.ref S) { s with heap := h' }) :
    wpAny (model prog w) A (binaryOp .Add (.ref l) (.ref D)) Q E s := by
  have e1 := hI.length
  exact add_lists (vs := [.int nm t]) F N ⟨_, (N _ hl).1, rfl, _, rfl⟩ ⟨_, (N _ hD).1, rfl, _, rfl⟩ (fun h' F' N' => h _ _ h' F' N' (fun q hq => Heap.lt_size (N q hq).1) (.cons _ _ hI) ⟨fun q hq => Heap.lt_size (N q hq).1⟩) (by rw [sizeLine_eq]; simp; omega)
abbrev ofrm (R CL LL O : Addr) (vn : Value) (u : Str → Option Value) : Str → Option Value := fun y =>
  if y = Str.ofString "n" then some vn else if y = Str.ofString "requests" then some (.ref R) else if y = Str.ofString "caches" then some (.ref CL) else if y = Str.ofString "laid" then some (.ref LL) else if y = Str.ofString "order" then some (.ref O) else u y
section
variable {prog : Program} {w : World} {A : Around} {s : Shared} {mean : ExcName → Option Value} {mg mb : Str → Option Value} {g : Heap} {L fa : Addr} {cd : Value} {E : Value → Shared → Prop} {Q : Flow → Shared → Prop}
local macro_rules | `(tactic| k_room) => `(tactic| ((try simp only [depth_under_make, depth_under_kw, depth_in1, depth_deeper, depth_caller] at *); (try simp only [recursionLimit] at *); omega))
local macro_rules | `(tactic| k_ne) => `(tactic| (refine neN ?_; (try dsimp only); first | assumption | (refine Ne.symm ?_; assumption)))
local macro_rules | `(tactic| k_all) => `(tactic| assumption)
local macro_rules | `(tactic| walk_at "unpackItems ref") => `(tactic| (k_here; k_dflt (refine' unpackItemsN_ ?k1 ?k2 ?k3 ?k4 ?k5 ?_; (case k1 => k_asm); (case k2 => k_asm); (case k3 => kun_tup); (case k4 => k_asm); (case k5 => exact rfl); k_whole); intro h' F' N'; (try k_sweep)))
local macro_rules | `(tactic| walk_at "subscriptTail") => `(tactic| (k_here; (with_reducible show wpAny _ _ (subscriptTail (PySem.Expr.Name _ _) _ (Value.ref _) (Value.int _ _)) _ _ _); k_dflt (refine' item_ref ?xN ?xm ?xi ?xz ?_ ?xs; (case xN => k_asm); (case xm => k_mem); (case xi => k_asm); (case xz => k_asm); (case xs => with_unfolding_all rfl); k_whole)))
local macro_rules | `(tactic| walk_at "compareOp In int ref") => `(tactic| (k_here; k_dflt (refine' in_own ?x0 ?x1 ?x2 ?x3 ?_; (case x0 => k_asm); (case x1 => k_mem); (case x2 => k_asm); (case x3 => k_asm); k_whole)))
local macro_rules | `(tactic| walk_at "call builtin:list.index") => `(tactic| (k_here; k_dflt (refine' index_own ?x0 ?x1 ?x2 ?x3 ?x4 ?x5 ?_; (case x0 => k_asm); (case x1 => k_mem); (case x2 => k_asm); (case x3 => omega); (case x4 => k_asm); (case x5 => k_asm); k_whole)))
local macro_rules | `(tactic| walk_at "binaryOp Add ref ref") => `(tactic| (k_here; k_dflt (refine' cat_own ?x0 ?x1 ?x2 ?x3 ?x4 ?x5 ?_; (case x0 => k_asm); (case x1 => k_asm); (case x2 => k_mem); (case x3 => k_mem); (case x4 => k_asm); (case x5 => exact Nat.le_trans (List.length_filter_le _ _) (by omega)); k_whole); intro S' ws' h' F' N' l1 hI' fr'; (try k_lt l1); (try k_sweep)))
local macro_rules | `(tactic| walk_at "eval ListComp") => `(tactic| (k_here; k_dflt (refine' LCt.ListComp_T ?xF ?xa ?xb ?xc ?xd ?xe ?_; (case xF => k_asm); (case xa => with_unfolding_all rfl); (case xb => decide); (case xc => rfl); (case xd => decide); (case xe => rfl))))
local macro_rules | `(tactic| walk_at "CompSrcT") => `(tactic| (k_here; k_dflt (refine' LCt.CompSrcT.ledger ?xh ?xF ?xN ?xm ?xz ?_; (case xh => k_asm); (case xF => k_asm); (case xN => k_asm); (case xm => k_mem); (case xz => k_asm)); intro g'; k_dflt (refine' restT_own ?xt ?xI ?xS ?ev ?fin; (case xt => k_asm); (case xI => k_asm); (case xS => exact Or.inr ⟨_, by k_mem, rfl, _, rfl⟩)); (case' ev => (intro n' t' I' oI' C' oC' D' ys' m' h' tk' E' Q1' Q2' hC' hx' F' N' q1' q2'; dsimp only)); (case' fin => (intro us' hI'))))
local macro_rules | `(tactic| walk_at "exec For") => `(tactic| (k_here; (rename Fr _ _ _ _ => lF'); (with_unfolding_all refine' For_invVF lF' ?k1 ?k2 ?_ ?k3 ?k4; (case k1 => exact rfl); (case k2 => exact rfl); (case k3 => (intro _; rfl)); (case k4 => k_asm); k_whole)))
local macro_rules | `(tactic| walk_at "pyIter ref") => `(tactic| (k_here; refine' StopHere.go ?_))
local macro_rules | `(tactic| walk_at "no key z1801") => `(tactic| skip)
local macro_rules | `(tactic| walk_at "no key z1802") => `(tactic| skip)
local macro_rules | `(tactic| walk_at "no key z1803") => `(tactic| skip)
local macro_rules | `(tactic| walk_at "no key z1804") => `(tactic| skip)
local macro_rules | `(tactic| walk_at "no key z1805") => `(tactic| skip)
local macro_rules | `(tactic| walk_at "no key z1806") => `(tactic| skip)
local macro_rules | `(tactic| walk_at "no key z1807") => `(tactic| skip)
local macro_rules | `(tactic| walk_at "no key z1808") => `(tactic| skip)
local macro_rules | `(tactic| walk_at "no key z1809") => `(tactic| skip)

set_option maxHeartbeats 4000000 in
theorem oturn1 {Cs : List Cch} {cs lds : List Addr} {CL LL O R I : Addr} {nm : Int} {tnn tnm : Tok} {oc oI : Obj} {eo : List Int} {n : Nat} {u : Str → Option Value} {c0 c1 c2 c3 : Nat} {ov rv : List Value} {v0 : Option Value}
    (X : (Mine.hd.heap_39 w.params).In g) (T : Top Mine.hd.view_39 (looseW Mine.hd.view_39 [Str.ofString "itemgetter", Str.ofString "LRUCache"]) mean mg mb g) (hroom : A.depth < 700) (hh : A.handled = none) (hu : A.units + 200 < cLine)
    (F : Fr g L s.heap (ofrm R CL LL O (.int (n : Nat) tnn) u))
    (N : News g L s.heap ((L + 1, oc) :: (R, PySem.W.listOf rv.toArray c0) :: (CL, PySem.W.listOf (cs.map Value.ref).toArray c1) :: (LL, PySem.W.listOf (lds.map Value.ref).toArray c2) :: (O, PySem.W.listOf ov.toArray c3) :: (newsFrom w 0 Cs ++ [(I, oI)])))
    (hnd : (((L + 1, oc) :: (R, PySem.W.listOf rv.toArray c0) :: (CL, PySem.W.listOf (cs.map Value.ref).toArray c1) :: (LL, PySem.W.listOf (lds.map Value.ref).toArray c2) :: (O, PySem.W.listOf ov.toArray c3) :: (newsFrom w 0 Cs ++ [(I, oI)])).map (·.1)).Nodup)
    (hE : PassesOwn (model prog w) A (envOfC (Str.ofString "law") lawScope L fa cd) E) (hoc : oc.data = .cell v0) (hrv : rv.toArray[n]? = some (.int nm tnm)) (hrz : rv.toArray.size ≤ 1000) (hEo : IntsAre ov eo) (he60 : eo.length < 50) (hovz : ov.toArray.size ≤ sizeLine) (hen : eo.Nodup) (hn60 : n ≤ 60)
    (hth : (eo.any fun x => x == nm) = true) {j : Nat} (hj : eo[j]? = some nm) (hjf : ∀ i, i < j → eo[i]? ≠ some nm)   (hcs : Cs.map (·.c) = cs) (hld : Cs.map (·.ld) = lds) (hC5 : Cs.length = 5) (Ok : ∀ (j : Nat) (C : Cch), Cs[j]? = some C → C.Ok prog w j eo n)
    (_ : @Ne Nat R (L + 1)) (_ : @Ne Nat CL (L + 1)) (_ : @Ne Nat LL (L + 1)) (_ : @Ne Nat O (L + 1)) (_ : ∀ p ∈ newsFrom w 0 Cs ++ [(I, oI)], p.1 ≠ L + 1)
    (hQ : ∀ h' tk' m' (Cs' : List Cch) (S : Addr) (ws : List Value) (oc' : Obj), OutFacts m' R CL LL S → Fr g L h' m' → News g L h' ((L + 1, oc') :: (R, PySem.W.listOf rv.toArray c0) :: (CL, PySem.W.listOf (cs.map Value.ref).toArray c1) :: (LL, PySem.W.listOf (lds.map Value.ref).toArray c2) :: (S, PySem.W.listOf ws.toArray 0) :: (newsFrom w 0 Cs' ++ [(I, oI)])) → (((L + 1, oc') :: (R, PySem.W.listOf rv.toArray c0) :: (CL, PySem.W.listOf (cs.map Value.ref).toArray c1) :: (LL, PySem.W.listOf (lds.map Value.ref).toArray c2) :: (S, PySem.W.listOf ws.toArray 0) :: (newsFrom w 0 Cs' ++ [(I, oI)])).map (·.1)).Nodup → (∃ v, oc'.data = .cell v) → IntsAre ws (newer nm eo) → Cs'.map (·.c) = cs → Cs'.map (·.ld) = lds → Cs'.length = 5 →
      (∀ (j : Nat) (C : Cch), Cs'[j]? = some C → C.Ok prog w j (newer nm eo) (n + 1)) → Q .next { s with heap := h', toks := tk' }) :
    wpAny (model prog w) A (execs outerBody (envOfC (Str.ofString "law") lawScope L fa cd)) Q E s := by
  conv in (outerBody) => whnf
  conv in (lawScope) => whnf
  k_steps
  case' refine_1 => skip
  all_goals (try (first | (rename ((_ != _) = true → ∀ _, _) => q1; exact q1 (by simpa using ‹_ ≠ _›) _) | (rename ((_ != _) = false → ∀ _, _) => q2; exact q2 (by simpa using ‹_ = _›) _)))
  (rename Fr _ _ _ _ => F')
  (rename News _ _ _ _ => N')
  (rename Fresh _ _ => hfr)
  (rename IsRange _ _ _ _ _ _ _ _ => hr')
  (rename (_ = Data.cell (some (Value.int _ _))) => hoc')
  have fr2 := hfr.adr
  refine ⟨inner_loop (cs := cs) (lds := lds) (Cs := Cs) (elder := eo) (nm := nm) (far := ((j : Nat) : Int) + 1) (c1 := c1) (c2 := c2) (c3 := 0) (c4 := c3) (ev := ov) (CL := CL) (LL := LL) (El := O) (R := R) (rest := [(R, PySem.W.listOf rv.toArray c0), (I, oI)]) X T hroom hh hu hr' F' ⟨rfl, rfl, rfl, rfl, rfl, rfl, rfl⟩ (fun p hp => N' p ?_) ?_ hoc' hcs hld hC5 (by assumption) hEo he60 hen hn60 (fun k hk => by rw [decide_eq_decide, mem_take_first hj hjf]; omega) Ok fun h' tk' m' Cs' M2 F2 N2 hnd2 hc2 hl2 h52 Ok2 => ?_⟩
  · simp only [List.mem_cons, List.mem_append] at hp ⊢
    grind
  · refine (List.perm_iff_count.mpr fun y => ?_ : List.Perm _ _).nodup (List.nodup_cons.mpr ⟨fun z => Nat.lt_irrefl _ (fr2 _ (.tail _ (.tail _ z))), hnd⟩)
    simp only [List.map_append, List.map_cons, List.map_nil, List.count_append, List.count_cons, List.count_nil]
    omega
  · dsimp only
    refine wpAny_execs_nil ?_
    refine hQ h' tk' m' Cs' _ _ _ ⟨M2.requests, M2.caches, M2.laid, M2.order⟩ F2 (fun p hp => N2 p ?_) ?_ ⟨_, hoc'⟩ (by assumption) hc2 hl2 h52 Ok2
    · simp only [List.mem_cons, List.mem_append] at hp ⊢
      grind
    · refine List.nodup_iff_count.mpr fun y => Nat.le_trans ?_ (List.nodup_iff_count.mp hnd2 y)
      simp only [List.map_append, List.map_cons, List.map_nil, List.count_append, List.count_cons, List.count_nil]
      omega
end


section
variable {prog : Program} {w : World} {A : Around} {s : Shared} {mean : ExcName → Option Value} {mg mb : Str → Option Value} {g : Heap} {L fa : Addr} {cd : Value} {E : Value → Shared → Prop} {Q : Flow → Shared → Prop}
local macro_rules | `(tactic| k_room) => `(tactic| ((try simp only [depth_under_make, depth_under_kw, depth_in1, depth_deeper, depth_caller] at *); (try simp only [recursionLimit] at *); omega))
local macro_rules | `(tactic| k_ne) => `(tactic| (refine neN ?_; (try dsimp only); first | assumption | (refine Ne.symm ?_; assumption)))
local macro_rules | `(tactic| k_all) => `(tactic| assumption)
local macro_rules | `(tactic| walk_at "unpackItems ref") => `(tactic| (k_here; k_dflt (refine' unpackItemsN_ ?k1 ?k2 ?k3 ?k4 ?k5 ?_; (case k1 => k_asm); (case k2 => k_asm); (case k3 => kun_tup); (case k4 => k_asm); (case k5 => exact rfl); k_whole); intro h' F' N'; (try k_sweep)))
local macro_rules | `(tactic| walk_at "subscriptTail") => `(tactic| (k_here; (with_reducible show wpAny _ _ (subscriptTail (PySem.Expr.Name _ _) _ (Value.ref _) (Value.int _ _)) _ _ _); k_dflt (refine' item_ref ?xN ?xm ?xi ?xz ?_ ?xs; (case xN => k_asm); (case xm => k_mem); (case xi => k_asm); (case xz => k_asm); (case xs => with_unfolding_all rfl); k_whole)))
local macro_rules | `(tactic| walk_at "compareOp In int ref") => `(tactic| (k_here; k_dflt (refine' in_own ?x0 ?x1 ?x2 ?x3 ?_; (case x0 => k_asm); (case x1 => k_mem); (case x2 => k_asm); (case x3 => k_asm); k_whole)))
local macro_rules | `(tactic| walk_at "call builtin:list.index") => `(tactic| (k_here; k_dflt (refine' index_own ?x0 ?x1 ?x2 ?x3 ?x4 ?x5 ?_; (case x0 => k_asm); (case x1 => k_mem); (case x2 => k_asm); (case x3 => omega); (case x4 => k_asm); (case x5 => k_asm); k_whole)))
local macro_rules | `(tactic| walk_at "binaryOp Add ref ref") => `(tactic| (k_here; k_dflt (refine' cat_own ?x0 ?x1 ?x2 ?x3 ?x4 ?x5 ?_; (case x0 => k_asm); (case x1 => k_asm); (case x2 => k_mem); (case x3 => k_mem); (case x4 => k_asm); (case x5 => exact Nat.le_trans (List.length_filter_le _ _) (by omega)); k_whole); intro S' ws' h' F' N' l1 hI' fr'; (try k_lt l1); (try k_sweep)))
local macro_rules | `(tactic| walk_at "eval ListComp") => `(tactic| (k_here; k_dflt (refine' LCt.ListComp_T ?xF ?xa ?xb ?xc ?xd ?xe ?_; (case xF => k_asm); (case xa => with_unfolding_all rfl); (case xb => decide); (case xc => rfl); (case xd => decide); (case xe => rfl))))
local macro_rules | `(tactic| walk_at "CompSrcT") => `(tactic| (k_here; k_dflt (refine' LCt.CompSrcT.ledger ?xh ?xF ?xN ?xm ?xz ?_; (case xh => k_asm); (case xF => k_asm); (case xN => k_asm); (case xm => k_mem); (case xz => k_asm)); intro g'; k_dflt (refine' restT_own ?xt ?xI ?xS ?ev ?fin; (case xt => k_asm); (case xI => k_asm); (case xS => exact Or.inr ⟨_, by k_mem, rfl, _, rfl⟩)); (case' ev => (intro n' t' I' oI' C' oC' D' ys' m' h' tk' E' Q1' Q2' hC' hx' F' N' q1' q2'; dsimp only)); (case' fin => (intro us' hI'))))
local macro_rules | `(tactic| walk_at "exec For") => `(tactic| (k_here; (rename Fr _ _ _ _ => lF'); (with_unfolding_all refine' For_invVF lF' ?k1 ?k2 ?_ ?k3 ?k4; (case k1 => exact rfl); (case k2 => exact rfl); (case k3 => (intro _; rfl)); (case k4 => k_asm); k_whole)))
local macro_rules | `(tactic| walk_at "pyIter ref") => `(tactic| (k_here; refine' StopHere.go ?_))
local macro_rules | `(tactic| walk_at "no key z1901") => `(tactic| skip)
local macro_rules | `(tactic| walk_at "no key z1902") => `(tactic| skip)
local macro_rules | `(tactic| walk_at "no key z1903") => `(tactic| skip)
local macro_rules | `(tactic| walk_at "no key z1904") => `(tactic| skip)
local macro_rules | `(tactic| walk_at "no key z1905") => `(tactic| skip)
local macro_rules | `(tactic| walk_at "no key z1906") => `(tactic| skip)
local macro_rules | `(tactic| walk_at "no key z1907") => `(tactic| skip)
local macro_rules | `(tactic| walk_at "no key z1908") => `(tactic| skip)
local macro_rules | `(tactic| walk_at "no key z1909") => `(tactic| skip)
local macro_rules | `(tactic| walk_at "no key z1910") => `(tactic| skip)

set_option maxHeartbeats 4000000 in
theorem oturn2 {Cs : List Cch} {cs lds : List Addr} {CL LL O R I : Addr} {nm : Int} {tnn tnm : Tok} {oc oI : Obj} {eo : List Int} {n : Nat} {u : Str → Option Value} {c0 c1 c2 c3 : Nat} {ov rv : List Value} {v0 : Option Value}
    (X : (Mine.hd.heap_39 w.params).In g) (T : Top Mine.hd.view_39 (looseW Mine.hd.view_39 [Str.ofString "itemgetter", Str.ofString "LRUCache"]) mean mg mb g) (hroom : A.depth < 700) (hh : A.handled = none) (hu : A.units + 200 < cLine)
    (F : Fr g L s.heap (ofrm R CL LL O (.int (n : Nat) tnn) u))
    (N : News g L s.heap ((L + 1, oc) :: (R, PySem.W.listOf rv.toArray c0) :: (CL, PySem.W.listOf (cs.map Value.ref).toArray c1) :: (LL, PySem.W.listOf (lds.map Value.ref).toArray c2) :: (O, PySem.W.listOf ov.toArray c3) :: (newsFrom w 0 Cs ++ [(I, oI)])))
    (hnd : (((L + 1, oc) :: (R, PySem.W.listOf rv.toArray c0) :: (CL, PySem.W.listOf (cs.map Value.ref).toArray c1) :: (LL, PySem.W.listOf (lds.map Value.ref).toArray c2) :: (O, PySem.W.listOf ov.toArray c3) :: (newsFrom w 0 Cs ++ [(I, oI)])).map (·.1)).Nodup)
    (hE : PassesOwn (model prog w) A (envOfC (Str.ofString "law") lawScope L fa cd) E) (hoc : oc.data = .cell v0) (hrv : rv.toArray[n]? = some (.int nm tnm)) (hrz : rv.toArray.size ≤ 1000) (hEo : IntsAre ov eo) (he60 : eo.length < 50) (hovz : ov.toArray.size ≤ sizeLine) (hen : eo.Nodup) (hn60 : n ≤ 60)
    (hth : (eo.any fun x => x == nm) = false)  (hno : nm ∉ eo) (hcs : Cs.map (·.c) = cs) (hld : Cs.map (·.ld) = lds) (hC5 : Cs.length = 5) (Ok : ∀ (j : Nat) (C : Cch), Cs[j]? = some C → C.Ok prog w j eo n)
    (_ : @Ne Nat R (L + 1)) (_ : @Ne Nat CL (L + 1)) (_ : @Ne Nat LL (L + 1)) (_ : @Ne Nat O (L + 1)) (_ : ∀ p ∈ newsFrom w 0 Cs ++ [(I, oI)], p.1 ≠ L + 1)
    (hQ : ∀ h' tk' m' (Cs' : List Cch) (S : Addr) (ws : List Value) (oc' : Obj), OutFacts m' R CL LL S → Fr g L h' m' → News g L h' ((L + 1, oc') :: (R, PySem.W.listOf rv.toArray c0) :: (CL, PySem.W.listOf (cs.map Value.ref).toArray c1) :: (LL, PySem.W.listOf (lds.map Value.ref).toArray c2) :: (S, PySem.W.listOf ws.toArray 0) :: (newsFrom w 0 Cs' ++ [(I, oI)])) → (((L + 1, oc') :: (R, PySem.W.listOf rv.toArray c0) :: (CL, PySem.W.listOf (cs.map Value.ref).toArray c1) :: (LL, PySem.W.listOf (lds.map Value.ref).toArray c2) :: (S, PySem.W.listOf ws.toArray 0) :: (newsFrom w 0 Cs' ++ [(I, oI)])).map (·.1)).Nodup → (∃ v, oc'.data = .cell v) → IntsAre ws (newer nm eo) → Cs'.map (·.c) = cs → Cs'.map (·.ld) = lds → Cs'.length = 5 →
      (∀ (j : Nat) (C : Cch), Cs'[j]? = some C → C.Ok prog w j (newer nm eo) (n + 1)) → Q .next { s with heap := h', toks := tk' }) :
    wpAny (model prog w) A (execs outerBody (envOfC (Str.ofString "law") lawScope L fa cd)) Q E s := by
  conv in (outerBody) => whnf
  conv in (lawScope) => whnf
  k_steps
  case' refine_1 => skip
  all_goals (try (first | (rename ((_ != _) = true → ∀ _, _) => q1; exact q1 (by simpa using ‹_ ≠ _›) _) | (rename ((_ != _) = false → ∀ _, _) => q2; exact q2 (by simpa using ‹_ = _›) _)))
  (rename Fr _ _ _ _ => F')
  (rename News _ _ _ _ => N')
  (rename Fresh _ _ => hfr)
  (rename IsRange _ _ _ _ _ _ _ _ => hr')
  (rename (_ = Data.cell (some (Value.int _ _))) => hoc')
  have fr2 := hfr.adr
  refine ⟨inner_loop (cs := cs) (lds := lds) (Cs := Cs) (elder := eo) (nm := nm) (far := 99) (c1 := c1) (c2 := c2) (c3 := 0) (c4 := c3) (ev := ov) (CL := CL) (LL := LL) (El := O) (R := R) (rest := [(R, PySem.W.listOf rv.toArray c0), (I, oI)]) X T hroom hh hu hr' F' ⟨rfl, rfl, rfl, rfl, rfl, rfl, rfl⟩ (fun p hp => N' p ?_) ?_ hoc' hcs hld hC5 (by assumption) hEo he60 hen hn60 (fun k hk => by rw [decide_eq_decide]; exact ⟨fun h => absurd h (by omega), fun h => absurd (List.mem_of_mem_take h) hno⟩) Ok fun h' tk' m' Cs' M2 F2 N2 hnd2 hc2 hl2 h52 Ok2 => ?_⟩
  · simp only [List.mem_cons, List.mem_append] at hp ⊢
    grind
  · refine (List.perm_iff_count.mpr fun y => ?_ : List.Perm _ _).nodup (List.nodup_cons.mpr ⟨fun z => Nat.lt_irrefl _ (fr2 _ (.tail _ (.tail _ z))), hnd⟩)
    simp only [List.map_append, List.map_cons, List.map_nil, List.count_append, List.count_cons, List.count_nil]
    omega
  · dsimp only
    refine wpAny_execs_nil ?_
    refine hQ h' tk' m' Cs' _ _ _ ⟨M2.requests, M2.caches, M2.laid, M2.order⟩ F2 (fun p hp => N2 p ?_) ?_ ⟨_, hoc'⟩ (by assumption) hc2 hl2 h52 Ok2
    · simp only [List.mem_cons, List.mem_append] at hp ⊢
      grind
    · refine List.nodup_iff_count.mpr fun y => Nat.le_trans ?_ (List.nodup_iff_count.mp hnd2 y)
      simp only [List.map_append, List.map_cons, List.map_nil, List.count_append, List.count_cons, List.count_nil]
      omega
end


theorem fr_ofrm {g h : Heap} {L R CL LL O : Addr} {vn : Value} {m : Str → Option Value} (F : Fr g L h m) (h1 : m (Str.ofString "n") = some vn) (h2 : m (Str.ofString "requests") = some (.ref R)) (h3 : m (Str.ofString "caches") = some (.ref CL)) (h4 : m (Str.ofString "laid") = some (.ref LL)) (h5 : m (Str.ofString "order") = some (.ref O)) :
    Fr g L h (ofrm R CL LL O vn m) := by
  have e : m = ofrm R CL LL O vn m := by
    funext y
    unfold ofrm
    split
    · rename_i e; rw [e, h1]
    split
    · rename_i e; rw [e, h2]
    split
    · rename_i e; rw [e, h3]
    split
    · rename_i e; rw [e, h4]
    split
    · rename_i e; rw [e, h5]
    rfl
  rw [← e]; exact F
theorem small_nat {n : Nat} (h : n ≤ 1000) : Builtin.Range.small 0 (n : Int) 1 = true := small_one (by decide) (by decide) (by omega) (by omega)
theorem size_nat (n : Nat) : Builtin.Range.rangeSize 0 (n : Int) 1 = (n : Int) := by
  rw [rangeSize_nat]; simp
section
variable {prog : Program} {w : World} {A : Around} {s : Shared} {mean : ExcName → Option Value} {mg mb : Str → Option Value} {g : Heap} {L fa : Addr} {cd : Value} {E : Value → Shared → Prop} {Q : Flow → Shared → Prop}
set_option maxHeartbeats 4000000 in
theorem outer_loop {Cs : List Cch} {cs lds : List Addr} {rs : List Int} {t₀ u₀ v₀ : Tok} {CL LL O R r : Addr} {oc : Obj} {m₀ : Str → Option Value} {c0 c1 c2 c3 : Nat} {rv : List Value} {v0 : Option Value}
    (X : (Mine.hd.heap_39 w.params).In g) (T : Top Mine.hd.view_39 (looseW Mine.hd.view_39 [Str.ofString "itemgetter", Str.ofString "LRUCache"]) mean mg mb g) (hroom : A.depth < 700) (hh : A.handled = none) (hu : A.units + 200 < cLine)
    (hE : PassesOwn (model prog w) A (envOfC (Str.ofString "law") lawScope L fa cd) E)
    (hr : IsRange s.heap r 0 (rs.length : Nat) 1 t₀ u₀ v₀) (hI : IntsAre rv rs) (hrl : rs.length ≤ 40) (F : Fr g L s.heap m₀) (M : OutFacts m₀ R CL LL O)
    (N : News g L s.heap ((L + 1, oc) :: (R, PySem.W.listOf rv.toArray c0) :: (CL, PySem.W.listOf (cs.map Value.ref).toArray c1) :: (LL, PySem.W.listOf (lds.map Value.ref).toArray c2) :: (O, PySem.W.listOf ([] : List Value).toArray c3) :: newsFrom w 0 Cs))
    (hnd : (((L + 1, oc) :: (R, PySem.W.listOf rv.toArray c0) :: (CL, PySem.W.listOf (cs.map Value.ref).toArray c1) :: (LL, PySem.W.listOf (lds.map Value.ref).toArray c2) :: (O, PySem.W.listOf ([] : List Value).toArray c3) :: newsFrom w 0 Cs).map (·.1)).Nodup)
    (hoc : oc.data = .cell v0) (hcs : Cs.map (·.c) = cs) (hld : Cs.map (·.ld) = lds) (hC5 : Cs.length = 5) (Ok : ∀ (j : Nat) (C : Cch), Cs[j]? = some C → C.Ok prog w j [] 0)
    (hQ : ∀ h' tk' m', Fr g L h' m' → Q .next { s with heap := h', toks := tk' }) :
    wpAny (model prog w) A (pyIter (.ref r)) (fun it s₂ => LoopAtV prog w A g (envOfC (Str.ofString "law") lawScope L fa cd) (Str.ofString "n") outerBody Q E it s₂) E s := by
  let J : Nat → (Str → Option Value) → List (Addr × Obj) → Prop := fun i m₁ nw => ∃ (Ds : List Cch) (S : Addr) (ws : List Value) (c : Nat) (o : Obj) (eo : List Int), OutFacts m₁ R CL LL S ∧
    nw = ((L + 1, o) :: (R, PySem.W.listOf rv.toArray c0) :: (CL, PySem.W.listOf (cs.map Value.ref).toArray c1) :: (LL, PySem.W.listOf (lds.map Value.ref).toArray c2) :: (S, PySem.W.listOf ws.toArray c) :: newsFrom w 0 Ds) ∧ (nw.map (·.1)).Nodup ∧
    (∃ v, o.data = .cell v) ∧ IntsAre ws eo ∧ eo.Nodup ∧ eo.length ≤ i ∧ Ds.map (·.c) = cs ∧ Ds.map (·.ld) = lds ∧ Ds.length = 5 ∧ ∀ (j : Nat) (C : Cch), Ds[j]? = some C → C.Ok prog w j eo i
  refine range_loop (n := rs.length) (env := envOfC (Str.ofString "law") lawScope L fa cd) J hh hr (small_nat (by omega)) (size_nat _) F N ⟨Cs, O, [], c3, oc, [], M, rfl, hnd, ⟨_, hoc⟩, .nil, List.nodup_nil, Nat.le_refl _, hcs, hld, hC5, Ok⟩ ?_ ?_
  · rintro i t m₁ nw I oI h tk hi ⟨Ds, S, ws, c, o, eo, M₁, rfl, hnd₁, ⟨v, ho⟩, hw, hen, hel, hc₁, hl₁, h5, Ok₁⟩ off F₁ N₁
    obtain ⟨nm, hnm⟩ : ∃ nm, rs[i]? = some nm := ⟨rs[i], List.getElem?_eq_getElem hi⟩
    obtain ⟨tnm, hrv⟩ := hI.get i nm hnm
    have F₂ := fr_ofrm (vn := .int (i : Nat) t) F₁ (if_pos rfl) ((if_neg (by decide)).trans M₁.requests) ((if_neg (by decide)).trans M₁.caches) ((if_neg (by decide)).trans M₁.laid) ((if_neg (by decide)).trans M₁.order)
    have hwl := hw.length
    have hIl := hI.length
    have hndI : (((L + 1, o) :: (R, PySem.W.listOf rv.toArray c0) :: (CL, PySem.W.listOf (cs.map Value.ref).toArray c1) :: (LL, PySem.W.listOf (lds.map Value.ref).toArray c2) :: (S, PySem.W.listOf ws.toArray c) :: (newsFrom w 0 Ds ++ [(I, oI)])).map (·.1)).Nodup := by
      refine (List.perm_iff_count.mpr fun y => ?_ : List.Perm _ _).nodup (List.nodup_cons.mpr ⟨fun z => ?_, hnd₁⟩ : (I :: _ : List Nat).Nodup)
      · simp only [List.map_append, List.map_cons, List.map_nil, List.count_append, List.count_cons, List.count_nil]
        omega
      · obtain ⟨p, hp, e⟩ := List.mem_map.mp z
        exact off p hp e
    have NI : News g L h ((L + 1, o) :: (R, PySem.W.listOf rv.toArray c0) :: (CL, PySem.W.listOf (cs.map Value.ref).toArray c1) :: (LL, PySem.W.listOf (lds.map Value.ref).toArray c2) :: (S, PySem.W.listOf ws.toArray c) :: (newsFrom w 0 Ds ++ [(I, oI)])) := fun p hp => N₁ p (by
      simp only [List.mem_cons, List.mem_append] at hp ⊢
      grind)
    have hnd2 := hndI
    simp only [List.map_cons] at hnd2
    have done : ∀ h' tk' m' (Cs' : List Cch) (S' : Addr) (ws' : List Value) (oc' : Obj), OutFacts m' R CL LL S' → Fr g L h' m' →
        News g L h' ((L + 1, oc') :: (R, PySem.W.listOf rv.toArray c0) :: (CL, PySem.W.listOf (cs.map Value.ref).toArray c1) :: (LL, PySem.W.listOf (lds.map Value.ref).toArray c2) :: (S', PySem.W.listOf ws'.toArray 0) :: (newsFrom w 0 Cs' ++ [(I, oI)])) →
        ((((L + 1, oc') :: (R, PySem.W.listOf rv.toArray c0) :: (CL, PySem.W.listOf (cs.map Value.ref).toArray c1) :: (LL, PySem.W.listOf (lds.map Value.ref).toArray c2) :: (S', PySem.W.listOf ws'.toArray 0) :: (newsFrom w 0 Cs' ++ [(I, oI)])) : List (Addr × Obj)).map (·.1)).Nodup →
        (∃ v, oc'.data = .cell v) → IntsAre ws' (newer nm eo) → Cs'.map (·.c) = cs → Cs'.map (·.ld) = lds → Cs'.length = 5 → (∀ (j : Nat) (C : Cch), Cs'[j]? = some C → C.Ok prog w j (newer nm eo) (i + 1)) →
        (Flow.next = Flow.next ∧ ∃ h'' tk'' m'' news', ({ s with heap := h', toks := tk' } : Shared) = { s with heap := h'', toks := tk'' } ∧ Fr g L h'' m'' ∧ News g L h'' ((I, oI) :: news') ∧ (∀ p ∈ news', p.1 ≠ I) ∧ J (i + 1) m'' news') := by
      intro h' tk' m' Cs' S' ws' oc' M' F' N' nd' ho' hw' hc' hl' h5' Ok'
      have h6 : (I :: ((L + 1, oc') :: (R, PySem.W.listOf rv.toArray c0) :: (CL, PySem.W.listOf (cs.map Value.ref).toArray c1) :: (LL, PySem.W.listOf (lds.map Value.ref).toArray c2) :: (S', PySem.W.listOf ws'.toArray 0) :: newsFrom w 0 Cs').map (·.1) : List Nat).Nodup := by
        refine (List.perm_iff_count.mpr fun y => ?_ : List.Perm _ _).nodup nd'
        simp only [List.map_append, List.map_cons, List.map_nil, List.count_append, List.count_cons, List.count_nil]
        omega
      refine ⟨rfl, h', tk', m', _, rfl, F', fun p hp => N' p ?_, fun p hp z => (List.nodup_cons.mp h6).1 (z ▸ List.mem_map_of_mem hp), Cs', S', ws', 0, oc', newer nm eo, M', rfl, (List.nodup_cons.mp h6).2, ho', hw', newer_nodup hen, Nat.le_trans newer_length (Nat.succ_le_succ hel), hc', hl', h5', Ok'⟩
      simp only [List.mem_cons, List.mem_append] at hp ⊢
      grind
    have hrest : ∀ p ∈ newsFrom w 0 Ds ++ [(I, oI)], p.1 ≠ L + 1 := fun p hp z => by
      have := (List.nodup_cons.mp hnd2).1
      refine this (.tail _ (.tail _ (.tail _ (.tail _ ?_))))
      exact z ▸ List.mem_map_of_mem hp
    by_cases hin : nm ∈ eo
    · obtain ⟨j, hj, ej⟩ := List.mem_iff_getElem.mp hin
      have ej' : eo[j]? = some nm := by rw [List.getElem?_eq_getElem hj, ej]
      exact oturn1 X T hroom hh hu F₂ NI hndI hE ho (by simpa using hrv) (by simp; omega) hw (by omega) (by rw [sizeLine_eq]; simp; omega) hen (by omega) (List.any_eq_true.mpr ⟨nm, hin, by simp⟩) ej'
        (fun i' hi' z => by
          obtain ⟨hl', el'⟩ := List.getElem?_eq_some_iff.mp z
          have := List.pairwise_iff_getElem.mp hen i' j hl' hj hi'
          exact this (el'.trans ej.symm)) hc₁ hl₁ h5 Ok₁
        (nd_ne hnd2 0 1 (by decide) rfl rfl).symm (nd_ne hnd2 0 2 (by decide) rfl rfl).symm (nd_ne hnd2 0 3 (by decide) rfl rfl).symm (nd_ne hnd2 0 4 (by decide) rfl rfl).symm hrest done
    · exact oturn2 X T hroom hh hu F₂ NI hndI hE ho (by simpa using hrv) (by simp; omega) hw (by omega) (by rw [sizeLine_eq]; simp; omega) hen (by omega) (List.any_eq_false.mpr fun y hy z => hin ((by simpa using z : y = nm) ▸ hy)) hin hc₁ hl₁ h5 Ok₁
        (nd_ne hnd2 0 1 (by decide) rfl rfl).symm (nd_ne hnd2 0 2 (by decide) rfl rfl).symm (nd_ne hnd2 0 3 (by decide) rfl rfl).symm (nd_ne hnd2 0 4 (by decide) rfl rfl).symm hrest done
  · rintro m₁ nw h tk ⟨Ds, S, ws, c, o, eo, M₁, rfl, _⟩ F₁ N₁
    exact hQ h tk m₁ F₁
end


/-- a cache as made -/
structure Raw where
  c : Addr
  dc : Addr
  d : Addr
  x : Addr
  dx : Addr
  tc : Tok
  tcap : Tok
  tth : Tok
  th : Tok
  od : Obj
abbrev Raw.news (C : Raw) (w : World) (k : Nat) : List (Addr × Obj) :=
  [(C.c, cacheObj C.dc 0 C.tc C.d C.x ((k + 1 : Nat) : Int) C.tcap C.tth), (C.dc, dictOf [] 0), (C.d, C.od), (C.x, lockObj C.dx), (C.dx, heldObj w.params C.th false)]
structure Raw.Ok (C : Raw) (prog : Program) (w : World) : Prop where
  od : C.od.IsDictOf (PySem.intKind prog w) []
  d0 : (C.d == sysModules) = false
section
variable {prog : Program} {w : World} {A : Around} {s : Shared} {mean : ExcName → Option Value} {mg mb : Str → Option Value} {g : Heap} {L : Addr} {m : Str → Option Value} {news : List (Addr × Obj)} {E : Value → Shared → Prop} {Q : Value → Shared → Prop}
local macro_rules | `(tactic| k_room) => `(tactic| ((try simp only [depth_under_make, depth_under_kw, depth_in1, depth_deeper, depth_caller] at *); (try simp only [recursionLimit] at *); omega))

theorem cache_make_walk {k : Nat} {cap : Int} {tcap tth : Tok} (F : Fr g L s.heap m) (X : (Mine.hd.heap_39 w.params).In g)
    (T : Top Mine.hd.view_39 (looseW Mine.hd.view_39 [Str.ofString "itemgetter", Str.ofString "LRUCache"]) mean mg mb g) (N : News g L s.heap news) (hnd : (news.map (·.1)).Nodup) (hroom : A.depth < 750) (hk : cap = ((k + 1 : Nat) : Int))
    (h : ∀ (C : Raw) h' tk, C.Ok prog w → Fr g L h' m → News g L h' (C.news w k ++ news) → ((C.news w k ++ news).map (·.1)).Nodup → Q (.ref C.c) { s with heap := h', toks := tk }) :
    wpAny (model prog w) A (call (.ref 185) [.int cap tcap, .int 0 tth]) Q E s := by
  refine' call_cls F X N ?hm ?hi ?hf fun c dc h' F' N' l1 l2 => ?_
  case hm => k_dflt k_is
  case hi => k_dflt k_is
  case hf => k_dflt k_is
  have hc := N' _ (.head _)
  have hd := N' _ (.tail _ (.head _))
  subst hk
  have hcd : c ≠ dc := Nat.ne_of_gt l2
  refine cache_init_code (s := { s with heap := h' }) ⟨X, T⟩ F'.keep (by k_room) hc.1 hc.2.2 hd.1 hd.2.2 (by simp; exact hcd) fun h'' tk tc d od x dx th K e1 e2 hod lo e3 e4 nd nx ndx ndd => ?_
  refine ⟨rfl, ?_⟩
  have hf : ∀ a : Addr, h'.get? a = none → ∀ p ∈ (c, instObj 185 dc) :: (dc, dictOf [] 0) :: news, p.1 ≠ a := fun a ha p hp z => by
    have := (N' p hp).1; rw [z, ha] at this; cases this
  obtain ⟨F2, N2⟩ := keep_move (news' := (⟨c, dc, d, x, dx, tc, tcap, tth, th, od⟩ : Raw).news w k ++ news) F' N' K (fun a ha => ⟨instObj 185 dc, by rw [List.mem_singleton.mp ha]; exact .head _⟩) (by
    refine List.forall_mem_cons.mpr ⟨.inr ⟨e1, .inl (.head _)⟩, List.forall_mem_cons.mpr ⟨.inl ⟨.tail _ (.head _), fun z => hcd (List.mem_singleton.mp z).symm⟩, List.forall_mem_cons.mpr ⟨.inr ⟨e2, .inr nd⟩, List.forall_mem_cons.mpr ⟨.inr ⟨e3, .inr nx⟩, List.forall_mem_cons.mpr ⟨.inr ⟨e4, .inr ndx⟩, fun p hp => .inl ⟨.tail _ (.tail _ hp), fun z => ?_⟩⟩⟩⟩⟩⟩
    have h5 := l1 p hp
    rw [List.mem_singleton.mp z] at h5
    exact Nat.lt_irrefl _ (Nat.lt_trans h5 l2))
  refine h ⟨c, dc, d, x, dx, tc, tcap, tth, th, od⟩ h'' tk ⟨hod, lo⟩ F2 N2 ?_
  have g1 : ∀ a ∈ news.map (·.1), a < dc := fun a ha => by
    obtain ⟨p, hp, rfl⟩ := List.mem_map.mp ha; exact l1 p hp
  have g2 : ∀ a : Addr, h'.get? a = none → a ∉ c :: dc :: news.map (·.1) := fun a ha z => by
    have : a ∈ ((c, instObj 185 dc) :: (dc, dictOf [] 0) :: news).map (·.1) := z
    obtain ⟨p, hp, e⟩ := List.mem_map.mp this
    exact hf a ha p hp e
  have gd := g2 d nd
  have gx := g2 x nx
  have gdx := g2 dx ndx
  have h6 : (c :: dc :: news.map (·.1)).Nodup := by
    refine List.nodup_cons.mpr ⟨fun z => ?_, List.nodup_cons.mpr ⟨fun z => Nat.lt_irrefl _ (g1 _ z), hnd⟩⟩
    rcases List.mem_cons.mp z with z | z
    · exact hcd z
    · exact Nat.lt_irrefl _ (Nat.lt_trans (g1 _ z) l2)
  simp only [List.nodup_cons, List.mem_cons, List.not_mem_nil, or_false, not_or] at ndd
  have h7 : (d :: x :: dx :: c :: dc :: news.map (·.1)).Nodup := by
    refine List.nodup_cons.mpr ⟨fun z => ?_, List.nodup_cons.mpr ⟨fun z => ?_, List.nodup_cons.mpr ⟨gdx, h6⟩⟩⟩
    · rcases List.mem_cons.mp z with z | z
      · exact ndd.1.1 z
      · rcases List.mem_cons.mp z with z | z
        · exact ndd.1.2 z
        · exact gd z
    · rcases List.mem_cons.mp z with z | z
      · exact ndd.2.1 z
      · exact gx z
  refine (List.perm_iff_count.mpr fun y => ?_ : List.Perm (d :: x :: dx :: c :: dc :: news.map (·.1)) _).nodup h7
  simp only [List.map_append, List.map_cons, List.map_nil, List.count_append, List.count_cons, List.count_nil]
  omega
end
section
variable {prog : Program} {w : World} {A : Around} {s : Shared} {h₀ : Heap} {L : Addr} {m : Str → Option Value} {env : Env}
theorem restU_inv {elt : PySem.Expr} {x : Str} {scope : Scope} {cl : List (Str × Addr)} {S : List (Addr × Obj) → Prop} {P : Nat → Value → Prop} {Fin : List Value → List (Addr × Obj) → Prop} {news : List (Addr × Obj)} {n : Nat} (Inv : Nat → List Value → List (Addr × Obj) → Prop) (h0 : Inv 0 [] news)
    (ev : ∀ i v I oI C oC D ys nw m₂ h tk (E' : Value → Shared → Prop) (Q1 : Value → Shared → Prop), i < n → P i v → LCg.NsObj oC m₂ → m₂ x = some v → Fr h₀ L h m → News h₀ L h ((I, oI) :: (C, oC) :: (D, LCg.lst ys) :: nw) → LCg.Off3 I C D nw → ((@Ne Nat I C) ∧ (@Ne Nat I D) ∧ (@Ne Nat C D)) → Inv i ys nw →
      (∀ y h' tk' nw', Fr h₀ L h' m → News h₀ L h' ((I, oI) :: (C, oC) :: (D, LCg.lst ys) :: nw') → LCg.Off3 I C D nw' → S nw' → Inv (i + 1) (ys ++ [y]) nw' → Q1 y { s with heap := h', toks := tk' }) →
      wpAny (model prog w) A (eval elt (compEnvC scope cl C env)) Q1 E' { s with heap := h, toks := tk })
    (fin : ∀ ys nw, Inv n ys nw → Fin ys nw) : LCg.CompRest prog w A h₀ L m env elt x scope cl s S P Fin n 0 [] news := by
  have key : ∀ j i ys nw, i + j = n → Inv i ys nw → LCg.CompRest prog w A h₀ L m env elt x scope cl s S P Fin j i ys nw := by
    intro j
    induction j with
    | zero =>
      intro i ys nw hi hy
      have : i = n := by omega
      subst this
      exact LCg.CompRest.zero (fin ys nw hy)
    | succ j ih =>
      intro i ys nw hi hy
      refine LCg.CompRest.succ fun v I oI C oC D m₂ h tk E' hv hC hx F N off ne => ?_
      refine ev i v I oI C oC D ys nw m₂ h tk E' _ (by omega) hv hC hx F N off ne hy fun y h' tk' nw' F' N' off' hS' hI' => ?_
      exact ⟨h', tk', nw', rfl, F', N', off', hS', ih (i + 1) _ nw' (by omega) hI'⟩
  exact key n 0 [] news (by omega) h0
end


def rawFrom (w : World) : Nat → List Raw → List (Addr × Obj)
  | _, [] => []
  | k, C :: r => C.news w k ++ rawFrom w (k + 1) r
theorem rawFrom_append (w : World) : ∀ (a b : List Raw) (k : Nat), rawFrom w k (a ++ b) = rawFrom w k a ++ rawFrom w (k + a.length) b
  | [], b, k => by simp [rawFrom]
  | C :: r, b, k => by
    rw [List.cons_append, rawFrom, rawFrom, rawFrom_append w r b (k + 1)]
    simp [Nat.add_assoc, Nat.add_comm 1]
/-- a made cache and its shadow dict, joined -/
def join (C : Raw) (p : Addr × Obj) : Cch := ⟨C.c, C.dc, C.d, C.x, C.dx, p.1, 0, C.tc, C.tcap, C.tth, C.th, C.od, p.2, [], []⟩
theorem join_mem (w : World) : ∀ (Rs : List Raw) (Ds : List (Addr × Obj)) (k : Nat) (p : Addr × Obj), p ∈ newsFrom w k (List.zipWith join Rs Ds) → p ∈ rawFrom w k Rs ∨ p ∈ Ds
  | [], Ds, k, p, h => by simp [newsFrom] at h
  | C :: r, [], k, p, h => by simp [newsFrom] at h
  | C :: r, d :: Ds, k, p, h => by
    rw [List.zipWith_cons_cons, newsFrom] at h
    rcases List.mem_append.mp h with h | h
    · simp only [List.mem_cons, List.not_mem_nil, or_false] at h
      rcases h with rfl | rfl | rfl | rfl | rfl | rfl
      · exact .inl (List.mem_append_left _ (.head _))
      · exact .inl (List.mem_append_left _ (.tail _ (.head _)))
      · exact .inl (List.mem_append_left _ (.tail _ (.tail _ (.head _))))
      · exact .inl (List.mem_append_left _ (.tail _ (.tail _ (.tail _ (.head _)))))
      · exact .inl (List.mem_append_left _ (.tail _ (.tail _ (.tail _ (.tail _ (.head _))))))
      · exact .inr (.head _)
    · rcases List.mem_append.mp h with h | h
      · simp [join, entNews] at h
      · rcases join_mem w r Ds (k + 1) p h with h | h
        · exact .inl (List.mem_append_right _ h)
        · exact .inr (.tail _ h)
theorem join_count (w : World) (a : Nat) : ∀ (Rs : List Raw) (Ds : List (Addr × Obj)) (k : Nat), List.count a ((newsFrom w k (List.zipWith join Rs Ds)).map (·.1)) ≤ List.count a ((rawFrom w k Rs).map (·.1)) + List.count a (Ds.map (·.1))
  | [], Ds, k => by simp [newsFrom]
  | C :: r, [], k => by simp [newsFrom]
  | C :: r, d :: Ds, k => by
    have ih := join_count w a r Ds (k + 1)
    rw [List.zipWith_cons_cons, newsFrom, rawFrom]
    simp only [join, entNews, List.flatMap_nil, List.nil_append, List.map_append, List.map_cons, List.map_nil, List.count_append, List.count_cons, List.count_nil]
    omega
theorem join_c : ∀ (Rs : List Raw) (Ds : List (Addr × Obj)), Rs.length = Ds.length → (List.zipWith join Rs Ds).map (·.c) = Rs.map (·.c)
  | [], _, _ => rfl
  | C :: r, [], h => by simp at h
  | C :: r, d :: Ds, h => by
    rw [List.zipWith_cons_cons, List.map_cons, List.map_cons, join_c r Ds (by simpa using h)]; rfl
theorem join_ld : ∀ (Rs : List Raw) (Ds : List (Addr × Obj)), Rs.length = Ds.length → (List.zipWith join Rs Ds).map (·.ld) = Ds.map (·.1)
  | [], [], _ => rfl
  | [], _ :: _, h => by simp at h
  | C :: r, [], h => by simp at h
  | C :: r, d :: Ds, h => by
    rw [List.zipWith_cons_cons, List.map_cons, List.map_cons, join_ld r Ds (by simpa using h)]; rfl
theorem join_ok {prog : Program} {w : World} {Rs : List Raw} {Ds : List (Addr × Obj)} (h1 : ∀ C ∈ Rs, C.Ok prog w) (h2 : ∀ p ∈ Ds, p.2.IsDictOf (PySem.intKind prog w) [] ∧ (p.1 == sysModules) = false) (j : Nat) (C : Cch) (h : (List.zipWith join Rs Ds)[j]? = some C) : C.Ok prog w j [] 0 := by
  rw [List.getElem?_zipWith] at h
  cases e1 : Rs[j]? with
  | none => rw [e1] at h; cases h
  | some Cr =>
    cases e2 : Ds[j]? with
    | none => rw [e1, e2] at h; cases h
    | some p =>
      rw [e1, e2] at h
      have e : join Cr p = C := by simpa using h
      rw [← e]
      have a := h1 _ (List.mem_of_getElem? e1)
      have b := h2 _ (List.mem_of_getElem? e2)
      exact ⟨a.od, b.1, a.d0, b.2, ⟨[], .refl _, by simp, .nil⟩, (fun e he => nomatch he), (fun e he => nomatch he), Nat.le_refl _⟩
theorem off3_nodup {I C D : Addr} {oI oC oD : Obj} {nw : List (Addr × Obj)} (off : LCg.Off3 I C D nw) (ne : (@Ne Nat I C) ∧ (@Ne Nat I D) ∧ (@Ne Nat C D)) (h : (nw.map (·.1)).Nodup) : (((I, oI) :: (C, oC) :: (D, oD) :: nw).map (·.1)).Nodup := by
  have o := off.mem
  refine List.nodup_cons.mpr ⟨fun z => ?_, List.nodup_cons.mpr ⟨fun z => ?_, List.nodup_cons.mpr ⟨fun z => ?_, h⟩⟩⟩
  · rcases List.mem_cons.mp z with z | z
    · exact ne.1 z
    · rcases List.mem_cons.mp z with z | z
      · exact ne.2.1 z
      · obtain ⟨p, hp, e⟩ := List.mem_map.mp z; exact (o p hp).1 e
  · rcases List.mem_cons.mp z with z | z
    · exact ne.2.2 z
    · obtain ⟨p, hp, e⟩ := List.mem_map.mp z; exact (o p hp).2.1 e
  · obtain ⟨p, hp, e⟩ := List.mem_map.mp z; exact (o p hp).2.2 e
theorem nodup_off3 {I C D : Addr} {nw : List (Addr × Obj)} (h : (I :: C :: D :: nw.map (·.1) : List Nat).Nodup) : LCg.Off3 I C D nw := by
  have h1 := List.nodup_cons.mp h
  have h2 := List.nodup_cons.mp h1.2
  have h3 := List.nodup_cons.mp h2.2
  refine LCg.Off3.of fun p hp => ⟨fun z => h1.1 (.tail _ (.tail _ ?_)), fun z => h2.1 (.tail _ ?_), fun z => h3.1 ?_⟩ <;> exact z ▸ List.mem_map_of_mem hp
theorem off1_nodup {D : Addr} {nw : List (Addr × Obj)} : LCg.Off1 D nw → (nw.map (·.1)).Nodup → (D :: nw.map (·.1) : List Nat).Nodup := fun o h => by
  refine List.nodup_cons.mpr ⟨fun z => ?_, h⟩
  have key : ∀ {l : List (Addr × Obj)}, LCg.Off1 D l → D ∉ l.map (·.1) := by
    intro l
    induction l with
    | nil => intro _ h; cases h
    | cons p r ih =>
      intro h1 h2
      rcases List.mem_cons.mp h2 with h3 | h3
      · exact h1.1 h3.symm
      · exact ih h1.2 h3
  exact key o z
theorem one_add (i : Nat) : (1 : Int) + (i : Int) = ((i + 1 : Nat) : Int) := by omega



section
variable {prog : Program} {w : World} {A : Around} {s : Shared} {mean : ExcName → Option Value} {mg mb : Str → Option Value} {g : Heap} {L : Addr} {m : Str → Option Value} {news : List (Addr × Obj)} {E : Value → Shared → Prop} {Q : Value → Shared → Prop}
theorem dict_own {env : Env} {pos : Pos} (F : Fr g L s.heap m) (N : News g L s.heap news) (T : Top Mine.hd.view_39 (looseW Mine.hd.view_39 [Str.ofString "itemgetter", Str.ofString "LRUCache"]) mean mg mb g)
    (h : ∀ d h' o, Fr g L h' m → News g L h' ((d, o) :: news) → Fresh d news → (d == sysModules) = false → o.IsDictOf (PySem.intKind prog w) [] → Q (.ref d) { s with heap := h' }) : wpAny (model prog w) A (eval (.Dict [] [] pos) env) Q E s :=
  newDict_K F N T.nolimit fun d h' o F' N' l lo _ _ hi _ => h d h' o F' N' ⟨l⟩ lo hi
theorem raw_step {h : Heap} {C : Raw} {Rs : List Raw} {i : Nat} {I K D : Addr} {oI oK oD : Obj} {B : List (Addr × Obj)} (_ : C.Ok prog w) (N : News g L h (C.news w i ++ ((I, oI) :: (K, oK) :: (D, oD) :: (B ++ rawFrom w 0 Rs)))) (hn : ((C.news w i ++ ((I, oI) :: (K, oK) :: (D, oD) :: (B ++ rawFrom w 0 Rs))).map (·.1)).Nodup) (hl : Rs.length = i) :
    News g L h ((I, oI) :: (K, oK) :: (D, oD) :: (B ++ rawFrom w 0 (Rs ++ [C]))) ∧ LCg.Off3 I K D (B ++ rawFrom w 0 (Rs ++ [C])) ∧ ((B ++ rawFrom w 0 (Rs ++ [C])).map (·.1)).Nodup := by
  have e : rawFrom w 0 (Rs ++ [C]) = rawFrom w 0 Rs ++ C.news w i := by
    rw [rawFrom_append, Nat.zero_add, hl]
    show rawFrom w 0 Rs ++ (C.news w i ++ []) = _
    rw [List.append_nil]
  rw [e]
  have hn2 : (I :: K :: D :: (B ++ (rawFrom w 0 Rs ++ C.news w i)).map (·.1) : List Nat).Nodup := by
    refine (List.perm_iff_count.mpr fun y => ?_ : List.Perm _ _).nodup hn
    simp only [List.map_append, List.map_cons, List.map_nil, List.count_append, List.count_cons, List.count_nil]
    omega
  refine ⟨fun p hp => N p ?_, nodup_off3 hn2, (List.nodup_cons.mp (List.nodup_cons.mp (List.nodup_cons.mp hn2).2).2).2⟩
  simp only [List.mem_append, List.mem_cons] at hp ⊢
  grind
theorem dict_step {h : Heap} {d : Addr} {o : Obj} {I K D : Addr} {oI oK oD : Obj} {B : List (Addr × Obj)} (N : News g L h ((d, o) :: (I, oI) :: (K, oK) :: (D, oD) :: B)) (hn : (((I, oI) :: (K, oK) :: (D, oD) :: B).map (·.1)).Nodup) (fr : Fresh d ((I, oI) :: (K, oK) :: (D, oD) :: B)) :
    News g L h ((I, oI) :: (K, oK) :: (D, oD) :: (B ++ [(d, o)])) ∧ LCg.Off3 I K D (B ++ [(d, o)]) ∧ ((B ++ [(d, o)]).map (·.1)).Nodup := by
  have hn2 : (I :: K :: D :: (B ++ [(d, o)]).map (·.1) : List Nat).Nodup := by
    refine (List.perm_iff_count.mpr fun y => ?_ : List.Perm _ _).nodup (List.nodup_cons.mpr ⟨fun z => Nat.lt_irrefl _ (fr.adr _ z), hn⟩)
    simp only [List.map_append, List.map_cons, List.map_nil, List.count_append, List.count_cons, List.count_nil]
    omega
  refine ⟨fun p hp => N p ?_, nodup_off3 hn2, (List.nodup_cons.mp (List.nodup_cons.mp (List.nodup_cons.mp hn2).2).2).2⟩
  simp only [List.mem_append, List.mem_cons] at hp ⊢
  grind
theorem laid_rest {pos : Pos} {x : Str} {scope : Scope} {cl : List (Str × Addr)} {P : Nat → Value → Prop} {Fin : List Value → List (Addr × Obj) → Prop} {B : List (Addr × Obj)} {n : Nat} {env : Env}
    (T : Top Mine.hd.view_39 (looseW Mine.hd.view_39 [Str.ofString "itemgetter", Str.ofString "LRUCache"]) mean mg mb g) (hn : (B.map (·.1)).Nodup)
    (fin : ∀ Ds : List (Addr × Obj), Ds.length = n → ((B ++ Ds).map (·.1)).Nodup → (∀ p ∈ Ds, p.2.IsDictOf (PySem.intKind prog w) [] ∧ (p.1 == sysModules) = false) → Fin (Ds.map fun p => Value.ref p.1) (B ++ Ds)) :
    LCg.CompRest prog w A g L m env (.Dict [] [] pos) x scope cl s (fun _ => True) P Fin n 0 [] B := by
  refine restU_inv (fun i ys nw => ∃ Ds : List (Addr × Obj), Ds.length = i ∧ ys = Ds.map (fun p => Value.ref p.1) ∧ nw = B ++ Ds ∧ (nw.map (·.1)).Nodup ∧ ∀ p ∈ Ds, p.2.IsDictOf (PySem.intKind prog w) [] ∧ (p.1 == sysModules) = false)
    ⟨[], rfl, rfl, (List.append_nil _).symm, hn, (fun p hp => nomatch hp)⟩ ?_ ?_
  · intro i v I oI C oC D ys nw m₂ h tk E' Q1 hi hv hC hx F2 N2 off ne hInv q
    obtain ⟨Ds, hDl, rfl, rfl, hndn, hOk⟩ := hInv
    have hndI := off3_nodup (oI := oI) (oC := oC) (oD := LCg.lst (Ds.map (fun p => Value.ref p.1))) off ne hndn
    refine dict_own (s := { s with heap := h, toks := tk }) F2 N2 T fun d h' o F3 N3 fr lo hd => ?_
    obtain ⟨N4, off4, nd4⟩ := dict_step N3 hndI fr
    rw [List.append_assoc] at N4 off4 nd4
    refine q _ _ _ _ F3 N4 off4 trivial ⟨Ds ++ [(d, o)], by rw [List.length_append, hDl]; rfl, by rw [List.map_append]; rfl, rfl, nd4, fun p hp => ?_⟩
    rcases List.mem_append.mp hp with z | z
    · exact hOk p z
    · rw [List.mem_singleton.mp z]; exact ⟨hd, lo⟩
  · rintro ys nw ⟨Ds, hDl, rfl, rfl, hndn, hOk⟩
    exact fin Ds hDl hndn hOk
theorem newlist_own {vs : List Value} (F : Fr g L s.heap m) (N : News g L s.heap news) (hz : vs.length ≤ sizeLine) (h : ∀ l h', Fr g L h' m → News g L h' ((l, PySem.W.listOf vs.toArray 0) :: news) → Fresh l news → Q (.ref l) { s with heap := h' }) :
    wpAny (model prog w) A (newList vs) Q E s := newList_K F N (fun l h' F' N' l1 => h l h' F' N' ⟨l1⟩) hz
end

section
variable {prog : Program} {w : World} {A : Around} {s : Shared} {g : Heap} {L : Addr} {m : Str → Option Value} {news : List (Addr × Obj)} {E : Value → Shared → Prop} {Q : Value → Shared → Prop}
theorem max_own {b : Nat} {t u : Tok} (hh : A.handled = none) (F : Fr g L s.heap m) (N : News g L s.heap news)
    (h : ∀ h' tk t' (M : Nat), Fr g L h' m → News g L h' news → Q (.int (M : Nat) t') { s with heap := h', toks := tk }) :
    wpAny (model prog w) A (call (.builtin "max") [.int 6 t, .int (b : Nat) u]) Q E s := by
  refine max_two_ints hh fun h' tk hk => ?_
  obtain ⟨F', N'⟩ := Keep.nil_fr F N hk
  split
  · exact h h' tk u b F' N'
  · exact h h' tk t 6 F' N'
end
section
variable {prog : Program} {w : World} {A : Around} {s : Shared} {mean : ExcName → Option Value} {mg mb : Str → Option Value} {g : Heap} {L fa : Addr} {cd : Value} {E : Value → Shared → Prop} {Q : Flow → Shared → Prop}
local macro_rules | `(tactic| k_room) => `(tactic| ((try simp only [depth_under_make, depth_under_kw, depth_in1, depth_deeper, depth_caller] at *); (try simp only [recursionLimit] at *); omega))
local macro_rules | `(tactic| k_ne) => `(tactic| (refine neN ?_; (try dsimp only); first | assumption | (refine Ne.symm ?_; assumption)))
local macro_rules | `(tactic| k_all) => `(tactic| assumption)
local macro_rules | `(tactic| walk_at "exec Assign cons ListComp") => `(tactic| (k_here; k_dflt (refine' LCg.Assign_ListComp_U ?xF ?x1 ?x2 ?x3 ?x4 ?x5 ?x6 ?x7 ?x8 ?x9 ?_; (case xF => k_asm); (case x1 => rfl); (case x2 => with_unfolding_all rfl); (case x3 => with_unfolding_all rfl); (case x4 => decide); (case x5 => rfl); (case x6 => decide); (case x7 => rfl); (case x8 => rfl); (case x9 => rfl))))
local macro_rules | `(tactic| walk_at "eval ListComp") => `(tactic| (k_here; k_dflt (refine' LCg.ListComp_U ?xF ?x3 ?x4 ?x5 ?x6 ?x7 ?_; (case xF => k_asm); (case x3 => with_unfolding_all rfl); (case x4 => decide); (case x5 => rfl); (case x6 => decide); (case x7 => rfl))))
local macro_rules | `(tactic| walk_at "CompSrc") => `(tactic| (k_here; refine' StopHere.go ?_))
local macro_rules | `(tactic| walk_at "subscriptTail") => `(tactic| (k_here; k_dflt (refine' slice_own ?x0 ?x1 ?x2 ?x3 ?x4 ?x5 ?_ ?x6 ?x7; (case x0 => k_asm); (case x1 => k_asm); (case x2 => k_mem); (case x3 => k_asm); (case x4 => exact rfl); (case x5 => (simp; omega)); (case x6 => with_unfolding_all rfl); (case x7 => (intro _; with_unfolding_all rfl)); k_whole); intro h' S' us' F' N' l1 hI'; (try k_lt l1); (try k_sweep)))
local macro_rules | `(tactic| walk_at "call builtin:max") => `(tactic| (k_here; k_dflt (refine' max_own ?x0 ?x1 ?x2 ?_; (case x0 => k_asm); (case x1 => k_asm); (case x2 => k_asm); k_whole); intro h' tk' t' M' F' N'; (try k_sweep)))
local macro_rules | `(tactic| walk_at "exec For") => `(tactic| (k_here; (rename Fr _ _ _ _ => lF'); (with_unfolding_all refine' For_invVF lF' ?k1 ?k2 ?_ ?k3 ?k4; (case k1 => exact rfl); (case k2 => exact rfl); (case k3 => (intro _; rfl)); (case k4 => k_asm); k_whole)))
local macro_rules | `(tactic| walk_at "pyIter ref") => `(tactic| (k_here; refine' StopHere.go ?_))
local macro_rules | `(tactic| walk_at "call ref") => `(tactic| (k_here; k_dflt (refine' cache_make_walk ?x0 ?x1 ?x2 ?x3 ?x4 ?x5 ?x6 ?_; (case x0 => k_asm); (case x1 => k_asm); (case x2 => k_asm); (case x3 => k_asm); (case x4 => k_asm); (case x5 => k_room); (case x6 => exact one_add _); k_whole); intro C' h' tk' ok' F' N' nd'))
local macro_rules | `(tactic| walk_at "eval Dict nil nil") => `(tactic| (k_here; k_dflt (refine' dict_own ?x0 ?x1 ?x2 ?_; (case x0 => k_asm); (case x1 => k_asm); (case x2 => k_asm); k_whole); intro d' h' o' F' N' fr' lo' hd'; (try k_sweep)))
local macro_rules | `(tactic| walk_at "newList") => `(tactic| (k_here; k_dflt (refine' newlist_own ?x0 ?x1 ?x2 ?_; (case x0 => k_asm); (case x1 => k_asm); (case x2 => (first | exact Nat.zero_le _ | (simp; done))); k_whole); intro l' h' F' N' fr'; (try k_sweep)))
local macro_rules | `(tactic| walk_at "unpackItems ref") => `(tactic| (k_here; k_dflt (refine' unpackItemsN_ ?k1 ?k2 ?k3 ?k4 ?k5 ?_; (case k1 => k_asm); (case k2 => k_asm); (case k3 => kun_tup); (case k4 => k_asm); (case k5 => exact rfl); k_whole); intro h' F' N'; (try k_sweep)))
local macro_rules | `(tactic| walk_at "no key z2001") => `(tactic| skip)
local macro_rules | `(tactic| walk_at "no key z2002") => `(tactic| skip)
local macro_rules | `(tactic| walk_at "no key z2003") => `(tactic| skip)
local macro_rules | `(tactic| walk_at "no key z2004") => `(tactic| skip)
local macro_rules | `(tactic| walk_at "no key z2005") => `(tactic| skip)
local macro_rules | `(tactic| walk_at "no key z2006") => `(tactic| skip)
local macro_rules | `(tactic| walk_at "no key z2007") => `(tactic| skip)
local macro_rules | `(tactic| walk_at "no key z2008") => `(tactic| skip)
local macro_rules | `(tactic| walk_at "no key z2009") => `(tactic| skip)

abbrev rfrm (R : Addr) (u : Str → Option Value) : Str → Option Value := fun y => if y = Str.ofString "requests" then some (.ref R) else u y
set_option maxHeartbeats 8000000 in
theorem law_walk2 {R : Addr} {rv : List Value} {rs : List Int} {oc : Obj} {v0 : Option Value} {u : Str → Option Value} {c0 : Nat}
    (X : (Mine.hd.heap_39 w.params).In g) (T : Top Mine.hd.view_39 (looseW Mine.hd.view_39 [Str.ofString "itemgetter", Str.ofString "LRUCache"]) mean mg mb g) (hroom : A.depth < 700) (hh : A.handled = none) (hu : A.units + 200 < cLine)
    (F : Fr g L s.heap (rfrm R u)) (N : News g L s.heap [(R, PySem.W.listOf rv.toArray c0), (L + 1, oc)]) (hRL : @Ne Nat R (L + 1)) (hoc : oc.data = .cell v0)
    (hE : PassesOwn (model prog w) A (envOfC (Str.ofString "law") lawScope L fa cd) E) (hI : IntsAre rv rs) (hlen : rs.length ≤ 30)
    (hQ : ∀ h' tk' m', Fr g L h' m' → Q (.ret (.bool true)) { s with heap := h', toks := tk' }) :
    wpAny (model prog w) A (execs (lawParts.1.drop 1) (envOfC (Str.ofString "law") lawScope L fa cd)) Q E s := by
  have hIk : Unit → IntsAre rv rs := fun _ => hI
  conv in (lawParts.1.drop 1) => whnf
  conv in (lawScope) => whnf
  k_steps
  (rename Fr _ _ _ _ => F1)
  (rename News _ _ _ _ => N1)
  (rename IsRange _ _ _ _ _ _ _ _ => hr1)
  refine ⟨LCg.CompSrc.range (n := 5) hh F1 N1 hr1 (by decide) (by decide) (by rw [sizeLine_eq]; decide) fun g' => restU_inv (fun i ys nw => ∃ Rs : List Raw, Rs.length = i ∧ ys = Rs.map (fun C => Value.ref C.c) ∧ nw = (R, PySem.W.listOf rv.toArray c0) :: (L + 1, oc) :: rawFrom w 0 Rs ∧ (nw.map (·.1)).Nodup ∧ ∀ C ∈ Rs, C.Ok prog w)
    ⟨[], rfl, rfl, rfl, by simp; exact hRL, (fun C hC => nomatch hC)⟩ ?ev ?fin⟩
  case ev =>
    intro i v I oI C oC D ys nw m₂ h tk E' Q1 hi hv hC hx F2 N2 off ne hInv q
    obtain ⟨t, rfl⟩ := hv
    obtain ⟨Rs, hRl, rfl, rfl, hndn, hOk⟩ := hInv
    have hndI := off3_nodup (oI := oI) (oC := oC) (oD := LCg.lst (Rs.map (fun C => Value.ref C.c))) off ne hndn
    k_steps
    (rename Raw.Ok _ _ _ => ok3)
    (rename Fr _ _ _ _ => F3)
    (rename News _ _ _ _ => N3)
    (rename List.Nodup _ => nd3)
    obtain ⟨N4, off4, nd4⟩ := raw_step (B := [(R, PySem.W.listOf rv.toArray c0), (L + 1, oc)]) ok3 N3 nd3 hRl
    refine q _ _ _ _ F3 N4 off4 trivial ⟨Rs ++ [_], by rw [List.length_append, hRl]; rfl, by rw [List.map_append]; rfl, rfl, nd4, fun C hC => ?_⟩
    rcases List.mem_append.mp hC with z | z
    · exact hOk C z
    · rw [List.mem_singleton.mp z]; exact ok3
  case fin =>
    intro ys nw hInv
    obtain ⟨Rs, hRl, rfl, rfl, hndn, hOk⟩ := hInv
    k_steps
    (rename Fr _ _ _ _ => F5)
    (rename News _ _ _ _ => N5)
    (rename (_ ∧ _ ∧ LCg.Off1 _ _) => of5)
    (rename IsRange _ _ _ _ _ _ _ _ => hr5)
    have ecs : Rs.map (fun C => Value.ref C.c) = (Rs.map (·.c)).map Value.ref := by rw [List.map_map]; rfl
    rw [ecs] at N5
    refine ⟨LCg.CompSrc.range (n := 5) hh F5 N5 hr5 (by decide) (by decide) (by rw [sizeLine_eq]; decide) fun g' => laid_rest T (off1_nodup of5 hndn) fun Ds hDl hDn hDo => ?_⟩
    k_steps
    (rename Fr _ _ _ _ => F6)
    (rename News _ _ _ _ => N6)
    (rename Fresh _ _ => fr6)
    (rename IsRange _ _ _ _ _ _ _ _ => hr6)
    (rename LCg.Off1 _ _ => of6)
    have eds : Ds.map (fun p => Value.ref p.1) = (Ds.map (·.1)).map Value.ref := by rw [List.map_map]; rfl
    rw [eds] at N6 fr6
    have hd2 := off1_nodup of6 hDn
    have h6 := List.nodup_cons.mpr ⟨fun z => Nat.lt_irrefl _ (fr6.adr _ (.tail _ z)), hd2⟩
    refine ⟨outer_loop (Cs := List.zipWith join Rs Ds) (cs := Rs.map (·.c)) (lds := Ds.map (·.1)) (c1 := ((Rs.map (·.c)).map Value.ref).length) (c2 := ((Ds.map (·.1)).map Value.ref).length) (c3 := 0) (c0 := c0) X T hroom hh hu hE hr6 (hIk ()) (by omega) F6 ⟨rfl, rfl, rfl, rfl⟩ (fun p hp => N6 p ?_) ?_ hoc
      (join_c Rs Ds (by rw [hRl, hDl])) (join_ld Rs Ds (by rw [hRl, hDl])) (by rw [List.length_zipWith, hRl, hDl]; rfl) (join_ok hOk hDo) fun h' tk' m' F7 => ?_⟩
    · simp only [List.mem_cons] at hp
      rcases hp with rfl | rfl | rfl | rfl | rfl | hp
      · simp
      · simp
      · simp
      · simp
      · simp
      · rcases join_mem w Rs Ds 0 p hp with h7 | h7
        · simp [h7]
        · simp [h7]
    · refine List.nodup_iff_count.mpr fun y => Nat.le_trans ?_ (List.nodup_iff_count.mp h6 y)
      have h8 := join_count w y Rs Ds 0
      simp only [List.map_append, List.map_cons, List.map_nil, List.count_append, List.count_cons, List.count_nil, List.cons_append]
      omega
    · k_steps
      exact hQ _ _ _ F7
end


section
variable {prog : Program} {w : World} {A : Around} {s : Shared} {mean : ExcName → Option Value} {mg mb : Str → Option Value} {g : Heap} {L fa : Addr} {cd : Value} {E : Value → Shared → Prop} {Q : Flow → Shared → Prop}
local macro_rules | `(tactic| k_room) => `(tactic| ((try simp only [depth_under_make, depth_under_kw, depth_in1, depth_deeper, depth_caller] at *); (try simp only [recursionLimit] at *); omega))
local macro_rules | `(tactic| k_ne) => `(tactic| (refine neN ?_; (try dsimp only); first | assumption | (refine Ne.symm ?_; assumption)))
local macro_rules | `(tactic| k_all) => `(tactic| assumption)
local macro_rules | `(tactic| walk_at "exec Assign cons ListComp") => `(tactic| (k_here; k_dflt (refine' LCg.Assign_ListComp_U ?xF ?x1 ?x2 ?x3 ?x4 ?x5 ?x6 ?x7 ?x8 ?x9 ?_; (case xF => k_asm); (case x1 => rfl); (case x2 => with_unfolding_all rfl); (case x3 => with_unfolding_all rfl); (case x4 => decide); (case x5 => rfl); (case x6 => decide); (case x7 => rfl); (case x8 => rfl); (case x9 => rfl))))
local macro_rules | `(tactic| walk_at "eval ListComp") => `(tactic| (k_here; k_dflt (refine' LCg.ListComp_U ?xF ?x3 ?x4 ?x5 ?x6 ?x7 ?_; (case xF => k_asm); (case x3 => with_unfolding_all rfl); (case x4 => decide); (case x5 => rfl); (case x6 => decide); (case x7 => rfl))))
local macro_rules | `(tactic| walk_at "CompSrc") => `(tactic| (k_here; refine' StopHere.go ?_))
local macro_rules | `(tactic| walk_at "subscriptTail") => `(tactic| (k_here; k_dflt (refine' slice_own ?x0 ?x1 ?x2 ?x3 ?x4 ?x5 ?_ ?x6 ?x7; (case x0 => k_asm); (case x1 => k_asm); (case x2 => k_mem); (case x3 => k_asm); (case x4 => exact rfl); (case x5 => (simp; omega)); (case x6 => with_unfolding_all rfl); (case x7 => (intro _; with_unfolding_all rfl)); k_whole); intro h' S' us' F' N' l1 hI'; (try k_lt l1); (try k_sweep)))
local macro_rules | `(tactic| walk_at "call builtin:max") => `(tactic| (k_here; k_dflt (refine' max_own ?x0 ?x1 ?x2 ?_; (case x0 => k_asm); (case x1 => k_asm); (case x2 => k_asm); k_whole); intro h' tk' t' M' F' N'; (try k_sweep)))
local macro_rules | `(tactic| walk_at "pyIter ref") => `(tactic| (k_here; refine' StopHere.go ?_))
local macro_rules | `(tactic| walk_at "no key z2101") => `(tactic| skip)
local macro_rules | `(tactic| walk_at "no key z2102") => `(tactic| skip)
local macro_rules | `(tactic| walk_at "no key z2103") => `(tactic| skip)
local macro_rules | `(tactic| walk_at "no key z2104") => `(tactic| skip)
local macro_rules | `(tactic| walk_at "no key z2105") => `(tactic| skip)
local macro_rules | `(tactic| walk_at "no key z2106") => `(tactic| skip)
local macro_rules | `(tactic| walk_at "no key z2107") => `(tactic| skip)
local macro_rules | `(tactic| walk_at "no key z2108") => `(tactic| skip)
local macro_rules | `(tactic| walk_at "no key z2109") => `(tactic| skip)
local macro_rules | `(tactic| walk_at "no key z2110") => `(tactic| skip)
local macro_rules | `(tactic| walk_at "no key z2111") => `(tactic| skip)
local macro_rules | `(tactic| walk_at "no key z2112") => `(tactic| skip)
local macro_rules | `(tactic| walk_at "no key z2113") => `(tactic| skip)
local macro_rules | `(tactic| walk_at "no key z2114") => `(tactic| skip)
local macro_rules | `(tactic| walk_at "no key z2115") => `(tactic| skip)

theorem off1_mem {D : Addr} : ∀ {l : List (Addr × Obj)}, LCg.Off1 D l → ∀ p ∈ l, p.1 ≠ D := by
  intro l
  induction l with
  | nil => intro _ p hp; cases hp
  | cons a r ih =>
    intro h p hp
    rcases List.mem_cons.mp hp with z | z
    · rw [z]; exact h.1
    · exact ih h.2 p z
abbrev sfrm (sc : Addr) (u : Str → Option Value) : Str → Option Value := fun y => if y = Str.ofString "script" then some (.ref sc) else u y
set_option maxHeartbeats 8000000 in
theorem law_walk {sc : Addr} {vs : List Value} {script : List Int} {oc : Obj} {v0 : Option Value} {u : Str → Option Value}
    (X : (Mine.hd.heap_39 w.params).In g) (T : Top Mine.hd.view_39 (looseW Mine.hd.view_39 [Str.ofString "itemgetter", Str.ofString "LRUCache"]) mean mg mb g) (hroom : A.depth < 700) (hh : A.handled = none) (hu : A.units + 200 < cLine)
    (F : Fr g L s.heap (sfrm sc u)) (N : News g L s.heap [(L + 1, oc)]) (hoc : oc.data = .cell v0)
    (hE : PassesOwn (model prog w) A (envOfC (Str.ofString "law") lawScope L fa cd) E) (hL : g.IsList sc vs.toArray) (hI : IntsAre vs script) (hlen : script.length ≤ 63)
    (hQ : ∀ h' tk' m', Fr g L h' m' → Q (.ret (.bool true)) { s with heap := h', toks := tk' }) :
    wpAny (model prog w) A (execs lawParts.1 (envOfC (Str.ofString "law") lawScope L fa cd)) Q E s := by
  conv in (lawParts.1) => whnf
  conv in (lawScope) => whnf
  k_steps
  (rename Fr _ _ _ _ => F1)
  (rename News _ _ _ _ => N1)
  (rename IntsAre _ _ => hI1)
  have hz := hI1.length
  refine ⟨LCg.CompSrc.ledger hh F1 N1 (.head _) (by rw [sizeLine_eq, List.size_toArray, hz]; simp; omega) fun g' => restU_ind (fun n => n.fmod 7) hI1 (Or.inr ⟨_, .head _, rfl, _, rfl⟩) ?ev ?fin⟩
  case ev =>
    intro n t I oI C oC D ys m₂ h tk E' Q1 hC hx F2 N2 q
    k_steps
    exact q _ _
  case fin =>
    intro us hus
    unfold LCg.FinA
    intro D h' tk F3 N3 o1
    dsimp only
    refine law_walk2 (R := D) (u := sfrm sc u) (c0 := us.length) X T hroom hh hu F3 (fun p hp => N3 p ?_) (Ne.symm (off1_mem o1 (L + 1, oc) ?_)) hoc hE hus ?_ fun h2 tk2 m2 F4 => hQ h2 tk2 m2 F4
    · rcases List.mem_cons.mp hp with rfl | hp
      · exact .head _
      · rw [List.mem_singleton.mp hp]; k_mem
    · k_mem
    · rw [List.length_map]; simp; omega
end


theorem fr_sfrm {g h : Heap} {L sc : Addr} {m : Str → Option Value} (F : Fr g L h m) (h1 : m (Str.ofString "script") = some (.ref sc)) : Fr g L h (sfrm sc m) := by
  have e : m = sfrm sc m := by
    funext y
    unfold sfrm
    split
    · rename_i e; rw [e, h1]
    rfl
  rw [← e]; exact F

end Mine
set_option maxHeartbeats 8000000 in
theorem PySem.Challenge.cw_ae5043_01_holds : PySem.Challenge.rw_ae5043_01.Holds := by
  exact Mine.hd (by
  w_on
  k_go0
  all_goals (try k_fold)
  rename Fr _ _ _ _ => F0
  rename News _ _ _ _ => N0
  rename Top _ _ _ _ _ _ => T0
  rename Frag.In _ _ => X0
  rename IntsAre _ _ => hI0
  rename Heap.IsList _ _ _ => hL0
  rename (_ = Data.cell _) => hoc0
  refine Mine.law_walk (fa := _) (cd := _) X0 T0 ?r1 ?r2 ?r3 (Mine.fr_sfrm F0 ?r4) N0 hoc0 ?r5 hL0 hI0 ?r6 (fun h' tk' m' F' => ?fin)
  case r1 => (simp only [depth_deeper, depth_caller]; decide)
  case r2 => rfl
  case r3 => (simp only [units_deeper]; decide)
  case r4 => rfl
  case r5 => passes_own
  case r6 => omega
  case fin =>
    clear N0 F0
    k_steps)
