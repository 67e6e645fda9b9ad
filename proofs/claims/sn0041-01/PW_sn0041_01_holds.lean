import PyProof.Rows.All
import Wide.All
import OpenK.AllK
import Wide.FinOn
import Lean
import PySem.Challenge.RW_sn0041_01
open PySem PySem.W PyProof.Rows
set_option Elab.async false
namespace Mine
abbrev LO : List Str := [Str.ofString "insort_right", Str.ofString "bisect_right", Str.ofString "bisect_left", Str.ofString "COMPILER_FLAG_NAMES", Str.ofString "Whitespace"]
/-- the text without what is loose -/
noncomputable def vw : Program := view PySem.Challenge.rw_sn0041_01.row.prog [0, 6, 7, 9, 11, 12, 13, 14]
/-- the top comes through, in a world that answers one question so -/
def HL (H : Hook) (b : Bool) : Prop := ∀ (w : World) (os : OsState), (topFrom treeTable PySem.Challenge.rw_sn0041_01.row.prog (w.withFollow "special-get-raises" b) 2048 ⟨boot_heap (w.withFollow "special-get-raises" b).params, Array.mk [], boot_drawn, boot_toks, os⟩).map
    (fun s => (openSeen vw LO (importedModules PySem.Challenge.rw_sn0041_01.row.prog.main.body) (fun s => xlAt vw [] s && recOk PySem.Challenge.rw_sn0041_01.row.toRowW.records s) true s, Hook.obs H s)) =
    some (openGood vw LO, Hook.val H (w.withFollow "special-get-raises" b))
theorem opens : opening PySem.Challenge.rw_sn0041_01.row.prog = plainProg PySem.Challenge.rw_sn0041_01.row.prog.main.scope.names := by kernel_rfl
theorem fenced (s : Shared) : fenceModules? PySem.Challenge.rw_sn0041_01.row.prog s = some s := by kernel_rfl
theorem left_row {H : Hook} {b : Bool} (h : HL H b) (w : World) : (openEnds treeTable PySem.Challenge.rw_sn0041_01.row.prog (w.withFollow "special-get-raises" b) 2048).map
    (fun s => (openSeen vw LO (importedModules PySem.Challenge.rw_sn0041_01.row.prog.main.body) (fun s => xlAt vw [] s && recOk PySem.Challenge.rw_sn0041_01.row.toRowW.records s) true s, Hook.obs H s)) =
    some (openGood vw LO, Hook.val H (w.withFollow "special-get-raises" b)) := by
  obtain ⟨⟨hp, gs, d, k, os⟩, e, e'⟩ := Option.map_eq_some_iff.mp (boot_open (N := 2048) opens rfl fenced (w.withFollow "special-get-raises" b))
  obtain ⟨rfl, rfl, rfl, rfl⟩ : hp = boot_heap (w.withFollow "special-get-raises" b).params ∧ gs = Array.mk [] ∧ d = boot_drawn ∧ k = boot_toks := by simpa using e'
  unfold openEnds
  rw [e]
  exact h w os
theorem left_rows {H : Hook} (hf : HL H false) (ht : HL H true) :
    LeftO PySem.Challenge.rw_sn0041_01.row.prog vw LO (fun s => xlAt vw [] s && recOk PySem.Challenge.rw_sn0041_01.row.toRowW.records s) (Hook.obs H) (Hook.val H) 2048 :=
  byRow2 "special-get-raises" (P := fun w => (openEnds treeTable PySem.Challenge.rw_sn0041_01.row.prog w 2048).map
    (fun s => (openSeen vw LO (importedModules PySem.Challenge.rw_sn0041_01.row.prog.main.body) (fun s => xlAt vw [] s && recOk PySem.Challenge.rw_sn0041_01.row.toRowW.records s) true s, Hook.obs H s)) =
    some (openGood vw LO, Hook.val H w)) (left_row hf) (left_row ht)
abbrev RR : OpenRow := PySem.Challenge.rw_sn0041_01.row
theorem head {H : Hook} {d : DefRec} {kwd : List (Str × PySem.Expr)} (hdef : defOf vw RR.name = some (d, kwd)) (hp : RR.prog.theDef RR.name = some (d.params, d.body, d.scope)) (hk : kwWritten? d.params.kwonlyargs d.params.kw_defaults = some kwd)
    (hwr : (!RR.writes || RR.records.isEmpty) = true) (k1 : RR.wellSaid = true) (ok : (chainsOk vw && opensWell RR.prog && (frees RR.toRowW && RR.within.isEmpty)) = true) (hb : RR.prog.bare) (hw : RR.toRowW.promised)
    (x : (HL H false ∧ HL H true) ∧ WalkO vw LO (XL vw []) (Hook.says H) RR.toRowW d kwd fun f vs => PySem.call f vs) : RR.Holds :=
  holds_open (q := vw) (loose := LO) (Xt := fun s => xlAt vw [] s && recOk RR.toRowW.records s) (XP := XL vw []) (Yf := Hook.obs H) (Ya := Hook.val H) (YP := Hook.says H) (N := 2048)
    (left_rows x.1.1 x.1.2) (Hook.of H) (Hook.keeps H) (fun s e => xl_of s (Bool.and_eq_true_iff.mp e).1) XL.keeps hdef hp hk (fun s e => recFacts_of (Bool.and_eq_true_iff.mp e).2) hwr k1 ok hb hw x.2
local macro_rules | `(tactic| o_head $H) => `(tactic| refine head (H := $H) (by rfl) (by rfl) (by rfl) (by rfl) (by assumption) (by decide +kernel) ⟨rfl, rfl, rfl, rfl, rfl, by decide +kernel⟩ ?hw ?hc)
set_option maxRecDepth 100000 in
set_option maxHeartbeats 8000000 in
open_top hd for PySem.Challenge.rw_sn0041_01
noncomputable abbrev HK : Hook := kHook hd.heap_39 [2, 3, 6, 15, 17, 18, 20, 21, 22, 23, 24, 26, 27, 29, 30, 31, 32, 33, 35, 36, 38, 39, 40, 41, 42, 44, 45, 47, 48, 49, 50, 52, 53, 55, 56, 67, 69, 70, 72, 73, 74, 76, 77, 79, 80, 81, 83, 84, 86, 87, 88, 90, 91, 93, 94, 95, 97, 98, 100, 101, 102, 104, 105, 107, 108, 109, 111, 112, 114, 115, 116, 117, 118, 119, 120, 123, 125, 126, 128, 129, 130, 133, 134, 135, 138, 139, 140, 143, 144] (fun _ => by kernel_rfl)
theorem hl_f : HL HK false := by
  unfold HL topFrom vw
  rw [PySem.W.Fast.te14082659384304107361, PySem.W.Fast.te4187177175401517315, PySem.W.Fast.te17661713136894408798]
  intro w os; kernel_rfl
theorem hl_t : HL HK true := by
  unfold HL topFrom vw
  rw [PySem.W.Fast.te14082659384304107361, PySem.W.Fast.te4187177175401517315, PySem.W.Fast.te17661713136894408798]
  intro w os; kernel_rfl
end Mine

open PySem PySem.W PyProof.Rows PySem.Calls PyProof.Rows.LCg
set_option Elab.async false
set_option maxRecDepth 100000
set_option maxHeartbeats 4000000
set_option linter.all false
namespace Mine
local macro_rules | `(tactic| omega) => `(tactic| first | lia | omega (config := {}))

noncomputable abbrev PR : Program := Challenge.rw_sn0041_01.row.prog

/-- what a call gives back: the heap of before but for the lent objects; what it made is new -/
structure Bk (h h' : Heap) (nd nd' : List (Addr × Obj)) : Prop where
  old : ∀ b o, h.get? b = some o → b ∉ nd.map (·.1) → h'.get? b = some o
  lies : ∀ q ∈ nd', h'.get? q.1 = some q.2
  new : ∀ q ∈ nd', q.1 ∉ nd.map (·.1) → h.get? q.1 = none

section
variable {h₀ h h' : Heap} {L : Addr} {m : Str → Option Value} {news nd nd' : List (Addr × Obj)}
theorem Bk.fr (B : Bk h h' nd nd') (F : Fr h₀ L h m) (N : News h₀ L h news) (hnd : ∀ p ∈ nd, p ∈ news) : Fr h₀ L h' m := by
  have off : ∀ b, (b = L ∨ ∃ o, h₀.get? b = some o) → b ∉ nd.map (·.1) := by
    intro b hb hm
    obtain ⟨p, hp, rfl⟩ := List.mem_map.mp hm
    have x := N p (hnd p hp)
    rcases hb with hb | ⟨o, hb⟩
    · exact x.2.1 hb
    · rw [x.2.2] at hb; cases hb
  exact ⟨F.ns.at fun o e => B.old L o e (off L (.inl rfl)), fun b o e => B.old b o (F.keep b o e) (off b (.inr ⟨o, e⟩)), F.above⟩
theorem Bk.same (B : Bk h h' nd nd') (N : News h₀ L h news) (hnd : ∀ p ∈ nd, p ∈ news) (hs : ∀ p ∈ nd, p ∈ nd') : News h₀ L h' news := by
  intro p hp
  refine ⟨?_, (N p hp).2⟩
  by_cases hm : p.1 ∈ nd.map (·.1)
  · obtain ⟨q, hq, e⟩ := List.mem_map.mp hm
    have hq' := B.lies q (hs q hq)
    have a := (N q (hnd q hq)).1
    have b := (N p hp).1
    rw [← e, a] at b
    rw [← e, hq', b]
  · exact B.old _ _ (N p hp).1 hm
theorem Bk.off (B : Bk h h' nd nd') (F : Fr h₀ L h m) (N : News h₀ L h news) {q : Addr × Obj} (hq : q ∈ nd') (hn : q.1 ∉ nd.map (·.1)) : q.1 ≠ L ∧ h₀.get? q.1 = none ∧ ∀ p ∈ news, p.1 ≠ q.1 := by
  have e := B.new q hq hn
  refine ⟨fun x => ?_, ?_, fun p hp x => ?_⟩
  · obtain ⟨o, _, _, ho, _⟩ := F.ns
    rw [x, ho] at e; cases e
  · cases z : h₀.get? q.1 with
    | none => rfl
    | some o => rw [F.keep _ _ z] at e; cases e
  · rw [← x, (N p hp).1] at e; cases e
theorem Bk.more (B : Bk h h' nd nd') (F : Fr h₀ L h m) (N : News h₀ L h news) {news₂ : List (Addr × Obj)} (N₂ : News h₀ L h' news₂) {q : Addr × Obj} (hq : q ∈ nd') (hn : q.1 ∉ nd.map (·.1)) : News h₀ L h' (q :: news₂) := by
  intro p hp
  rcases List.mem_cons.mp hp with rfl | hp
  · have z := B.off F N hq hn
    exact ⟨B.lies _ hq, z.1, z.2.1⟩
  · exact N₂ p hp
theorem Bk.put {l : Addr} {o o' : Obj} {news' : List (Addr × Obj)} (B : Bk h h' [(l, o)] nd') (N : News h₀ L h news) (U : Upd l o o' news news') (hq : (l, o') ∈ nd') : News h₀ L h' news' := by
  obtain ⟨pre, post, rfl, rfl, a, b⟩ := U.split
  have off : ∀ p ∈ pre ++ (l, o) :: post, p.1 ≠ l → h'.get? p.1 = some p.2 ∧ p.1 ≠ L ∧ h₀.get? p.1 = none := fun p hp hn => ⟨B.old _ _ (N p hp).1 (by simpa using hn), (N p hp).2⟩
  intro p hp
  rcases List.mem_append.mp hp with hp | hp
  · exact off p (List.mem_append_left _ hp) (a p hp)
  · rcases List.mem_cons.mp hp with rfl | hp
    · exact ⟨B.lies _ hq, (N (l, o) (List.mem_append_right _ (.head _))).2⟩
    · exact off p (List.mem_append_right _ (.tail _ hp)) (b p hp)
end

theorem entK {prog : Program} {w : World} {A : Around} {s : Shared} {K : Frag} {mg mb : Str → Option Value} {p : Program} {loose : List Str} {h₀ : Heap} {L : Addr} {m : Str → Option Value} {news : List (Addr × Obj)}
    {R : Result → Shared → Prop} {name qual : Str} {params : Arguments} {body : List Stmt} {scope : Scope} {dV kV doc pm cdv ct oc : Value} {an od : Option Addr} {osl : Array (Option Value)} {f : Addr} {pos : List Value} {kw : List (Str × Value)}
    (nd : List (Addr × Obj)) (binds : List (Str × Value)) (F : Fr h₀ L s.heap m) (N : News h₀ L s.heap news) (X : K.In h₀) (T : TopRead p loose mg mb h₀) (hnd : ∀ p ∈ nd, p ∈ news)
    (ho : K.lookup f = some ⟨oc, od, .func (fnOf name qual params body scope dV kV doc pm an cdv ct), osl⟩)
    (hcd : codeIn K cdv qual = true) (hroom : A.depth < recursionLimit)
    (hbind : BindsTo s (fnOf name qual params body scope dV kV doc pm an cdv ct) ⟨pos, kw⟩ binds) (hloc : ∀ y ∈ binds, scope.names.lookup y.1 = some .local)
    (h : ∀ g L' h₁, Fr g L' h₁ (fun x => binds.reverse.lookup x) → News g L' h₁ nd → K.In g → TopRead p loose mg mb g → h₀.StaysIn g → (∀ h' m' nd', Fr g L' h' m' → News g L' h' nd' → Bk s.heap h' nd nd') →
      wpAny (model prog w) (A.deeper (envOf qual scope L' f cdv)) (execs body (envOf qual scope L' f cdv))
        (fun fl s' => R (.ok (.ret (match fl with | .ret v => v | _ => .none))) s') (fun _ _ => False)
        { s with heap := h₁, toks := s.toks + binds.length })
    (hcell : ∀ x ∈ scope.names, x.2 ≠ .cell) (hco : scope.isCoroutine = false) (hgen : scope.isGenerator = false) (hk : scope.kind = .function) :
    codeAny (model prog w) A (.call (.ref f) ⟨pos, kw⟩) R s := by
  have nm : ∀ b o, h₀.get? b = some o → b ∉ nd.map (·.1) := fun b o e q => by
    obtain ⟨p, hp, rfl⟩ := List.mem_map.mp q
    rw [(N p (hnd p hp)).2.2] at e; cases e
  have st : h₀.StaysIn (hideAll s.heap (nd.map (·.1))) := fun b o e => hideAll_get _ (F.keep b o e) (nm b o e)
  refine codeAny_call_def (fd := fnOf name qual params body scope dV kV doc pm an cdv ct) (body := body) (binds := binds) hroom ((X.keeps F.keep) _ _ ho) rfl (T.nolimit.keeps F.keep) (codeRec_of (X.keeps F.keep) hcd) rfl hbind hcell hloc (fun h₁ hns hk₁ => ?_) hco hgen hk
  refine wpAny_mono (h (hideAll s.heap (nd.map (·.1))) s.heap.objs.size h₁ ⟨hns, fun b o e => hk₁ b o (of_hideAll _ e), Nat.le_of_eq (hideAll_size _ _)⟩
    (fun p hp => ⟨hk₁ _ _ (N p (hnd p hp)).1, Nat.ne_of_lt (Heap.lt_size (N p (hnd p hp)).1), hideAll_none _ (List.mem_map_of_mem hp)⟩) (X.keeps fun b o e => st b o e) (T.keeps fun b o e => st b o e) st ?_) (fun fl s' hl => hl) fun _ _ y => y.elim
  intro h' m' nd' F' N'
  refine ⟨fun b o e hb => F'.keep b o (hideAll_get _ e hb), fun q hq => (N' q hq).1, fun q hq hn => ?_⟩
  cases z : s.heap.get? q.1 with
  | none => rfl
  | some o => have := hideAll_get _ z hn; rw [(N' q hq).2.2] at this; cases this

def WEnd (I : Nat → Shared → Prop) (n : Nat) (Q : Flow → Shared → Prop) (f : Flow) (s : Shared) : Prop := match f with
  | .next => ∃ m, m < n ∧ I m s
  | .cont => ∃ m, m < n ∧ I m s
  | .brk => Q .next s
  | .ret v => Q (.ret v) s
theorem while_rule {prog : Program} {w : World} {A : Around} {E : Value → Shared → Prop} {s : Shared} {env : Env} {test : Expr} {body : List Stmt} {pos : Pos} {Q : Flow → Shared → Prop}
    (I : Nat → Shared → Prop) (n : Nat) (h0 : I n s)
    (turn : ∀ n s, I n s → wpAny (model prog w) A (isTrue test env (eval test env)) (fun b s₂ => if b then wpAny (model prog w) A (execs body env) (WEnd I n Q) (fun _ _ => False) s₂ else Q .next s₂) (fun _ _ => False) s) :
    wpAny (model prog w) A (exec (.While test body [] pos) env) Q E s := by
  refine wpAny_While (codeAny_whileLoop I (fun n s hI => ?_) n h0)
  refine wpAny_mono (turn n s hI) (fun b s₂ h₂ => ?_) fun _ _ x => x.elim
  cases b with
  | true =>
    simp only [if_true] at h₂ ⊢
    refine wpAny_mono h₂ (fun f s₃ h₃ => ?_) fun _ _ x => x.elim
    cases f <;> exact h₃
  | false =>
    simp only [Bool.false_eq_true, if_false] at h₂ ⊢
    exact wpAny_execs_nil h₂
theorem fr_norm {h₀ h : Heap} {L : Addr} {m : Str → Option Value} (ps : List (Str × Value)) (F : Fr h₀ L h m) (hp : ∀ p ∈ ps, m p.1 = some p.2) : Fr h₀ L h (kstB m ps) := by
  have e : kstB m ps = m := funext fun z => kstB_eq hp fun _ => rfl
  rw [e]; exact F
theorem Bk.drop {h₀ h : Heap} {L : Addr} {a b : List (Addr × Obj)} (N : News h₀ L h a) (hs : ∀ p ∈ b, p ∈ a) : News h₀ L h b := fun p hp => N p (hs p hp)
theorem news_ne {h₀ h : Heap} {L a b : Addr} {o o' : Obj} {news : List (Addr × Obj)} (N : News h₀ L h news) (ha : (a, o) ∈ news) (hb : (b, o') ∈ news) (hc : o.cls ≠ o'.cls) : (@Ne Nat a b) := fun e => by
  have x := (N _ ha).1
  have y := (N _ hb).1
  dsimp only at x y
  rw [show a = b from e, y] at x
  cases x
  exact hc rfl
theorem Bk.made {h₀ h h' : Heap} {L : Addr} {m : Str → Option Value} {news nd nd' new : List (Addr × Obj)} (B : Bk h h' nd nd') (F : Fr h₀ L h m) (N : News h₀ L h (nd ++ news)) (ho : ∀ p ∈ news, p.1 ∉ nd.map (·.1)) (hn : ∀ q ∈ new, q ∈ nd') :
    Fr h₀ L h' m ∧ News h₀ L h' (new ++ news) ∧ ∀ p ∈ news, ∀ q ∈ new, p.1 ≠ q.1 := by
  have key : ∀ q ∈ new, (q.1 ≠ L ∧ h₀.get? q.1 = none) ∧ ∀ p ∈ news, p.1 ≠ q.1 := by
    intro q hq
    by_cases hm : q.1 ∈ nd.map (·.1)
    · obtain ⟨p, hp, e⟩ := List.mem_map.mp hm
      exact ⟨e ▸ (N p (List.mem_append_left _ hp)).2, fun p' hp' e' => ho p' hp' (e' ▸ hm)⟩
    · have z := B.off F N (hn q hq) hm
      exact ⟨⟨z.1, z.2.1⟩, fun p hp => z.2.2 p (List.mem_append_right _ hp)⟩
  refine ⟨B.fr F N fun p hp => List.mem_append_left _ hp, fun p hp => ?_, fun p hp q hq => (key q hq).2 p hp⟩
  rcases List.mem_append.mp hp with hp | hp
  · exact ⟨B.lies p (hn p hp), (key p hp).1⟩
  · exact ⟨B.old _ _ (N p (List.mem_append_right _ hp)).1 (ho p hp), (N p (List.mem_append_right _ hp)).2⟩
/-- no new object lies where an old one lies -/
def Apart (new news : List (Addr × Obj)) : Prop := ∀ p ∈ news, ∀ q ∈ new, p.1 ≠ q.1
noncomputable abbrev tupOf (vs : List Value) : Obj := { cls := .type "tuple", data := .seq vs.toArray }
structure WS where
  raw : Str
  n : Nat
  nt : Nat
  b : Nat
  cs : List Int
structure WsIn (P : Params) (news : List (Addr × Obj)) (x dx nm ct : Addr) (W : WS) (vs : List Value) (k1 k2 k3 k4 k5 tr tn tnt tb : Tok) : Prop where
  i1 : (x, instObj 118 dx) ∈ news
  i2 : (dx, dictOf [⟨PyData.keyHash P (Str.ofString "raw"), .str (Str.ofString "raw") k1, .str W.raw tr⟩, ⟨PyData.keyHash P (Str.ofString "n"), .str (Str.ofString "n") k2, .int W.n tn⟩, ⟨PyData.keyHash P (Str.ofString "nt"), .str (Str.ofString "nt") k3, .int W.nt tnt⟩,
    ⟨PyData.keyHash P (Str.ofString "norm"), .str (Str.ofString "norm") k4, .ref nm⟩, ⟨PyData.keyHash P (Str.ofString "is_simple"), .str (Str.ofString "is_simple") k5, .bool (decide ((W.cs.length : Int) ≤ 1))⟩] 5) ∈ news
  i3 : (nm, tupOf [.ref ct, .int W.b tb]) ∈ news
  i4 : (ct, tupOf vs) ∈ news
  i5 : IntsAre vs W.cs
def IsWs (P : Params) (news : List (Addr × Obj)) (x : Addr) (W : WS) : Prop := ∃ dx nm ct vs k1 k2 k3 k4 k5 tr tn tnt tb, WsIn P news x dx nm ct W vs k1 k2 k3 k4 k5 tr tn tnt tb
theorem IsWs.mono {P : Params} {a b : List (Addr × Obj)} {x : Addr} {W : WS} (h : IsWs P a x W) (hs : ∀ p ∈ a, p ∈ b) : IsWs P b x W := by
  obtain ⟨dx, nm, ct, vs, k1, k2, k3, k4, k5, tr, tn, tnt, tb, ⟨i1, i2, i3, i4, i5⟩⟩ := h
  exact ⟨dx, nm, ct, vs, k1, k2, k3, k4, k5, tr, tn, tnt, tb, ⟨hs _ i1, hs _ i2, hs _ i3, hs _ i4, i5⟩⟩
noncomputable abbrev wsNd (P : Params) (x dx nm ct : Addr) (W : WS) (vs : List Value) (k1 k2 k3 k4 k5 tr tn tnt tb : Tok) : List (Addr × Obj) :=
  [(x, instObj 118 dx), (dx, dictOf [⟨PyData.keyHash P (Str.ofString "raw"), .str (Str.ofString "raw") k1, .str W.raw tr⟩, ⟨PyData.keyHash P (Str.ofString "n"), .str (Str.ofString "n") k2, .int W.n tn⟩, ⟨PyData.keyHash P (Str.ofString "nt"), .str (Str.ofString "nt") k3, .int W.nt tnt⟩,
    ⟨PyData.keyHash P (Str.ofString "norm"), .str (Str.ofString "norm") k4, .ref nm⟩, ⟨PyData.keyHash P (Str.ofString "is_simple"), .str (Str.ofString "is_simple") k5, .bool (decide ((W.cs.length : Int) ≤ 1))⟩] 5), (nm, tupOf [.ref ct, .int W.b tb]), (ct, tupOf vs)]
theorem WsIn.sub {P : Params} {news : List (Addr × Obj)} {x dx nm ct : Addr} {W : WS} {vs : List Value} {k1 k2 k3 k4 k5 tr tn tnt tb : Tok} (h : WsIn P news x dx nm ct W vs k1 k2 k3 k4 k5 tr tn tnt tb) : ∀ p ∈ wsNd P x dx nm ct W vs k1 k2 k3 k4 k5 tr tn tnt tb, p ∈ news := by
  intro p hp
  simp only [wsNd, List.mem_cons, List.not_mem_nil, or_false] at hp
  rcases hp with rfl | rfl | rfl | rfl
  · exact h.i1
  · exact h.i2
  · exact h.i3
  · exact h.i4
structure WS.Ok (W : WS) : Prop where
  l : W.cs.length < 2 ^ 10
  c : ∀ c ∈ W.cs, 0 ≤ c ∧ c < 2 ^ 10
  b : W.b < 2 ^ 10
  t : W.nt < 2 ^ 10
  n : W.n < 2 ^ 12
theorem Bk.give {h₀ h h' : Heap} {L : Addr} {m : Str → Option Value} {news nd nd' : List (Addr × Obj)} (B : Bk h h' nd nd') (F : Fr h₀ L h m) (N : News h₀ L h news) (hnd : ∀ p ∈ nd, p ∈ news) (hs : ∀ p ∈ nd, p ∈ nd') : Fr h₀ L h' m ∧ News h₀ L h' news :=
  ⟨B.fr F N hnd, B.same N hnd hs⟩
section
variable {prog : Program} {w : World} {A : Around} {E : Value → Shared → Prop} {s : Shared} {h₀ : Heap} {L a : Addr} {news : List (Addr × Obj)} {vs : List Value} {ns : List Int}
theorem tup_len {Q : Value → Shared → Prop} (N : News h₀ L s.heap news) (hm : (a, tupOf vs) ∈ news) (hi : IntsAre vs ns) (hl : ns.length < 2 ^ 20) (h : Q (.int ns.length (s.toks + 1)) { s with toks := s.toks + 1 + 1 }) :
    wpAny (model prog w) A (call (.builtin "len") [.ref a]) Q E s := by
  have e : vs.toArray.size = ns.length := by simp [hi.length]
  exact PyProof.Rows.len_tuple (News.isTup N hm) (by rw [e]; omega) (by rw [e]; exact h)
theorem tup_item {value slice : Expr} {k : Int} {u : Tok} {Q : Value → Shared → Prop} (N : News h₀ L s.heap news) (hm : (a, tupOf vs) ∈ news) (hi : IntsAre vs ns) (h0 : 0 ≤ k) (hk : k < (ns.length : Int)) (hl : ns.length < 2 ^ 20) (h : ∀ t, Q (.int (ns.getD k.toNat 0) t) s)
    (hs : subscripted slice false (.ref a) (.int k u) = operate [.ref a, .int k u] (getItem (.ref a) (.int k u)) := by with_unfolding_all rfl) :
    wpAny (model prog w) A (subscriptTail value slice (.ref a) (.int k u)) Q E s := by
  have hlt : k.toNat < ns.length := by omega
  obtain ⟨t, hx⟩ := hi.get k.toNat (ns.getD k.toNat 0) (by rw [List.getD_eq_getElem?_getD, List.getElem?_eq_getElem hlt]; rfl)
  refine item_tupleT (j := k.toNat) (News.isTup N hm) (by omega) (by omega) ?_ hx (h t) hs
  have hv := hi.length
  simp only [seqIndex?]
  have e : ¬ k < 0 := by omega
  have e2 : k < (vs.length : Int) := by omega
  simp only [if_neg e, h0, e2, decide_true, Bool.and_self, if_true]
end
noncomputable abbrev lsOf (vs : List Value) (c : Nat) : Obj := { cls := .type "list", data := .seq vs.toArray c }
theorem allLt_mem {d : Addr} : ∀ {l : List (Addr × Obj)}, AllLt d l → ∀ p ∈ l, p.1 < d
  | [], _, _, h => nomatch h
  | _ :: _, x, p, h => by
    rcases List.mem_cons.mp h with rfl | h
    · exact x.1
    · exact allLt_mem x.2 p h
theorem apart_cons {D : Addr} {o : Obj} {tz nd : List (Addr × Obj)} (h : AllLt D nd) (ha : Apart tz nd) : Apart ((D, o) :: tz) nd := by
  intro p hp q hq
  rcases List.mem_cons.mp hq with rfl | hq
  · exact Nat.ne_of_lt (allLt_mem h p hp)
  · exact ha p hp q hq
theorem Bk.plus {h₀ h h' : Heap} {L : Addr} {m : Str → Option Value} {news nd nd' : List (Addr × Obj)} (B : Bk h h' nd nd') (F : Fr h₀ L h m) (N : News h₀ L h news) (hnd : ∀ p ∈ nd, p ∈ news) (hs : ∀ p ∈ nd, p ∈ nd') (new : List (Addr × Obj)) (hn : ∀ q ∈ new, q ∈ nd')
    (ha : Apart new nd) : Fr h₀ L h' m ∧ News h₀ L h' (new ++ news) ∧ Apart new news := by
  have off : ∀ q ∈ new, q.1 ∉ nd.map (·.1) := fun q hq hm => by
    obtain ⟨p, hp, e⟩ := List.mem_map.mp hm
    exact ha p hp q hq e
  refine ⟨B.fr F N hnd, fun p hp => ?_, fun p hp q hq => (B.off F N (hn q hq) (off q hq)).2.2 p hp⟩
  rcases List.mem_append.mp hp with hp | hp
  · have z := B.off F N (hn p hp) (off p hp)
    exact ⟨B.lies p (hn p hp), z.1, z.2.1⟩
  · exact B.same N hnd hs p hp
theorem entKC {prog : Program} {w : World} {A : Around} {s : Shared} {K : Frag} {mg mb : Str → Option Value} {p : Program} {loose : List Str} {h₀ : Heap} {L : Addr} {m : Str → Option Value} {news : List (Addr × Obj)}
    {R : Result → Shared → Prop} {name qual : Str} {params : Arguments} {body : List Stmt} {scope : Scope} {dV kV doc pm cdv ct oc : Value} {an od : Option Addr} {osl : Array (Option Value)} {f : Addr} {pos : List Value} {kw : List (Str × Value)}
    (nd : List (Addr × Obj)) (binds : List (Str × Value)) (F : Fr h₀ L s.heap m) (N : News h₀ L s.heap news) (X : K.In h₀) (T : TopRead p loose mg mb h₀) (hnd : ∀ p ∈ nd, p ∈ news)
    (ho : K.lookup f = some ⟨oc, od, .func (fnOf name qual params body scope dV kV doc pm an cdv ct), osl⟩)
    (hcd : codeIn K cdv qual = true) (hroom : A.depth < recursionLimit)
    (hbind : BindsTo s (fnOf name qual params body scope dV kV doc pm an cdv ct) ⟨pos, kw⟩ binds) (hkind : (binds.all fun y => scope.names.lookup y.1 == some .local || scope.names.lookup y.1 == some .cell) = true)
    (hdup : ((cellsFrom 0 scope.names []).map (·.1)).Nodup)
    (h : ∀ g L' h₁ tk cells, Fr g L' h₁ (bindL (envOfC qual scope L' f cdv).kindOf binds fun _ => none) → News g L' h₁ (cells ++ nd) → CellsAre (bindC (envOfC qual scope L' f cdv).kindOf binds fun _ => none) (cellsFrom (L' + 1) scope.names []) cells →
      K.In g → TopRead p loose mg mb g → h₀.StaysIn g → (∀ h' m' nd', Fr g L' h' m' → News g L' h' nd' → Bk s.heap h' nd nd') → (∀ p ∈ nd, p.1 < L') →
      wpAny (model prog w) (A.deeper (envOfC qual scope L' f cdv)) (execs body (envOfC qual scope L' f cdv))
        (fun fl s' => R (.ok (.ret (match fl with | .ret v => v | _ => .none))) s') (fun _ _ => False)
        { s with heap := h₁, toks := tk })
    (hco : scope.isCoroutine = false) (hgen : scope.isGenerator = false) (hk : scope.kind = .function) :
    codeAny (model prog w) A (.call (.ref f) ⟨pos, kw⟩) R s := by
  have nm : ∀ b o, h₀.get? b = some o → b ∉ nd.map (·.1) := fun b o e q => by
    obtain ⟨p, hp, rfl⟩ := List.mem_map.mp q
    rw [(N p (hnd p hp)).2.2] at e; cases e
  have st : h₀.StaysIn (hideAll s.heap (nd.map (·.1))) := fun b o e => hideAll_get _ (F.keep b o e) (nm b o e)
  refine codeAny_call_function (fd := fnOf name qual params body scope dV kV doc pm an cdv ct) (body := body) hroom ((X.keeps F.keep) _ _ ho) rfl hco hgen rfl (codeRec_of (X.keeps F.keep) hcd) (hbind _ _ _ _ ?_)
  refine wpAny_newFunctionEnv_cells hk (kindsX hkind _) fun env' he s' x => ?_
  subst he
  refine ⟨(T.nolimit.keeps F.keep).keeps x.toInCall.keep, codeAny_func ?_⟩
  obtain ⟨h₁, tk, rfl, _⟩ := x.done
  have hk₁ := x.toInCall.keep
  obtain ⟨cells, NC, Y⟩ := Cl.news (h₀ := s.heap) (Nat.le_refl _) fun n c hm => ⟨x.cell n c (lookup_of_mem_nodup (cellsFrom_names scope.names 0 (s.heap.objs.size + 1) [] [] rfl ▸ hdup) hm), x.above n c hm⟩
  refine wpAny_mono (h (hideAll s.heap (nd.map (·.1))) s.heap.objs.size h₁ tk cells ⟨x.toInCall.ns, fun b o e => hk₁ b o (of_hideAll _ e), Nat.le_of_eq (hideAll_size _ _)⟩
    (fun p hp => ?_) Y (X.keeps fun b o e => st b o e) (T.keeps fun b o e => st b o e) st ?_ (fun p hp => Heap.lt_size (N p (hnd p hp)).1)) (fun fl s' hl => hl) fun _ _ y => y.elim
  · rcases List.mem_append.mp hp with hp | hp
    · refine ⟨(NC p hp).1, (NC p hp).2.1, ?_⟩
      cases q : (hideAll s.heap (nd.map (·.1))).get? p.1 with
      | none => rfl
      | some o => have := of_hideAll _ q; rw [(NC p hp).2.2] at this; cases this
    · exact ⟨hk₁ _ _ (N p (hnd p hp)).1, Nat.ne_of_lt (Heap.lt_size (N p (hnd p hp)).1), hideAll_none _ (List.mem_map_of_mem hp)⟩
  · intro h' m' nd' F' N'
    refine ⟨fun b o e hb => F'.keep b o (hideAll_get _ e hb), fun q hq => (N' q hq).1, fun q hq hn => ?_⟩
    cases z : s.heap.get? q.1 with
    | none => rfl
    | some o => have := hideAll_get _ z hn; rw [(N' q hq).2.2] at this; cases this

local macro_rules | `(tactic| walk_at "m_fill") => `(tactic| (have hfill : (Challenge.rw_sn0041_01, hd.heap_39).2 = hd.heap_39 := (by k_fill; rfl); clear hfill))
local macro_rules | `(tactic| walk_at "m_room") => `(tactic| (simp only [depth_under_make, depth_under_kw, depth_in1, depth_deeper, recursionLimit] at *; omega))
local macro_rules | `(tactic| walk_at "m_binds") => `(tactic| first | exact BindsTo.of_eq rfl | exact binds_K (by k_in) rfl (by k_is) rfl rfl rfl | (refine' kp_binds ?kx ?ke; (case kx => k_in); (case ke => exact fun _ => rfl)))
local macro_rules | `(tactic| walk_at "m_enter") => `(tactic| ((try (case F => assumption)); (try (case N => assumption)); (case X => assumption); (case T => assumption); (case ho => k_is); (case cd => k_is); (case room => walk_at "m_room"); (case kb => walk_at "m_binds"); (case c1 => decide); (case loc => exact locs rfl); (case c2 => exact rfl); (case c3 => exact rfl); (case c4 => exact rfl); k_whole; (try dsimp only)))
local macro_rules | `(tactic| walk_at "m_steps") => `(tactic| repeat' (first
   | (k_unfold; (try dsimp only))
   | ((with_reducible show wpAny _ _ _ _ _ _); (fail_if_success (with_reducible show wpAny _ _ (exec (Stmt.While _ _ _ _) _) _ _ _)); (fail_if_success (with_reducible show wpAny _ _ (exec (Stmt.For _ _ _ _ _) _) _ _ _)); (fail_if_success (with_reducible show wpAny _ _ (pyIter _) _ _ _)); (fail_if_success (with_reducible show wpAny _ _ (eval (PySem.Expr.ListComp _ _ _ _) _) _ _ _)); (fail_if_success (with_reducible show wpAny _ _ (exec (Stmt.Assign _ (PySem.Expr.ListComp _ _ _ _) _) _) _ _ _)); first | walk1 | (dsimp only; walk1) | (leave1; try dsimp only) | fail "no step")
   | ((with_reducible show Frag.In _ _ ∧ wpAny _ _ _ _ _ _); refine' ⟨?kX, ?_⟩; (case kX => k_in))
   | ((with_reducible show ite _ _ _); walk1)))
local macro_rules | `(tactic| walk_at "m_frp") => `(tactic| (repeat' (first | exact List.forall_mem_nil _ | refine List.forall_mem_cons.mpr ⟨by rfl, ?_⟩)))
local macro_rules | `(tactic| walk_at "call builtin:len") => `(tactic| (k_here; (with_reducible show wpAny _ _ (call (Value.builtin "len") [Value.ref _]) _ _ _); k_dflt (refine' tup_len ?k1 ?k2 ?k3 ?k4 ?_; (case k1 => k_asm); (case k2 => k_mem); (case k3 => assumption); (case k4 => l_fact); k_whole)))
local macro_rules | `(tactic| walk_at "subscriptTail") => `(tactic| (k_here; (with_reducible show wpAny _ _ (subscriptTail _ _ (Value.ref _) (Value.int _ _)) _ _ _); k_dflt (refine' tup_item ?k1 ?k2 ?k3 ?k4 ?k5 ?k6 ?_; (case k1 => k_asm); (case k2 => k_mem); (case k3 => assumption); (case k4 => l_fact); (case k5 => l_fact); (case k6 => l_fact); k_whole; intro ti')))
local macro_rules | `(tactic| walk_at "m_enterC") => `(tactic| ((try (case F => assumption)); (try (case N => assumption)); (case X => assumption); (case T => assumption); (case ho => k_is); (case cd => k_is); (case room => walk_at "m_room"); (case kb => walk_at "m_binds"); (case kind => exact rfl); (case dup => decide +kernel); (case c2 => exact rfl); (case c3 => exact rfl); (case c4 => exact rfl); k_whole; (try dsimp only)))
local macro_rules | `(tactic| walk_at "m_comp") => `(tactic| k_dflt (refine LCg.ListComp_U (F₀ := by k_asm) (by with_unfolding_all rfl) (by decide) (by rfl) (by decide) (by rfl) ?_))
local macro_rules | `(tactic| walk_at "m_compA") => `(tactic| k_dflt (refine LCg.Assign_ListComp_U (F₀ := by k_asm) (by rfl) (by with_unfolding_all rfl) (by with_unfolding_all rfl) (by decide) (by rfl) (by decide) (by rfl) (by rfl) (by rfl) ?_))

section
variable {prog : Program} {w : World} {A : Around} {h₀ : Heap} {L : Addr} {env : Env} {E : Value → Shared → Prop} {s : Shared}

def ForAt (prog : Program) (w : World) (A : Around) (env : Env) (target : Expr) (body orelse : List Stmt) (Q : Flow → Shared → Prop) (E : Value → Shared → Prop) (it : Value) (s : Shared) : Prop :=
  codeAny (model prog w) A (.forLoop target it body orelse env) (fun r s' => match r with | .ok f => Q f s' | .error e => cameBackBy (model prog w) A env E e s') s
theorem for_open {target iter : Expr} {body orelse : List Stmt} {pos : Pos} {Q : Flow → Shared → Prop}
    (h : wpAny (model prog w) A (eval iter env) (fun x s₁ => wpAny (model prog w) A (pyIter x) (ForAt prog w A env target body orelse Q E) E s₁) E s)
    (hs : ∀ x, foldedSetIterable iter env x = pure x := by intro _; rfl) :
    wpAny (model prog w) A (exec (.For target iter body orelse pos) env) Q E s := wpAny_For h hs

def FEndN (h₀ : Heap) (L : Addr) (I : Addr) (oI : Obj) (S : List (Addr × Obj) → Prop) (J : (Str → Option Value) → List (Addr × Obj) → Prop) (s s₂ : Shared) : Prop :=
  ∃ h' tk m' news', s₂ = { s with heap := h', toks := tk } ∧ Fr h₀ L h' m' ∧ News h₀ L h' ((I, oI) :: news') ∧ Off1 I news' ∧ S news' ∧ J m' news'
def FEnd (h₀ : Heap) (L : Addr) (I : Addr) (oI : Obj) (S : List (Addr × Obj) → Prop) (J : (Str → Option Value) → List (Addr × Obj) → Prop) (s : Shared) (Q : Flow → Shared → Prop) (f : Flow) (s₂ : Shared) : Prop :=
  match f with
  | .ret v => Q (.ret v) s₂
  | .brk => Q .next s₂
  | .next => FEndN h₀ L I oI S J s s₂
  | .cont => FEndN h₀ L I oI S J s s₂
theorem FEndN.intro {I : Addr} {oI : Obj} {S : List (Addr × Obj) → Prop} {J : (Str → Option Value) → List (Addr × Obj) → Prop} {s : Shared} {h' : Heap} {tk : Nat} {m' : Str → Option Value} {all : List (Addr × Obj)} (news' : List (Addr × Obj))
    (F : Fr h₀ L h' m') (N : News h₀ L h' all) (hs : ∀ p ∈ (I, oI) :: news', p ∈ all) (off : Off1 I news') (hS : S news') (hJ : J m' news') : FEndN h₀ L I oI S J s { s with heap := h', toks := tk } :=
  ⟨h', tk, m', news', rfl, F, fun p hp => N p (hs p hp), off, hS, hJ⟩

theorem off1_mem {D : Addr} : ∀ {l : List (Addr × Obj)}, Off1 D l → ∀ p ∈ l, p.1 ≠ D
  | [], _, _, h => nomatch h
  | _ :: _, x, p, h => by
    rcases List.mem_cons.mp h with rfl | h
    · exact x.1
    · exact off1_mem x.2 p h
theorem allLt_left {D : Addr} : ∀ {l r : List (Addr × Obj)}, AllLt D (l ++ r) → AllLt D l
  | [], _, _ => trivial
  | _ :: _, _, h => ⟨h.1, allLt_left h.2⟩
theorem off1_of {D : Addr} : ∀ {l : List (Addr × Obj)}, (∀ p ∈ l, p.1 ≠ D) → Off1 D l
  | [], _ => trivial
  | _ :: _, h => ⟨h _ (.head _), off1_of fun p hp => h p (.tail _ hp)⟩

theorem off1_lt {x d : Addr} {l : List (Addr × Obj)} (h : AllLt d l) (hd : @LT.lt Nat _ d x) : Off1 x l := off1_of fun p hp => Nat.ne_of_lt (Nat.lt_trans (allLt_mem h p hp) hd)
theorem off1_lt' {x : Addr} {l : List (Addr × Obj)} (h : AllLt x l) : Off1 x l := off1_of fun p hp => Nat.ne_of_lt (allLt_mem h p hp)
theorem for_W {I : Addr} {fp : List Addr} {n : Nat} {P : Nat → Value → Prop} {St : Nat → Heap → Prop} {target : Expr} {body orelse : List Stmt} {Q : Flow → Shared → Prop} {m₀ : Str → Option Value} {news₀ : List (Addr × Obj)}
    (S : List (Addr × Obj) → Prop) (J : Nat → (Str → Option Value) → List (Addr × Obj) → Prop)
    (W : Walks prog w A I fp [I] n P St) (hIo : ∀ i h, St i h → ∃ o, h.get? I = some o)
    (hSt : ∀ i h h' o nw, St i h → h.get? I = some o → h'.get? I = some o → (∀ b o, h₀.get? b = some o → h'.get? b = some o) → News h₀ L h' nw → S nw → St i h')
    (hst : St 0 s.heap) (F : Fr h₀ L s.heap m₀) (N : News h₀ L s.heap news₀) (hIL : L ≠ I) (hI₀ : h₀.get? I = none) (off : ∀ p ∈ news₀, p.1 ≠ I) (hS : S news₀) (hJ : J 0 m₀ news₀)
    (turn : ∀ i v oI m news h tk, i < n → P i v → Fr h₀ L h m → News h₀ L h ((I, oI) :: news) → Off1 I news → S news → J i m news →
      wpAny (model prog w) A (assign target env v) (fun _ s₂ => wpAny (model prog w) A (execs body env) (FEnd h₀ L I oI S (J (i + 1)) s Q) (fun _ _ => False) s₂) (fun _ _ => False) { s with heap := h, toks := tk })
    (done : ∀ m news h tk, Fr h₀ L h m → News h₀ L h news → J n m news → wpAny (model prog w) A (execs orelse env) Q (fun _ _ => False) { s with heap := h, toks := tk })
    (ht : ∀ v, letOwnedTupleGo target (.ref I) v = pure ()) : ForAt prog w A env target body orelse Q E (.ref I) s := by
  refine codeAny_forLoop (fun k s' => ∃ h' tk i m' news', s' = { s with heap := h', toks := tk } ∧ i ≤ n ∧ k = n + 1 - i ∧ St i h' ∧ Fr h₀ L h' m' ∧ News h₀ L h' news' ∧ (∀ p ∈ news', p.1 ≠ I) ∧ S news' ∧ J i m' news') ?_ (n + 1)
    ⟨s.heap, s.toks, 0, m₀, news₀, rfl, Nat.zero_le _, rfl, hst, F, N, off, hS, hJ⟩ ht
  rintro k s' ⟨h', tk, i, m', news', rfl, hi, rfl, hst', F', N', off', hS', hJ'⟩
  by_cases hlt : i < n
  · refine W.item i _ _ _ hlt hst' fun v h₂ tk₂ hPv hst₂ hk₂ => ?_
    obtain ⟨oI, heI⟩ := hIo _ _ hst₂
    have F₂ := fr_but F' hk₂ hIL hI₀
    have N₂ : News h₀ L h₂ ((I, oI) :: news') := fun p hp => by
      rcases List.mem_cons.mp hp with rfl | hp
      · exact ⟨heI, Ne.symm hIL, hI₀⟩
      · exact news_but N' hk₂ off' p hp
    refine wpAny_mono (turn i v oI m' news' h₂ tk₂ hlt hPv F₂ N₂ (off1_of off') hS' hJ') (fun _ s₃ h₃ => wpAny_mono h₃ (fun f s₄ q₄ => ?_) fun _ _ x => x.elim) fun _ _ x => x.elim
    have fin : FEndN h₀ L I oI S (J (i + 1)) s s₄ → ∃ m, m < n + 1 - i ∧ ∃ h' tk i m' news', s₄ = { s with heap := h', toks := tk } ∧ i ≤ n ∧ m = n + 1 - i ∧ St i h' ∧ Fr h₀ L h' m' ∧ News h₀ L h' news' ∧ (∀ p ∈ news', p.1 ≠ I) ∧ S news' ∧ J i m' news' := by
      rintro ⟨h₄, tk₄, m₄, news₄, rfl, F₄, N₄, off₄, hS₄, hJ₄⟩
      have zI := (N₄ (I, oI) (.head _)).1
      have N₄' : News h₀ L h₄ news₄ := fun p hp => N₄ p (.tail _ hp)
      exact ⟨n + 1 - (i + 1), by omega, h₄, tk₄, i + 1, m₄, news₄, rfl, hlt, rfl, hSt _ _ _ _ _ hst₂ heI zI F₄.keep N₄' hS₄, F₄, N₄', off1_mem off₄, hS₄, hJ₄⟩
    cases f with
    | ret v => exact q₄
    | brk => exact q₄
    | next => exact fin q₄
    | cont => exact fin q₄
  · obtain rfl : i = n := Nat.le_antisymm hi (Nat.not_lt.mp hlt)
    refine W.done _ _ _ hst' fun h₂ tk₂ hk₂ => ?_
    exact wpAny_mono (done m' news' h₂ tk₂ (fr_but F' hk₂ hIL hI₀) (news_but N' hk₂ off') hJ') (fun f s₃ h₃ => h₃) fun _ _ x => x.elim

theorem for_range {r : Addr} {a b : Int} {t u v : Tok} {n : Nat} {target : Expr} {body orelse : List Stmt} {Q : Flow → Shared → Prop} {m₀ : Str → Option Value} {news₀ : List (Addr × Obj)}
    (J : Nat → (Str → Option Value) → List (Addr × Obj) → Prop) (hh : A.handled = none) (hr : IsRange s.heap r a b 1 t u v) (hsm : Builtin.Range.small a b 1 = true) (hn : Builtin.Range.rangeSize a b 1 = ((n : Nat) : Int))
    (F : Fr h₀ L s.heap m₀) (N : News h₀ L s.heap news₀) (hJ : J 0 m₀ news₀)
    (turn : ∀ i t I oI m news h tk, i < n → Fr h₀ L h m → News h₀ L h ((I, oI) :: news) → Off1 I news → J i m news →
      wpAny (model prog w) A (assign target env (.int (a + (i : Int)) t)) (fun _ s₂ => wpAny (model prog w) A (execs body env) (FEnd h₀ L I oI (fun _ => True) (J (i + 1)) s Q) (fun _ _ => False) s₂) (fun _ _ => False) { s with heap := h, toks := tk })
    (done : ∀ m news h tk, Fr h₀ L h m → News h₀ L h news → J n m news → wpAny (model prog w) A (execs orelse env) Q (fun _ _ => False) { s with heap := h, toks := tk })
    (ht : ∀ I v, letOwnedTupleGo target (.ref I) v = pure () := by intro _ _; rfl) :
    wpAny (model prog w) A (pyIter (.ref r)) (ForAt prog w A env target body orelse Q E) E s := by
  refine wpAny_pyIter_range hr hsm ?_
  refine for_W (s := { s with heap := _ }) (fun _ => True) J (range_walks hh a n) (fun i h st => ⟨_, st⟩) range_st (by show IsRangeIter _ _ _ _ _; rw [hn]; simpa using Heap.get?_push_size _ rfl) (F.keeps fun _ _ e => Heap.get?_push_of_some _ e)
    (N.grown fun _ _ e => Heap.get?_push_of_some _ e) (Nat.ne_of_lt F.ns.lt) (next_is_new F) (fun p hp => Nat.ne_of_lt (Heap.lt_size (N p hp).1)) trivial hJ ?_ ?_ (ht _)
  · rintro i v oI m news h tk hi ⟨t, rfl⟩ F' N' off' _ hJ'
    exact turn i t _ oI m news h tk hi F' N' off' hJ'
  · intro m news h tk F' N' hJ'
    exact done m news h tk F' N' hJ'

theorem for_list {ax : Addr} {its : Array Value} {target : Expr} {body orelse : List Stmt} {Q : Flow → Shared → Prop} {m₀ : Str → Option Value} {news₀ : List (Addr × Obj)}
    (J : Nat → (Str → Option Value) → List (Addr × Obj) → Prop) (hh : A.handled = none)
    (F : Fr h₀ L s.heap m₀) (N : News h₀ L s.heap news₀) (S : SrcAt h₀ ax its news₀) (hJ : J 0 m₀ news₀)
    (turn : ∀ i v I oI m news h tk, its[i]? = some v → Fr h₀ L h m → News h₀ L h ((I, oI) :: news) → Off1 I news → SrcAt h₀ ax its news → J i m news →
      wpAny (model prog w) A (assign target env v) (fun _ s₂ => wpAny (model prog w) A (execs body env) (FEnd h₀ L I oI (SrcAt h₀ ax its) (J (i + 1)) s Q) (fun _ _ => False) s₂) (fun _ _ => False) { s with heap := h, toks := tk })
    (done : ∀ m news h tk, Fr h₀ L h m → News h₀ L h news → J its.size m news → wpAny (model prog w) A (execs orelse env) Q (fun _ _ => False) { s with heap := h, toks := tk })
    (ht : ∀ I v, letOwnedTupleGo target (.ref I) v = pure () := by intro _ _; rfl) :
    wpAny (model prog w) A (pyIter (.ref ax)) (ForAt prog w A env target body orelse Q E) E s := by
  have hl := S.list F.keep N
  have hlt : ax < s.heap.objs.size := by obtain ⟨_, e, _⟩ := hl; exact Heap.lt_size e
  have up : ∀ b o, s.heap.get? b = some o → (s.heap.push { cls := .type "list_iterator", data := .fields #[.ref ax, .int 0 0] }).get? b = some o := fun b o e => Heap.get?_push_of_some _ e
  refine wpAny_pyIter_list hl ?_
  refine for_W (s := { s with heap := _ }) (SrcAt h₀ ax its) J (Walks.list hh s.heap.objs.size ax (Nat.ne_of_lt hlt) its) (fun i h st => by obtain ⟨o, e, _⟩ := st.1; exact ⟨o, e⟩) list_st ⟨⟨_, Heap.get?_push_size _ rfl, rfl, rfl⟩, hl.push _⟩
    (F.keeps up) (N.grown up) (Nat.ne_of_lt F.ns.lt) (next_is_new F) (fun p hp => Nat.ne_of_lt (Heap.lt_size (N p hp).1)) S hJ ?_ ?_ (ht _)
  · rintro i v oI m news h tk hi hv F' N' off' hS' hJ'
    exact turn i v _ oI m news h tk hv F' N' off' hS' hJ'
  · intro m news h tk F' N' hJ'
    exact done m news h tk F' N' hJ'

theorem for_str {x : Str} {tx : Tok} {target : Expr} {body orelse : List Stmt} {Q : Flow → Shared → Prop} {m₀ : Str → Option Value} {news₀ : List (Addr × Obj)}
    (J : Nat → (Str → Option Value) → List (Addr × Obj) → Prop) (hh : A.handled = none)
    (F : Fr h₀ L s.heap m₀) (N : News h₀ L s.heap news₀) (hJ : J 0 m₀ news₀)
    (turn : ∀ i c t I oI m news h tk, x.cps[i]? = some c → Fr h₀ L h m → News h₀ L h ((I, oI) :: news) → Off1 I news → J i m news →
      wpAny (model prog w) A (assign target env (.str ⟨#[c]⟩ t)) (fun _ s₂ => wpAny (model prog w) A (execs body env) (FEnd h₀ L I oI (fun _ => True) (J (i + 1)) s Q) (fun _ _ => False) s₂) (fun _ _ => False) { s with heap := h, toks := tk })
    (done : ∀ m news h tk, Fr h₀ L h m → News h₀ L h news → J x.cps.size m news → wpAny (model prog w) A (execs orelse env) Q (fun _ _ => False) { s with heap := h, toks := tk })
    (ht : ∀ I v, letOwnedTupleGo target (.ref I) v = pure () := by intro _ _; rfl) :
    wpAny (model prog w) A (pyIter (.str x tx)) (ForAt prog w A env target body orelse Q E) E s := by
  have fin : ∀ (o : Obj) (St : Nat → Heap → Prop), Walks prog w A s.heap.objs.size [s.heap.objs.size] [s.heap.objs.size] x.cps.size (SignAt x) St → (∀ i h, St i h → ∃ o, h.get? s.heap.objs.size = some o) →
      (∀ (i : Nat) (h h' : Heap) (o : Obj), St i h → h.get? s.heap.objs.size = some o → h'.get? s.heap.objs.size = some o → St i h') → St 0 (s.heap.push o) → ForAt prog w A env target body orelse Q E (.ref s.heap.objs.size) { s with heap := s.heap.push o } := by
    intro o St W hIo hSt hst
    refine for_W (s := { s with heap := _ }) (fun _ => True) J W hIo (fun i h h' o nw st e e' _ _ _ => hSt i h h' o st e e') hst (F.keeps fun _ _ e => Heap.get?_push_of_some _ e)
      (N.grown fun _ _ e => Heap.get?_push_of_some _ e) (Nat.ne_of_lt F.ns.lt) (next_is_new F) (fun p hp => Nat.ne_of_lt (Heap.lt_size (N p hp).1)) trivial hJ ?_ ?_ (ht _)
    · rintro i v oI m news h tk hi ⟨c, t, hc, rfl⟩ F' N' off' _ hJ'
      exact turn i c t _ oI m news h tk hc F' N' off' hJ'
    · intro m news h tk F' N' hJ'
      exact done m news h tk F' N' hJ'
  have hSt : ∀ (ty : String) (i : Nat) (h h' : Heap) (o : Obj), h.IsStrIter s.heap.objs.size ty x tx i → h.get? s.heap.objs.size = some o → h'.get? s.heap.objs.size = some o → h'.IsStrIter s.heap.objs.size ty x tx i := fun ty i h h' o st e e' => by
    obtain ⟨o', q, r⟩ := st; rw [e] at q; cases q; exact ⟨o, e', r⟩
  cases ha : x.cps.all (· < 128)
  · exact wpAny_pyIter_wide ha (fin _ _ (Walks.strWide hh _ x tx) (fun i h st => ⟨_, st.choose_spec.1⟩) (hSt _) ⟨_, Heap.get?_push_size _ rfl, rfl, rfl⟩)
  · exact wpAny_pyIter_ascii ha (fin _ _ (Walks.strAscii hh _ x tx) (fun i h st => ⟨_, st.choose_spec.1⟩) (hSt _) ⟨_, Heap.get?_push_size _ rfl, rfl, rfl⟩)
end
section
variable {M : Model} {A : Around} {env : Env} {s : Shared} {E : Value → Shared → Prop}
theorem st_cut {st : Stmt} {Q : Flow → Shared → Prop} (P : Shared → Prop) (h : wpAny M A (exec st env) (fun f s' => f = .next ∧ P s') (fun _ _ => False) s) (k : ∀ s', P s' → Q .next s') : wpAny M A (exec st env) Q E s :=
  wpAny_mono h (fun f s' x => by obtain ⟨rfl, y⟩ := x; exact k s' y) fun _ _ x => x.elim
end
theorem sp_eq {c : Nat} {b : Bool} (h : ((⟨#[c]⟩ : Str) == Str.ofString " ") = b) : decide (c = 32) = b := by
  have e : Str.ofString " " = ⟨#[32]⟩ := by decide +kernel
  rw [e] at h
  rw [← h]
  by_cases hc : c = 32
  · subst hc; decide
  · have : ((⟨#[c]⟩ : Str) == ⟨#[32]⟩) = false := beq_eq_false_iff_ne.mpr fun q => hc (by injection q with q; simpa using q)
    rw [this]; simp [hc]
theorem tab_eq {c : Nat} {b : Bool} (h : ((⟨#[c]⟩ : Str) == Str.ofString "\t") = b) : decide (c = 9) = b := by
  have e : Str.ofString "\t" = ⟨#[9]⟩ := by decide +kernel
  rw [e] at h
  rw [← h]
  by_cases hc : c = 9
  · subst hc; decide
  · have : ((⟨#[c]⟩ : Str) == ⟨#[9]⟩) = false := beq_eq_false_iff_ne.mpr fun q => hc (by injection q with q; simpa using q)
    rw [this]; simp [hc]
theorem drop_at {x : Str} {i c : Nat} (h : x.cps[i]? = some c) : x.cps.toList.drop i = c :: x.cps.toList.drop (i + 1) := by
  obtain ⟨hi, e⟩ := Array.getElem?_eq_some_iff.mp h
  rw [List.drop_eq_getElem_cons (by simpa using hi)]
  simp [e]
theorem fdiv_nat (a b : Nat) : ((a : Int) + (b : Int)).fdiv (a : Int) = (((a + b) / a : Nat) : Int) := by
  rw [← Int.natCast_add, ← Int.ofNat_fdiv]
theorem off1_ins {I D l : Addr} {o o' oD : Obj} {nd tz : List (Addr × Obj)} (h : Off1 I ((l, o) :: (nd ++ tz))) (hD : (@Ne Nat D I)) : Off1 I ((l, o') :: (nd ++ (D, oD) :: tz)) := by
  have k := off1_mem h
  refine off1_of fun p hp => ?_
  rcases List.mem_cons.mp hp with rfl | hp
  · exact k (l, o) (.head _)
  · rcases List.mem_append.mp hp with hp | hp
    · exact k p (.tail _ (List.mem_append_left _ hp))
    · rcases List.mem_cons.mp hp with rfl | hp
      · exact hD
      · exact k p (.tail _ (List.mem_append_right _ hp))
section
variable {prog : Program} {w : World} {A : Around} {h₀ : Heap} {L : Addr} {m : Str → Option Value} {env : Env} {elt : Expr} {x : Str} {scope : Scope} {cl : List (Str × Addr)} {s : Shared} {S : List (Addr × Obj) → Prop} {P : Nat → Value → Prop} {Fin : List Value → List (Addr × Obj) → Prop}
theorem comp_rest {n : Nat} (G : Nat → List Value → List (Addr × Obj) → Prop)
    (turn : ∀ i v I oI C oC D m₂ ys news h tk (E' : Value → Shared → Prop), i < n → P i v → G i ys news → LCg.NsObj oC m₂ → m₂ x = some v → Fr h₀ L h m → News h₀ L h ((I, oI) :: (C, oC) :: (D, LCg.lst ys) :: news) → LCg.Off3 I C D news → ((@Ne Nat I C) ∧ (@Ne Nat I D) ∧ (@Ne Nat C D)) →
      wpAny (model prog w) A (eval elt (compEnvC scope cl C env)) (LCg.CompEnd h₀ L m { s with heap := h, toks := tk } I oI C oC D (LCg.lst ys) S (fun y news' => G (i + 1) (ys ++ [y]) news')) E' { s with heap := h, toks := tk })
    (fin : ∀ ys news, G n ys news → Fin ys news) (ys : List Value) (news : List (Addr × Obj)) (h0 : G 0 ys news) : LCg.CompRest prog w A h₀ L m env elt x scope cl s S P Fin n 0 ys news := by
  have key : ∀ (j i : Nat) (ys : List Value) (news : List (Addr × Obj)), i + j = n → G i ys news → LCg.CompRest prog w A h₀ L m env elt x scope cl s S P Fin j i ys news := by
    intro j
    induction j with
    | zero =>
      intro i ys news hi hg
      have e : i = n := by omega
      subst e
      exact LCg.CompRest.zero (fin ys news hg)
    | succ j ih =>
      intro i ys news hi hg
      refine LCg.CompRest.succ ?_
      intro v I oI C oC D m₂ h tk E' hv hC hx F N off ne
      refine wpAny_mono (turn i v I oI C oC D m₂ ys news h tk E' (by omega) hv hg hC hx F N off ne) (fun y s₂ hq => ?_) fun _ _ e => e
      obtain ⟨h', tk', nw, e, F', N', off', hS, hg'⟩ := hq
      exact ⟨h', tk', nw, e, F', N', off', hS, ih (i + 1) _ _ (by omega) hg'⟩
  exact key n 0 ys news (by omega) h0
end

noncomputable def bump (cs : List Int) (b : Nat) : List Int := let c := if cs.length ≤ b then cs ++ List.replicate (b - cs.length + 1) 0 else cs; c.set b (c.getD b 0 + 1)
noncomputable def wsGo : List Nat → Nat → Nat → Nat → List Int → Nat × Nat × Nat × List Int
  | [], n, b, nt, cs => (n, b, nt, cs)
  | c :: r, n, b, nt, cs => if c = 32 then wsGo r (n + 1) (b + 1) nt cs else if c = 9 then wsGo r (n + 1) 0 (nt + 1) (bump cs b) else (n, b, nt, cs)
theorem wsGo_sp {c : Nat} {r : List Nat} {n b nt : Nat} {cs : List Int} (h : c = 32) : wsGo (c :: r) n b nt cs = wsGo r (n + 1) (b + 1) nt cs := by simp [wsGo, h]
theorem wsGo_tab {c : Nat} {r : List Nat} {n b nt : Nat} {cs : List Int} (h : c = 9) : wsGo (c :: r) n b nt cs = wsGo r (n + 1) 0 (nt + 1) (bump cs b) := by simp [wsGo, h]
theorem wsGo_else {c : Nat} {r : List Nat} {n b nt : Nat} {cs : List Int} (h : ¬ c = 32) (h' : ¬ c = 9) : wsGo (c :: r) n b nt cs = (n, b, nt, cs) := by simp [wsGo, h, h']
theorem rep_flat (n : Nat) : (List.replicate n [(0 : Int)]).flatten = List.replicate n 0 := by
  induction n with
  | zero => rfl
  | succ n ih => rw [List.replicate_succ, List.flatten_cons, ih]; rfl
theorem bump_big {cs : List Int} {b : Nat} (h : (cs.length : Int) ≤ b) :
    (cs ++ (List.replicate ((b : Int) - cs.length + 1).toNat [0]).flatten).set (b : Int).toNat ((cs ++ (List.replicate ((b : Int) - cs.length + 1).toNat [0]).flatten).getD (b : Int).toNat 0 + 1) = bump cs b := by
  have e : ((b : Int) - cs.length + 1).toNat = b - cs.length + 1 := by omega
  have h' : cs.length ≤ b := by omega
  rw [rep_flat, e]
  simp only [bump, if_pos h', Int.toNat_natCast]
theorem bump_small {cs : List Int} {b : Nat} (h : ¬ (cs.length : Int) ≤ b) : cs.set (b : Int).toNat (cs.getD (b : Int).toNat 0 + 1) = bump cs b := by
  have h' : ¬ cs.length ≤ b := by omega
  simp only [bump, if_neg h', Int.toNat_natCast]
theorem bump_len (cs : List Int) (b : Nat) : (bump cs b).length = max cs.length (b + 1) := by
  unfold bump
  by_cases h : cs.length ≤ b
  · simp only [if_pos h, List.length_set, List.length_append, List.length_replicate]; omega
  · simp only [if_neg h, List.length_set]; omega
noncomputable def wsOf (ws : Str) : WS := match wsGo ws.cps.toList 0 0 0 [] with
  | (n, b, nt, cs) => ⟨ws, n, nt, b, cs⟩
section
variable {w : World} {mg mb : Str → Option Value} {A : Around} {s : Shared} {Q E : Value → Shared → Prop} {h₀ : Heap} {L : Addr} {m : Str → Option Value} {news : List (Addr × Obj)}
theorem c_ws (hA : A.handled = none) (hdp : A.depth + 10 < recursionLimit) (hu : A.units + 1000 < cLine)
   (F : Fr h₀ L s.heap m) (N : News h₀ L s.heap news) (X : (hd.heap_39 w.params).In h₀) (T : TopRead vw LO mg mb h₀) (ws : Str) (t : Tok) (hlen : ws.length < 2 ^ 16)
   (ret : ∀ x new h' tk, Fr h₀ L h' m → News h₀ L h' (new ++ news) → Apart new news → IsWs w.params new x (wsOf ws) → Q (.ref x) { s with heap := h', toks := tk }) :
   wpAny (model Challenge.rw_sn0041_01.row.prog w) A (call (.ref 118) [.str ws t] []) Q E s := by
  walk_at "m_fill"
  obtain ⟨_, dp, fr, gd, un⟩ := A; dsimp only at hA hdp hu; subst hA
  k_dflt (refine' call_cls ?k1 ?k2 ?k3 ?k4 ?k5 ?k6 ?_; (case k1 => k_asm); (case k2 => k_asm); (case k3 => k_asm); (case k4 => k_is); (case k5 => k_is); (case k6 => k_is); k_whole)
  intro x dx h₁ F₁ N₁ l1 l2
  k_lt2 l2
  k_dflt (refine' entK [(x, instObj 118 dx), (dx, dictOf [] 0)] [(Str.ofString "self", .ref x), (Str.ofString "ws", .str ws t)] ?F ?N ?X ?T ?hs ?ho ?cd ?room ?kb ?loc ?_ ?c1 ?c2 ?c3 ?c4; (case N => exact N₁); (case F => exact F₁); (case hs => kcf_all); (walk_at "m_enter"))
  intro g L' h₂ F₂ N₂ X₂ T₂ st bk
  clear F N X T
  k_fold
  walk_at "m_steps"
  rename_i tt _ _ _ _ _ _ _ _ _ ct _ _ _ _ _ _ _ F₃ N₃
  refine st_cut (fun s' => ∃ (n b nt : Nat) (cs : List Int) (vs : List Value) (ct : Addr) (k : Nat) (t1 t2 t3 : Tok) (u : Str → Option Value) (h' : Heap) (tk : Nat), s' = { s with heap := h', toks := tk } ∧
    wsGo ws.cps.toList 0 0 0 [] = (n, b, nt, cs) ∧ vs.length < 2 ^ 16 ∧ IntsAre vs cs ∧ (@Ne Nat ct x) ∧ (@Ne Nat ct dx) ∧
    Fr g L' h' (kstB u [(Str.ofString "nt", Value.int nt t1), (Str.ofString "n", Value.int n t2), (Str.ofString "b", Value.int b t3), (Str.ofString "count", Value.ref ct), (Str.ofString "self", .ref x)]) ∧
    News g L' h' [(ct, W.listOf vs.toArray k), (x, instObj 118 dx), (dx, dictOf [⟨PyData.keyHash w.params (Str.ofString "raw"), .str (Str.ofString "raw") (tt + 1), .str ws t⟩] 1)]) ?_ ?_
  · clear qk ek
    refine for_open ?_
    walk_at "m_steps"
    refine for_str (fun i m news => ∃ (n b nt : Nat) (cs : List Int) (vs : List Value) (ct : Addr) (k : Nat) (t1 t2 t3 : Tok),
      wsGo ws.cps.toList 0 0 0 [] = wsGo (ws.cps.toList.drop i) n b nt cs ∧ b ≤ i ∧ cs.length ≤ i ∧ IntsAre vs cs ∧ (@Ne Nat ct x) ∧ (@Ne Nat ct dx) ∧
      (∀ p ∈ [(Str.ofString "nt", Value.int nt t1), (Str.ofString "n", Value.int n t2), (Str.ofString "b", Value.int b t3), (Str.ofString "count", Value.ref ct), (Str.ofString "S", .str (Str.ofString " ") 295), (Str.ofString "T", .str (Str.ofString "\t") 296), (Str.ofString "self", .ref x)], m p.1 = some p.2) ∧
      news = [(ct, W.listOf vs.toArray k), (x, instObj 118 dx), (dx, dictOf [⟨PyData.keyHash w.params (Str.ofString "raw"), .str (Str.ofString "raw") (tt + 1), .str ws t⟩] 1)]) rfl F₃
      (show News _ _ _ [(ct, W.listOf (List.toArray []) 0), (x, instObj 118 dx), (dx, dictOf [⟨PyData.keyHash w.params (Str.ofString "raw"), .str (Str.ofString "raw") (tt + 1), .str ws t⟩] 1)] from Bk.drop N₃ (by kcf_all))
      ⟨0, 0, 0, [], [], ct, 0, _, _, _, by rw [List.drop_zero], Nat.le_refl _, Nat.le_refl _, .nil, by omega, by omega, by walk_at "m_frp", rfl⟩ ?_ ?_
    · clear F₃ N₃
      rintro i c tc I oI m₁ _ h₃ tk₃ hc F₃ N₃ off ⟨n, b, nt, cs, vs, ct, k, t1, t2, t3, hgo, hb, hcs, hv, ne1, ne2, hm, rfl⟩
      have F₄ := fr_norm _ F₃ hm
      dsimp only [kstB] at F₄
      clear F₃ hm
      simp only [Off1, and_true] at off
      have hvl := hv.length
      have hi : i < ws.length := (Array.getElem?_eq_some_iff.mp hc).1
      have hv2 : vs.length < 2 ^ 16 := by omega
      have hdr := drop_at hc
      show wpAny _ _ _ _ _ _
      k_fold
      walk_at "m_steps"
      · (rename Fr _ _ _ _ => F'); (rename News _ _ _ _ => N'); (rename (_ == _) = true => e1)
        have e1 := of_decide_eq_true (sp_eq e1)
        refine FEndN.intro [(ct, W.listOf vs.toArray k), (x, instObj 118 dx), (dx, dictOf [⟨PyData.keyHash w.params (Str.ofString "raw"), .str (Str.ofString "raw") (tt + 1), .str ws t⟩] 1)] F' N' (by kcf_all) ⟨off.1, off.2.1, off.2.2, trivial⟩ trivial
          ⟨n + 1, b + 1, nt, cs, vs, ct, k, _, _, _, by rw [hgo, hdr, wsGo_sp e1], by omega, by omega, hv, ne1, ne2, by walk_at "m_frp", rfl⟩
      · (rename Fr _ _ _ _ => F'); (rename News _ _ _ _ => N'); (rename (_ == _) = true => e1); (rename _ ≤ (b : Int) => e2); (rename IntsAre _ _ => hv')
        have e1 := of_decide_eq_true (tab_eq e1)
        rw [bump_big e2] at hv'
        have hbl := bump_len cs b
        refine FEndN.intro [(_, W.listOf (List.toArray _) _), (x, instObj 118 dx), (dx, dictOf [⟨PyData.keyHash w.params (Str.ofString "raw"), .str (Str.ofString "raw") (tt + 1), .str ws t⟩] 1)] F' N' (by kcf_all) ⟨by dsimp only; omega, off.2.1, off.2.2, trivial⟩ trivial
          ⟨n + 1, 0, nt + 1, bump cs b, _, _, _, _, _, _, by rw [hgo, hdr, wsGo_tab e1], by omega, by omega, hv', by omega, by omega, by walk_at "m_frp", rfl⟩
      · (rename Fr _ _ _ _ => F'); (rename News _ _ _ _ => N'); (rename (_ == _) = true => e1); (rename ¬ _ ≤ (b : Int) => e2); (rename IntsAre _ _ => hv')
        have e1 := of_decide_eq_true (tab_eq e1)
        rw [bump_small e2] at hv'
        have hbl := bump_len cs b
        refine FEndN.intro [(ct, W.listOf (List.toArray _) _), (x, instObj 118 dx), (dx, dictOf [⟨PyData.keyHash w.params (Str.ofString "raw"), .str (Str.ofString "raw") (tt + 1), .str ws t⟩] 1)] F' N' (by kcf_all) ⟨off.1, off.2.1, off.2.2, trivial⟩ trivial
          ⟨n + 1, 0, nt + 1, bump cs b, _, ct, _, _, _, _, by rw [hgo, hdr, wsGo_tab e1], by omega, by omega, hv', ne1, ne2, by walk_at "m_frp", rfl⟩
      · (rename Fr _ _ _ _ => F'); (rename News _ _ _ _ => N'); (rename (_ == _) = false => e2); (rename ((_ == Str.ofString " ") = false) => e1)
        have e1 := of_decide_eq_false (sp_eq e1)
        have e2 := of_decide_eq_false (tab_eq e2)
        refine ⟨rfl, n, b, nt, cs, vs, ct, k, t1, t2, t3, _, _, _, rfl, by rw [hgo, hdr, wsGo_else e1 e2], hv2, hv, ne1, ne2, fr_norm _ F' (by walk_at "m_frp"), Bk.drop N' (by kcf_all)⟩
    · rintro m₁ _ h₃ tk₃ F₃ N₃ ⟨n, b, nt, cs, vs, ct, k, t1, t2, t3, hgo, hb, hcs, hv, ne1, ne2, hm, rfl⟩
      have hvl := hv.length
      have hv2 : vs.length < 2 ^ 16 := by unfold Str.length at hlen; omega
      refine wpAny_execs_nil ⟨rfl, n, b, nt, cs, vs, ct, k, t1, t2, t3, _, _, _, rfl, by rw [hgo, List.drop_of_length_le (by simp)]; rfl, hv2, hv, ne1, ne2, fr_norm _ F₃ ?_, N₃⟩
      intro p hp
      refine hm p ?_
      simp only [List.mem_cons, List.not_mem_nil, or_false] at hp ⊢
      rcases hp with h | h | h | h | h <;> simp [h]
  · rintro s' ⟨n, b, nt, cs, vs, ct, k, t1, t2, t3, u, h', tk, rfl, hgo, hv2, hv, ne1, ne2, F', N'⟩
    clear F₃ N₃
    dsimp only [kstB] at F'
    have hvl := hv.length
    show wpAny _ _ _ _ _ _
    walk_at "m_steps"
    (rename News _ _ _ _ => N'')
    have hne := news_ne N'' (.tail _ (.head _)) (.tail _ (.tail _ (.tail _ (.tail _ (.head _))))) (by show Value.type "tuple" ≠ Value.type "dict"; decide)
    walk_at "m_steps"
    (rename Fr _ _ _ _ => F₉); (rename News _ _ _ _ => N₉)
    have B := bk _ _ _ F₉ N₉
    obtain ⟨a, b', c⟩ := B.made F₁ N₁ (fun p hp q => by have := l1 p hp; simp only [List.map_cons, List.map_nil, List.mem_cons, List.not_mem_nil, or_false] at q; exact q.elim (fun q => Nat.lt_irrefl _ (Nat.lt_trans (q ▸ this) l2)) (fun q => Nat.lt_irrefl _ (q ▸ this))) (new := _) (fun q hq => hq)
    refine ⟨rfl, ret x _ _ _ a b' c ?_⟩
    unfold wsOf
    rw [hgo]
    exact ⟨_, _, _, _, _, _, _, _, _, _, _, _, _, ⟨.tail _ (.tail _ (.tail _ (.head _))), .tail _ (.tail _ (.tail _ (.tail _ (.head _)))), .head _, .tail _ (.head _), hv⟩⟩
end

noncomputable def WS.long (W : WS) : Int := max ((W.cs.length : Int) - 1) W.b
noncomputable def lvTo (cs : List Int) (ts : Nat) : Nat → Int
  | 0 => 0
  | k + 1 => lvTo cs ts k + (((ts + k) / ts : Nat) : Int) * cs.getD (ts + k) 0
noncomputable def WS.lvl (W : WS) (ts : Nat) : Int := W.b + ts * (lvTo W.cs ts (W.cs.length - ts) + W.nt)
section
variable {w : World} {mg mb : Str → Option Value} {A : Around} {s : Shared} {Q E : Value → Shared → Prop} {h₀ : Heap} {L : Addr} {m : Str → Option Value} {news : List (Addr × Obj)}
theorem c_long (hA : A.handled = none) (hdp : A.depth + 10 < recursionLimit) (hu : A.units + 1000 < cLine)
   (F : Fr h₀ L s.heap m) (N : News h₀ L s.heap news) (X : (hd.heap_39 w.params).In h₀) (T : TopRead vw LO mg mb h₀)
   {x dx nm ct : Addr} {W : WS} {vs : List Value} {k1 k2 k3 k4 k5 tr tn tnt tb : Tok} (hw : WsIn w.params news x dx nm ct W vs k1 k2 k3 k4 k5 tr tn tnt tb) (ok : W.Ok)
   (ret : ∀ t h' tk, Fr h₀ L h' m → News h₀ L h' news → Q (.int W.long t) { s with heap := h', toks := tk }) :
   wpAny (model Challenge.rw_sn0041_01.row.prog w) A (call (.ref 80) [.ref x] []) Q E s := by
  walk_at "m_fill"
  obtain ⟨_, dp, fr, gd, un⟩ := A; dsimp only at hA hdp hu; subst hA
  have hv := hw.i5
  have hvl := hv.length
  have ok1 := ok.l
  k_dflt (refine wpAny_call ?_; refine' entK (wsNd w.params x dx nm ct W vs k1 k2 k3 k4 k5 tr tn tnt tb) [(Str.ofString "self", .ref x)] ?F ?N ?X ?T hw.sub ?ho ?cd ?room ?kb ?loc ?_ ?c1 ?c2 ?c3 ?c4; (walk_at "m_enter"))
  intro g L' h₂ F₂ N₂ X₂ T₂ st bk
  dsimp only [wsNd] at N₂
  clear X T
  k_fold
  walk_at "m_steps"
  (rename Fr _ _ _ _ => F₉); (rename News _ _ _ _ => N₉)
  obtain ⟨a, b⟩ := (bk _ _ _ F₉ N₉).give F N hw.sub (by kcf_all)
  have e : (if (W.b : Int) > (W.cs.length : Int) - 1 then (W.b : Int) else (W.cs.length : Int) - 1) = W.long := by unfold WS.long; split <;> omega
  rw [e]
  exact ret _ _ _ a b

theorem c_lvl (hA : A.handled = none) (hdp : A.depth + 10 < recursionLimit) (hu : A.units + 1000 < cLine)
   (F : Fr h₀ L s.heap m) (N : News h₀ L s.heap news) (X : (hd.heap_39 w.params).In h₀) (T : TopRead vw LO mg mb h₀)
   {x dx nm ct : Addr} {W : WS} {vs : List Value} {k1 k2 k3 k4 k5 tr tn tnt tb : Tok} (hw : WsIn w.params news x dx nm ct W vs k1 k2 k3 k4 k5 tr tn tnt tb) (ok : W.Ok)
   (ts : Nat) (tt : Tok) (h1 : 1 ≤ ts) (h2 : ts < 2 ^ 11)
   (ret : ∀ t h' tk, Fr h₀ L h' m → News h₀ L h' news → Q (.int (W.lvl ts) t) { s with heap := h', toks := tk }) :
   wpAny (model Challenge.rw_sn0041_01.row.prog w) A (call (.ref 87) [.ref x, .int ts tt] []) Q E s := by
  walk_at "m_fill"
  obtain ⟨_, dp, fr, gd, un⟩ := A; dsimp only at hA hdp hu; subst hA
  have hv := hw.i5
  have hvl := hv.length
  have ok1 := ok.l
  k_dflt (refine wpAny_call ?_; refine' entK (wsNd w.params x dx nm ct W vs k1 k2 k3 k4 k5 tr tn tnt tb) [(Str.ofString "self", .ref x), (Str.ofString "tabsize", .int ts tt)] ?F ?N ?X ?T hw.sub ?ho ?cd ?room ?kb ?loc ?_ ?c1 ?c2 ?c3 ?c4; (walk_at "m_enter"))
  intro g L' h₂ F₂ N₂ X₂ T₂ st bk
  clear X T
  dsimp only [wsNd] at N₂
  k_fold
  walk_at "m_steps"
  (rename Fr _ _ _ _ => F₃); (rename News _ _ _ _ => N₃)
  refine st_cut (fun s' => ∃ (t1 : Tok) (u : Str → Option Value) (h' : Heap) (tk : Nat), s' = { s with heap := h', toks := tk } ∧
    Fr g L' h' (kstB u [(Str.ofString "il", Value.int (lvTo W.cs ts (W.cs.length - ts)) t1), (Str.ofString "trailing", .int W.b tb), (Str.ofString "tabsize", .int ts tt), (Str.ofString "self", .ref x)]) ∧ News g L' h' (wsNd w.params x dx nm ct W vs k1 k2 k3 k4 k5 tr tn tnt tb)) ?_ ?_
  · clear qk ek
    refine for_open ?_
    walk_at "m_steps"
    (rename Fr _ _ _ _ => F₄); (rename News _ _ _ _ => N₃); (rename IsRange _ _ _ _ _ _ _ _ => hr)
    refine for_range (n := W.cs.length - ts) (fun i m' news => ∃ t1 : Tok, (∀ p ∈ [(Str.ofString "il", Value.int (lvTo W.cs ts i) t1), (Str.ofString "trailing", .int W.b tb), (Str.ofString "count", .ref ct), (Str.ofString "tabsize", .int ts tt), (Str.ofString "self", .ref x)], m' p.1 = some p.2) ∧ news = wsNd w.params x dx nm ct W vs k1 k2 k3 k4 k5 tr tn tnt tb) rfl hr
      (small_one (by omega) (by omega) (by omega) (by omega)) (by rw [rangeSize_nat]; omega) F₄ N₃ ⟨_, by walk_at "m_frp", rfl⟩ ?_ ?_
    · clear F₄ N₃ hr
      rintro i t I oI m₁ _ h₃ tk₃ hi F₃ N₃ off ⟨t1, hm, rfl⟩
      have F₄ := fr_norm _ F₃ hm
      dsimp only [kstB] at F₄
      dsimp only [wsNd] at N₃
      clear F₃ hm
      simp only [Off1, and_true] at off
      have hq1 : (0 : Int) ≤ ((ts : Int) + (i : Int)).fdiv (ts : Int) := by rw [fdiv_nat]; exact Int.natCast_nonneg _
      have hq2 : ((ts : Int) + (i : Int)).fdiv (ts : Int) < 2 ^ 12 := by
        rw [fdiv_nat]
        have := Nat.div_le_self (ts + i) ts
        omega
      show wpAny _ _ _ _ _ _
      k_fold
      walk_at "m_steps"
      (rename Fr _ _ _ _ => F'); (rename News _ _ _ _ => N')
      have e : lvTo W.cs ts i + ((ts : Int) + (i : Int)).fdiv (ts : Int) * W.cs.getD ((ts : Int) + (i : Int)).toNat 0 = lvTo W.cs ts (i + 1) := by
        rw [fdiv_nat, show ((ts : Int) + (i : Int)).toNat = ts + i by omega]; rfl
      rw [e] at F'
      refine FEndN.intro (wsNd w.params x dx nm ct W vs k1 k2 k3 k4 k5 tr tn tnt tb) F' N' (by kcf_all) ⟨off.1, off.2.1, off.2.2.1, off.2.2.2, trivial⟩ trivial ⟨_, by walk_at "m_frp", rfl⟩
    · rintro m₁ _ h₃ tk₃ F₃ N₃ ⟨t1, hm, rfl⟩
      refine wpAny_execs_nil ⟨rfl, t1, _, _, _, rfl, fr_norm _ F₃ ?_, N₃⟩
      intro p hp
      refine hm p ?_
      simp only [List.mem_cons, List.not_mem_nil, or_false] at hp ⊢
      rcases hp with h | h | h | h <;> simp [h]
  · rintro s' ⟨t1, u, h', tk, rfl, F', N'⟩
    clear F₃ N₃
    dsimp only [kstB] at F'
    dsimp only [wsNd] at N'
    show wpAny _ _ _ _ _ _
    walk_at "m_steps"
    (rename Fr _ _ _ _ => F₉); (rename News _ _ _ _ => N₉)
    obtain ⟨a, b⟩ := (bk _ _ _ F₉ N₉).give F N hw.sub (by kcf_all)
    exact ret _ _ _ a b
end
theorem c_lvlZ {w : World} {mg mb : Str → Option Value} {A : Around} {s : Shared} {Q E : Value → Shared → Prop} {h₀ : Heap} {L : Addr} {m : Str → Option Value} {news : List (Addr × Obj)}
   (hA : A.handled = none) (hdp : A.depth + 10 < recursionLimit) (hu : A.units + 1000 < cLine)
   (F : Fr h₀ L s.heap m) (N : News h₀ L s.heap news) (X : (hd.heap_39 w.params).In h₀) (T : TopRead vw LO mg mb h₀)
   {x dx nm ct : Addr} {W : WS} {vs : List Value} {k1 k2 k3 k4 k5 tr tn tnt tb : Tok} (hw : WsIn w.params news x dx nm ct W vs k1 k2 k3 k4 k5 tr tn tnt tb) (ok : W.Ok)
   (z : Int) (tt : Tok) (h1 : 1 ≤ z) (h2 : z < 2 ^ 11)
   (ret : ∀ t h' tk, Fr h₀ L h' m → News h₀ L h' news → Q (.int (W.lvl z.toNat) t) { s with heap := h', toks := tk }) :
   wpAny (model Challenge.rw_sn0041_01.row.prog w) A (call (.ref 87) [.ref x, .int z tt] []) Q E s := by
  obtain ⟨ts, rfl⟩ : ∃ ts : Nat, z = ts := ⟨z.toNat, by omega⟩
  exact c_lvl hA hdp hu F N X T hw ok ts tt (by omega) (by omega) (by simpa using ret)

local macro_rules | `(tactic| walk_at "m_units") => `(tactic| (simp only [units_deeper] at *; omega))
local macro_rules | `(tactic| walk_at "m_ws") => `(tactic| exact ⟨by k_mem, by k_mem, by k_mem, by k_mem, by assumption⟩)
local macro_rules | `(tactic| walk_at "call ref") => `(tactic| (k_here; k_dflt (refine' c_long ?hA ?hd ?hu ?F ?N ?X ?T ?hw ?ok ?_; (case hA => rfl); (case F => k_asm); (case N => k_asm); (case X => k_asm); (case T => k_asm); (case hw => walk_at "m_ws"); (case ok => assumption); (case hd => walk_at "m_room"); (case hu => walk_at "m_units"); k_whole; intro t' h' tk' F' N'; (try ground_anew F'))))
local macro_rules | `(tactic| walk_at "call ref") => `(tactic| (k_here; k_dflt (refine' c_lvlZ ?hA ?hd ?hu ?F ?N ?X ?T ?hw ?ok _ _ ?h1 ?h2 ?_; (case hA => rfl); (case F => k_asm); (case N => k_asm); (case X => k_asm); (case T => k_asm); (case hw => walk_at "m_ws"); (case ok => assumption); (case hd => walk_at "m_room"); (case hu => walk_at "m_units"); (case h1 => omega); (case h2 => omega); k_whole; intro t' h' tk' F' N'; (try ground_anew F'))))

noncomputable def WS.eqs (W W' : WS) : Bool := decide (W.cs = W'.cs) && decide (W.b = W'.b)
section
variable {w : World} {mg mb : Str → Option Value} {A : Around} {s : Shared} {Q E : Value → Shared → Prop} {h₀ : Heap} {L : Addr} {m : Str → Option Value} {news : List (Addr × Obj)}
theorem c_equal (hA : A.handled = none) (hdp : A.depth + 10 < recursionLimit) (hu : A.units + 1000 < cLine)
   (F : Fr h₀ L s.heap m) (N : News h₀ L s.heap news) (X : (hd.heap_39 w.params).In h₀) (T : TopRead vw LO mg mb h₀)
   {x dx nm ct : Addr} {W : WS} {vs : List Value} {k1 k2 k3 k4 k5 tr tn tnt tb : Tok} (hw : WsIn w.params news x dx nm ct W vs k1 k2 k3 k4 k5 tr tn tnt tb) (ok : W.Ok)
   {x' dx' nm' ct' : Addr} {W' : WS} {vs' : List Value} {k1' k2' k3' k4' k5' tr' tn' tnt' tb' : Tok} (hw' : WsIn w.params news x' dx' nm' ct' W' vs' k1' k2' k3' k4' k5' tr' tn' tnt' tb') (ok' : W'.Ok)
   (ret : ∀ h' tk, Fr h₀ L h' m → News h₀ L h' news → Q (.bool (W.eqs W')) { s with heap := h', toks := tk }) :
   wpAny (model Challenge.rw_sn0041_01.row.prog w) A (call (.ref 94) [.ref x, .ref x'] []) Q E s := by
  walk_at "m_fill"
  obtain ⟨_, dp, fr, gd, un⟩ := A; dsimp only at hA hdp hu; subst hA
  have hv := hw.i5
  have hvl := hv.length
  have ok1 := ok.l
  have hv' := hw'.i5
  have hvl' := hv'.length
  have ok1' := ok'.l
  k_dflt (refine wpAny_call ?_; refine' entK (wsNd w.params x dx nm ct W vs k1 k2 k3 k4 k5 tr tn tnt tb ++ wsNd w.params x' dx' nm' ct' W' vs' k1' k2' k3' k4' k5' tr' tn' tnt' tb') [(Str.ofString "self", .ref x), (Str.ofString "other", .ref x')] ?F ?N ?X ?T (List.forall_mem_append.mpr ⟨hw.sub, hw'.sub⟩) ?ho ?cd ?room ?kb ?loc ?_ ?c1 ?c2 ?c3 ?c4; (walk_at "m_enter"))
  intro g L' h₂ F₂ N₂ X₂ T₂ st bk
  simp only [wsNd, List.cons_append, List.nil_append] at N₂
  clear X T
  k_fold
  walk_at "m_steps"
  have sh : ∀ U : WS, SeqAt.shaped (.tuple [.tuple (U.cs.map PyData.int), .int U.b]) = true := fun U => by
    simp [SeqAt.shaped, PyData.canLay0, PyData.canLayAll0, PyData.depth, PyData.depthAll, ke_canLayAll0, ke_depthAll]
  refine eq_dataH (da := .tuple [.tuple (W.cs.map PyData.int), .int W.b]) (db := .tuple [.tuple (W'.cs.map PyData.int), .int W'.b])
    (reads_tuple_at (News.get N₂ (by k_mem)) rfl rfl (.cons (reads_tuple_at (News.get N₂ (by k_mem)) rfl rfl (IntsAre.reads _ hv)) (.cons (.int _ _) .nil)))
    (reads_tuple_at (News.get N₂ (by k_mem)) rfl rfl (.cons (reads_tuple_at (News.get N₂ (by k_mem)) rfl rfl (IntsAre.reads _ hv')) (.cons (.int _ _) .nil))) (sh W) (sh W') (by simp only [units_deeper]; omega) ?_
  have e : PyData.eqv (.tuple [.tuple (W.cs.map PyData.int), .int W.b]) (.tuple [.tuple (W'.cs.map PyData.int), .int W'.b]) = W.eqs W' := by
    simp only [PyData.eqv, PyData.eqvAll, ked_eqvAll, WS.eqs, Bool.and_true]
    by_cases h : W.b = W'.b
    · simp [h]
    · have h' : ¬ (W.b : Int) = W'.b := by omega
      simp [h, h']
  rw [e]
  obtain ⟨a, b⟩ := (bk _ _ _ F₂ N₂).give F N (List.forall_mem_append.mpr ⟨hw.sub, hw'.sub⟩) (by kcf_all)
  exact ret _ _ a b
end

noncomputable def WS.maxLong (W W' : WS) : Nat := (max W.long W'.long).toNat
noncomputable def WS.lessB (W W' : WS) : Bool := if W'.n ≤ W.n then false else if W.cs.length ≤ 1 ∧ W'.cs.length ≤ 1 then decide (W.nt ≤ W'.nt) else (List.range (WS.maxLong W W')).all fun k => decide (W.lvl (2 + k) < W'.lvl (2 + k))
theorem WS.maxLong_eq (W W' : WS) : (if W'.long > W.long then W'.long else W.long) = (WS.maxLong W W' : Int) := by
  have h : ∀ x y : Int, 0 ≤ x → (if y > x then y else x) = ((max x y).toNat : Int) := fun x y h => by split <;> omega
  exact h _ _ (Int.le_trans (Int.natCast_nonneg _) (Int.le_max_right _ _))
theorem WS.less_no {W W' : WS} {i : Nat} (h : ¬ W'.n ≤ W.n) (hs : ¬ (W.cs.length ≤ 1 ∧ W'.cs.length ≤ 1)) (hi : i < WS.maxLong W W') (hl : ¬ W.lvl (2 + i) < W'.lvl (2 + i)) : W.lessB W' = false := by
  unfold WS.lessB
  rw [if_neg h, if_neg hs]
  exact List.all_eq_false.mpr ⟨i, List.mem_range.mpr hi, by simpa using hl⟩
theorem WS.less_yes {W W' : WS} (h : ¬ W'.n ≤ W.n) (hs : ¬ (W.cs.length ≤ 1 ∧ W'.cs.length ≤ 1)) (hl : ∀ k, k < WS.maxLong W W' → W.lvl (2 + k) < W'.lvl (2 + k)) : W.lessB W' = true := by
  unfold WS.lessB
  rw [if_neg h, if_neg hs]
  exact List.all_eq_true.mpr fun k hk => by simpa using hl k (List.mem_range.mp hk)
theorem WS.maxLong_lt {W W' : WS} (h : W.Ok) (h' : W'.Ok) : WS.maxLong W W' < 2 ^ 10 := by
  have := h.l; have := h.b; have := h'.l; have := h'.b
  unfold WS.maxLong WS.long
  omega
section
variable {w : World} {mg mb : Str → Option Value} {A : Around} {s : Shared} {Q E : Value → Shared → Prop} {h₀ : Heap} {L : Addr} {m : Str → Option Value} {news : List (Addr × Obj)}
theorem c_less (hA : A.handled = none) (hdp : A.depth + 20 < recursionLimit) (hu : A.units + 2000 < cLine)
   (F : Fr h₀ L s.heap m) (N : News h₀ L s.heap news) (X : (hd.heap_39 w.params).In h₀) (T : TopRead vw LO mg mb h₀)
   {x dx nm ct : Addr} {W : WS} {vs : List Value} {k1 k2 k3 k4 k5 tr tn tnt tb : Tok} (hw : WsIn w.params news x dx nm ct W vs k1 k2 k3 k4 k5 tr tn tnt tb) (ok : W.Ok)
   {x' dx' nm' ct' : Addr} {W' : WS} {vs' : List Value} {k1' k2' k3' k4' k5' tr' tn' tnt' tb' : Tok} (hw' : WsIn w.params news x' dx' nm' ct' W' vs' k1' k2' k3' k4' k5' tr' tn' tnt' tb') (ok' : W'.Ok)
   (ret : ∀ h' tk, Fr h₀ L h' m → News h₀ L h' news → Q (.bool (W.lessB W')) { s with heap := h', toks := tk }) :
   wpAny (model Challenge.rw_sn0041_01.row.prog w) A (call (.ref 108) [.ref x, .ref x'] []) Q E s := by
  walk_at "m_fill"
  obtain ⟨_, dp, fr, gd, un⟩ := A; dsimp only at hA hdp hu; subst hA
  have hv := hw.i5
  have hvl := hv.length
  have ok1 := ok.l
  have hv' := hw'.i5
  have hvl' := hv'.length
  have ok1' := ok'.l
  k_dflt (refine wpAny_call ?_; refine' entK (wsNd w.params x dx nm ct W vs k1 k2 k3 k4 k5 tr tn tnt tb ++ wsNd w.params x' dx' nm' ct' W' vs' k1' k2' k3' k4' k5' tr' tn' tnt' tb') [(Str.ofString "self", .ref x), (Str.ofString "other", .ref x')] ?F ?N ?X ?T (List.forall_mem_append.mpr ⟨hw.sub, hw'.sub⟩) ?ho ?cd ?room ?kb ?loc ?_ ?c1 ?c2 ?c3 ?c4; (walk_at "m_enter"))
  intro g L' h₂ F₂ N₂ X₂ T₂ st bk
  simp only [wsNd, List.cons_append, List.nil_append] at N₂
  clear X T
  k_fold
  walk_at "m_steps"
  · (rename _ ≤ (W.n : Int) => h1)
    obtain ⟨a, b⟩ := (bk _ _ _ F₂ N₂).give F N (List.forall_mem_append.mpr ⟨hw.sub, hw'.sub⟩) (by kcf_all)
    have e : W.lessB W' = false := by unfold WS.lessB; rw [if_pos (by omega)]
    exact e ▸ ret _ _ a b
  · (rename ¬ _ ≤ (W.n : Int) => h1); (rename Fr _ _ _ _ => F₃); (rename News _ _ _ _ => N₃)
    obtain ⟨a, b⟩ := (bk _ _ _ F₃ N₃).give F N (List.forall_mem_append.mpr ⟨hw.sub, hw'.sub⟩) (by kcf_all)
    have e : W.lessB W' = decide ((W.nt : Int) ≤ (W'.nt : Int)) := by
      unfold WS.lessB
      rw [if_neg (by omega), if_pos (by simp_all; omega)]
      simp
    exact e ▸ ret _ _ a b
  all_goals
    (rename ¬ _ ≤ (W.n : Int) => h1)
    (rename Fr _ _ _ _ => F₃); (rename News _ _ _ _ => N₃)
    have hs : ¬ (W.cs.length ≤ 1 ∧ W'.cs.length ≤ 1) := by simp_all; omega
    have hM : (if W'.long > W.long then W'.long else W.long) = (WS.maxLong W W' : Int) := WS.maxLong_eq W W'
    have hM2 := WS.maxLong_lt ok ok'
    rw [hM] at F₃
    refine for_open ?_
    walk_at "m_steps"
    (rename Fr _ _ _ _ => F₄); (rename News _ _ _ _ => N₄); (rename IsRange _ _ _ _ _ _ _ _ => hr)
    refine for_range (n := WS.maxLong W W') (fun i m' news => (∀ k, k < i → W.lvl (2 + k) < W'.lvl (2 + k)) ∧ (∀ p ∈ [(Str.ofString "self", Value.ref x), (Str.ofString "other", .ref x')], m' p.1 = some p.2) ∧ news = wsNd w.params x dx nm ct W vs k1 k2 k3 k4 k5 tr tn tnt tb ++ wsNd w.params x' dx' nm' ct' W' vs' k1' k2' k3' k4' k5' tr' tn' tnt' tb') rfl hr
      (small_one (by omega) (by omega) (by omega) (by omega)) (by rw [rangeSize_nat]; omega) F₄ N₄ ⟨fun k hk => absurd hk (Nat.not_lt_zero _), by walk_at "m_frp", rfl⟩ ?_ ?_
    · clear F₄ N₄ hr
      rintro i t I oI m₁ _ h₃ tk₃ hi F₃ N₃ off ⟨hall, hm, rfl⟩
      have F₄ := fr_norm _ F₃ hm
      dsimp only [kstB] at F₄
      simp only [wsNd, List.cons_append, List.nil_append] at N₃
      clear F₃ hm
      simp only [Off1, wsNd, List.cons_append, List.nil_append, and_true] at off
      show wpAny _ _ _ _ _ _
      k_fold
      walk_at "m_steps"
      · (rename Fr _ _ _ _ => F₉); (rename News _ _ _ _ => N₉); (rename _ ≤ W.lvl _ => hl)
        obtain ⟨a, b⟩ := (bk _ _ _ F₉ N₉).give F N (List.forall_mem_append.mpr ⟨hw.sub, hw'.sub⟩) (by kcf_all)
        rw [WS.less_no (by omega) hs hi (by rw [show (2 + (i : Int)).toNat = 2 + i by omega] at hl; omega)] at ret
        exact ret _ _ a b
      · (rename Fr _ _ _ _ => F₉); (rename News _ _ _ _ => N₉); (rename ¬ _ ≤ W.lvl _ => hl)
        rw [show (2 + (i : Int)).toNat = 2 + i by omega] at hl
        refine FEndN.intro (wsNd w.params x dx nm ct W vs k1 k2 k3 k4 k5 tr tn tnt tb ++ wsNd w.params x' dx' nm' ct' W' vs' k1' k2' k3' k4' k5' tr' tn' tnt' tb') F₉ N₉ (by kcf_all)
          (by simpa only [Off1, wsNd, List.cons_append, List.nil_append, and_true] using off) trivial ⟨fun k hk => ?_, by walk_at "m_frp", rfl⟩
        by_cases e : k = i
        · subst e; omega
        · exact hall k (by omega)
    · rintro m₁ _ h₃ tk₃ F₃ N₃ ⟨hall, hm, rfl⟩
      refine wpAny_execs_nil ?_
      have F₄ := fr_norm _ F₃ hm
      dsimp only [kstB] at F₄
      show wpAny _ _ _ _ _ _
      walk_at "m_steps"
      obtain ⟨a, b⟩ := (bk _ _ _ F₃ N₃).give F N (List.forall_mem_append.mpr ⟨hw.sub, hw'.sub⟩) (fun _ h => h)
      rw [WS.less_yes (by omega) hs hall] at ret
      exact ret _ _ a b
end

inductive TripsAre (news : List (Addr × Obj)) : List Value → List (Int × Int × Int) → Prop
  | nil : TripsAre news [] []
  | cons {a : Addr} {x y z : Int} {t u v : Tok} {vs : List Value} {ts : List (Int × Int × Int)} : (a, tupOf [.int x t, .int y u, .int z v]) ∈ news → TripsAre news vs ts → TripsAre news (.ref a :: vs) ((x, y, z) :: ts)
theorem TripsAre.mono {a b : List (Addr × Obj)} {vs : List Value} {ts : List (Int × Int × Int)} (h : TripsAre a vs ts) (hs : ∀ p ∈ a, p ∈ b) : TripsAre b vs ts := by
  induction h with
  | nil => exact .nil
  | cons hm _ ih => exact .cons (hs _ hm) ih
theorem TripsAre.snoc {a : List (Addr × Obj)} {vs : List Value} {ts : List (Int × Int × Int)} {p : Addr} {x y z : Int} {t u v : Tok} (h : TripsAre a vs ts) (hm : (p, tupOf [.int x t, .int y u, .int z v]) ∈ a) : TripsAre a (vs ++ [.ref p]) (ts ++ [(x, y, z)]) := by
  induction h with
  | nil => exact .cons hm .nil
  | cons hm' _ ih => exact .cons hm' ih
theorem TripsAre.length {a : List (Addr × Obj)} {vs : List Value} {ts : List (Int × Int × Int)} (h : TripsAre a vs ts) : vs.length = ts.length := by
  induction h with
  | nil => rfl
  | cons _ _ ih => simp [ih]
noncomputable def WS.trips (W W' : WS) (i : Nat) : List (Int × Int × Int) := (List.range i).filterMap fun k => if W.lvl (1 + k) = W'.lvl (1 + k) then none else some ((1 + (k : Int)), W.lvl (1 + k), W'.lvl (1 + k))
theorem WS.trips_eq {W W' : WS} {i : Nat} (h : W.lvl (1 + i) = W'.lvl (1 + i)) : W.trips W' (i + 1) = W.trips W' i := by
  unfold WS.trips
  rw [List.range_succ, List.filterMap_append]
  simp [h]
theorem WS.trips_ne {W W' : WS} {i : Nat} (h : ¬ W.lvl (1 + i) = W'.lvl (1 + i)) : W.trips W' (i + 1) = W.trips W' i ++ [((1 + (i : Int)), W.lvl (1 + i), W'.lvl (1 + i))] := by
  unfold WS.trips
  rw [List.range_succ, List.filterMap_append]
  simp [h]
theorem WS.trips_len (W W' : WS) (i : Nat) : (W.trips W' i).length ≤ i := by
  unfold WS.trips
  exact Nat.le_trans (List.length_filterMap_le _ _) (by simp)
local macro_rules | `(tactic| k_all) => `(tactic| exact off1_mem (by assumption))
section
variable {w : World} {mg mb : Str → Option Value} {A : Around} {s : Shared} {Q E : Value → Shared → Prop} {h₀ : Heap} {L : Addr} {m : Str → Option Value} {news : List (Addr × Obj)}
theorem c_nw (hA : A.handled = none) (hdp : A.depth + 20 < recursionLimit) (hu : A.units + 2000 < cLine)
   (F : Fr h₀ L s.heap m) (N : News h₀ L s.heap news) (X : (hd.heap_39 w.params).In h₀) (T : TopRead vw LO mg mb h₀)
   {x dx nm ct : Addr} {W : WS} {vs : List Value} {k1 k2 k3 k4 k5 tr tn tnt tb : Tok} (hw : WsIn w.params news x dx nm ct W vs k1 k2 k3 k4 k5 tr tn tnt tb) (ok : W.Ok)
   {x' dx' nm' ct' : Addr} {W' : WS} {vs' : List Value} {k1' k2' k3' k4' k5' tr' tn' tnt' tb' : Tok} (hw' : WsIn w.params news x' dx' nm' ct' W' vs' k1' k2' k3' k4' k5' tr' tn' tnt' tb') (ok' : W'.Ok)
   (ret : ∀ l us c new h' tk, Fr h₀ L h' m → News h₀ L h' ((l, lsOf us c) :: (new ++ news)) → Apart ((l, lsOf us c) :: new) news → TripsAre new us (W.trips W' (WS.maxLong W W' + 1)) → Q (.ref l) { s with heap := h', toks := tk }) :
   wpAny (model Challenge.rw_sn0041_01.row.prog w) A (call (.ref 101) [.ref x, .ref x'] []) Q E s := by
  walk_at "m_fill"
  obtain ⟨_, dp, fr, gd, un⟩ := A; dsimp only at hA hdp hu; subst hA
  have hv := hw.i5
  have hvl := hv.length
  have ok1 := ok.l
  have hv' := hw'.i5
  have hvl' := hv'.length
  have ok1' := ok'.l
  k_dflt (refine wpAny_call ?_; refine' entK (wsNd w.params x dx nm ct W vs k1 k2 k3 k4 k5 tr tn tnt tb ++ wsNd w.params x' dx' nm' ct' W' vs' k1' k2' k3' k4' k5' tr' tn' tnt' tb') [(Str.ofString "self", .ref x), (Str.ofString "other", .ref x')] ?F ?N ?X ?T (List.forall_mem_append.mpr ⟨hw.sub, hw'.sub⟩) ?ho ?cd ?room ?kb ?loc ?_ ?c1 ?c2 ?c3 ?c4; (walk_at "m_enter"))
  intro g L' h₂ F₂ N₂ X₂ T₂ st bk
  simp only [wsNd, List.cons_append, List.nil_append] at N₂
  clear X T
  k_fold
  walk_at "m_steps"
  (rename Fr _ _ _ _ => F₃); (rename News _ _ _ _ => N₃)
  have hM : (if W'.long > W.long then W'.long else W.long) = (WS.maxLong W W' : Int) := WS.maxLong_eq W W'
  have hM2 := WS.maxLong_lt ok ok'
  rw [hM] at F₃
  (rename _ ∧ _ => l1); rename_i l hA9 hB9
  generalize hnd : wsNd w.params x dx nm ct W vs k1 k2 k3 k4 k5 tr tn tnt tb ++ wsNd w.params x' dx' nm' ct' W' vs' k1' k2' k3' k4' k5' tr' tn' tnt' tb' = nd at bk
  have hl0 : AllLt l nd := by rw [← hnd]; simp only [AllLt, wsNd, List.cons_append, List.nil_append, and_true]; omega
  refine st_cut (fun s' => ∃ (us : List Value) (c : Nat) (tz : List (Addr × Obj)) (u : Str → Option Value) (h' : Heap) (tk : Nat), s' = { s with heap := h', toks := tk } ∧ TripsAre tz us (W.trips W' (WS.maxLong W W' + 1)) ∧ Apart tz nd ∧
    Fr g L' h' (kstB u [(Str.ofString "a", Value.ref l)]) ∧ News g L' h' ((l, lsOf us c) :: (nd ++ tz))) ?_ ?_
  · clear qk ek
    refine for_open ?_
    walk_at "m_steps"
    (rename Fr _ _ _ _ => F₄); (rename News _ _ _ _ => N₄); (rename IsRange _ _ _ _ _ _ _ _ => hr)
    refine for_range (n := WS.maxLong W W' + 1) (fun i m' news => ∃ (us : List Value) (c : Nat) (tz : List (Addr × Obj)), TripsAre tz us (W.trips W' i) ∧ Apart tz nd ∧ Off1 l tz ∧ (∀ p ∈ [(Str.ofString "a", Value.ref l), (Str.ofString "self", Value.ref x), (Str.ofString "other", .ref x')], m' p.1 = some p.2) ∧ news = (l, lsOf us c) :: (nd ++ tz)) rfl hr
      (small_one (by omega) (by omega) (by omega) (by omega)) (by rw [rangeSize_nat]; omega) F₄ (show News _ _ _ ((l, lsOf [] 0) :: (nd ++ [])) by rw [← hnd]; exact Bk.drop N₄ (by kcf_all))
      ⟨[], 0, [], .nil, (fun _ _ _ h => nomatch h), trivial, by walk_at "m_frp", rfl⟩ ?_ ?_
    · clear F₄ N₄ hr
      rintro i t I oI m₁ _ h₃ tk₃ hi F₃ N₃ off ⟨us, c, tz, htr, hap, hoff, hm, rfl⟩
      have F₄ := fr_norm _ F₃ hm
      dsimp only [kstB] at F₄
      have hul := htr.length
      have hul2 := WS.trips_len W W' i
      have off0 := off
      rw [← hnd] at N₃ off
      simp only [wsNd, List.cons_append, List.nil_append] at N₃
      clear F₃ hm
      simp only [Off1, wsNd, List.cons_append, List.nil_append, and_true] at off
      have ei : (1 + (i : Int)).toNat = 1 + i := by omega
      show wpAny _ _ _ _ _ _
      k_fold
      walk_at "m_steps"
      · (rename Fr _ _ _ _ => F₉); (rename News _ _ _ _ => N₉); (rename ¬ W.lvl _ = _ => hl)
        rw [ei] at hl N₉
        rw [List.push_toArray] at N₉
        refine FEndN.intro ((l, lsOf (us ++ [.ref _]) _) :: (nd ++ (_, tupOf [.int (1 + (i : Int)) _, .int (W.lvl (1 + i)) _, .int (W'.lvl (1 + i)) _]) :: tz)) F₉ N₉ (by rw [← hnd]; kcf_all) ?_ trivial
          ⟨_, _, _, by rw [WS.trips_ne hl]; exact (htr.mono fun _ h => .tail _ h).snoc (.head _), apart_cons ?_ hap, ⟨by omega, hoff⟩, by walk_at "m_frp", rfl⟩
        · exact off1_ins off0 (by omega)
        · rw [← hnd]; simp only [AllLt, wsNd, List.cons_append, List.nil_append, and_true]; omega
      · (rename Fr _ _ _ _ => F₉); (rename News _ _ _ _ => N₉); (rename W.lvl _ = _ => hl)
        rw [ei] at hl
        exact FEndN.intro ((l, lsOf us c) :: (nd ++ tz)) F₉ N₉ (by rw [← hnd]; kcf_all) off0 trivial ⟨us, c, tz, by rw [WS.trips_eq hl]; exact htr, hap, hoff, by walk_at "m_frp", rfl⟩
    · rintro m₁ _ h₃ tk₃ F₃ N₃ ⟨us, c, tz, htr, hap, hoff, hm, rfl⟩
      exact wpAny_execs_nil ⟨rfl, us, c, tz, _, _, _, rfl, htr, hap, fr_norm _ F₃ (fun p hp => hm p (by simp only [List.mem_cons, List.not_mem_nil, or_false] at hp; simp [hp])), N₃⟩
  · rintro s' ⟨us, c, tz, u, h', tk, rfl, htr, hap, F', N'⟩
    dsimp only [kstB] at F'
    show wpAny _ _ _ _ _ _
    walk_at "m_steps"
    obtain ⟨a, b, d⟩ := (bk _ _ _ F' N').plus F N (by rw [← hnd]; exact List.forall_mem_append.mpr ⟨hw.sub, hw'.sub⟩) (fun p hp => .tail _ (List.mem_append_left _ hp)) ((l, lsOf us c) :: tz)
      (fun q hq => by
        rcases List.mem_cons.mp hq with rfl | hq
        · exact .head _
        · exact .tail _ (List.mem_append_right _ hq)) (apart_cons hl0 hap)
    exact ret l us c tz _ _ a b d htr
end

section
variable {w : World} {mg mb : Str → Option Value} {A : Around} {s : Shared} {Q E : Value → Shared → Prop} {h₀ : Heap} {L : Addr} {m : Str → Option Value} {news : List (Addr × Obj)}
theorem c_bl (hA : A.handled = none) (hdp : A.depth + 10 < recursionLimit) (hu : A.units + 1000 < cLine)
   (F : Fr h₀ L s.heap m) (N : News h₀ L s.heap news) (X : (hd.heap_39 w.params).In h₀) (T : TopRead vw LO mg mb h₀)
   {l : Addr} {vs : List Value} {c : Nat} {ns : List Int} (hl : (l, lsOf vs c) ∈ news) (hv : IntsAre vs ns) (hlen : ns.length < 2 ^ 10) (x lo hi : Int) (t1 t2 t3 : Tok)
   (h1 : 0 ≤ lo) (h2 : lo ≤ hi) (h3 : hi ≤ ns.length)
   (ret : ∀ (k : Int) t h' tk, Fr h₀ L h' m → News h₀ L h' news → lo ≤ k → k ≤ hi →
     ((∀ i j : Nat, lo ≤ i → i ≤ j → j < hi → ns.getD i 0 ≤ ns.getD j 0) → (∀ j : Nat, lo ≤ j → j < k → ns.getD j 0 < x) ∧ (∀ j : Nat, k ≤ j → j < hi → x ≤ ns.getD j 0)) → Q (.int k t) { s with heap := h', toks := tk }) :
   wpAny (model Challenge.rw_sn0041_01.row.prog w) A (call (.ref 48) [.ref l, .int x t1, .int lo t2, .int hi t3] []) Q E s := by
  walk_at "m_fill"
  obtain ⟨_, dp, fr, gd, un⟩ := A; dsimp only at hA hdp hu; subst hA
  have hvl := hv.length
  have hsub : ∀ p ∈ [(l, lsOf vs c)], p ∈ news := fun p hp => by rw [List.mem_singleton.mp hp]; exact hl
  k_dflt (refine wpAny_call ?_; refine' entK [(l, lsOf vs c)] [(Str.ofString "a", .ref l), (Str.ofString "x", .int x t1), (Str.ofString "lo", .int lo t2), (Str.ofString "hi", .int hi t3), (Str.ofString "key", .none)] ?F ?N ?X ?T hsub ?ho ?cd ?room ?kb ?loc ?_ ?c1 ?c2 ?c3 ?c4; (walk_at "m_enter"))
  intro g L' h₂ F₂ N₂ X₂ T₂ st bk
  clear X T
  k_unmd
  k_fold
  walk_at "m_steps"
  (rename Fr _ _ _ _ => F₃); (rename News _ _ _ _ => N₃)
  refine while_rule (fun n s' => ∃ (lo' hi' : Int) (t2' t3' : Tok) (u : Str → Option Value) (h' : Heap) (tk' : Nat), s' = { s with heap := h', toks := tk' } ∧ n = (hi' - lo').toNat ∧ lo ≤ lo' ∧ lo' ≤ hi' ∧ hi' ≤ hi ∧
      ((∀ i j : Nat, lo ≤ i → i ≤ j → j < hi → ns.getD i 0 ≤ ns.getD j 0) → (∀ j : Nat, lo ≤ j → j < lo' → ns.getD j 0 < x) ∧ (∀ j : Nat, hi' ≤ j → j < hi → x ≤ ns.getD j 0)) ∧
      Fr g L' h' (kstB u [(Str.ofString "a", .ref l), (Str.ofString "x", .int x t1), (Str.ofString "lo", .int lo' t2'), (Str.ofString "hi", .int hi' t3')]) ∧ News g L' h' [(l, lsOf vs c)]) (hi - lo).toNat
      ⟨lo, hi, t2, t3, _, _, _, rfl, rfl, by omega, by omega, by omega, fun _ => ⟨fun j a b => absurd a (by omega), fun j a b => absurd a (by omega)⟩, fr_norm _ F₃ (by walk_at "m_frp"), N₃⟩ ?_
  clear F₃ N₃
  rintro n s' ⟨lo', hi', t2', t3', u, h₃, tk₃, rfl, rfl, a1, a2, a3, a4, F₃, N₃⟩
  dsimp only [kstB] at F₃
  k_unmd
  k_fold
  walk_at "m_steps"
  · (rename Fr _ _ _ _ => F₉); (rename News _ _ _ _ => N₉); (rename lo' < hi' => b1); (rename _ < x => b2)
    have hm : (lo' + hi').fdiv 2 = (lo' + hi') / 2 := Int.fdiv_eq_ediv_of_nonneg _ (by decide)
    rw [hm] at b2 F₉
    refine ⟨_, ?_, (lo' + hi') / 2 + 1, hi', _, _, _, _, _, rfl, rfl, by omega, by omega, a3, fun hs => ⟨fun j a b => ?_, (a4 hs).2⟩, fr_norm _ F₉ (by walk_at "m_frp"), N₉⟩
    · omega
    · by_cases hj : (j : Int) < lo'
      · exact (a4 hs).1 j a hj
      · have := hs j ((lo' + hi') / 2).toNat (by omega) (by omega) (by omega)
        omega
  · (rename Fr _ _ _ _ => F₉); (rename News _ _ _ _ => N₉); (rename lo' < hi' => b1); (rename ¬ _ < x => b2)
    have hm : (lo' + hi').fdiv 2 = (lo' + hi') / 2 := Int.fdiv_eq_ediv_of_nonneg _ (by decide)
    rw [hm] at b2 F₉
    refine ⟨_, ?_, lo', (lo' + hi') / 2, _, _, _, _, _, rfl, rfl, by omega, by omega, by omega, fun hs => ⟨(a4 hs).1, fun j a b => ?_⟩, fr_norm _ F₉ (by walk_at "m_frp"), N₉⟩
    · omega
    · have := hs ((lo' + hi') / 2).toNat j (by omega) (by omega) (by omega)
      omega
  · (rename Fr _ _ _ _ => F₉); (rename News _ _ _ _ => N₉); (rename ¬ lo' < hi' => b1)
    obtain ⟨a, b⟩ := (bk _ _ _ F₉ N₉).give F N hsub (fun _ h => h)
    have e : lo' = hi' := by omega
    exact ret lo' _ _ _ a b (by omega) (by omega) fun hs => ⟨(a4 hs).1, e ▸ (a4 hs).2⟩
theorem c_br (hA : A.handled = none) (hdp : A.depth + 10 < recursionLimit) (hu : A.units + 1000 < cLine)
   (F : Fr h₀ L s.heap m) (N : News h₀ L s.heap news) (X : (hd.heap_39 w.params).In h₀) (T : TopRead vw LO mg mb h₀)
   {l : Addr} {vs : List Value} {c : Nat} {ns : List Int} (hl : (l, lsOf vs c) ∈ news) (hv : IntsAre vs ns) (hlen : ns.length < 2 ^ 10) (x lo : Int) (t1 t2 : Tok)
   (h1 : 0 ≤ lo) (h2 : lo ≤ ns.length)
   (ret : ∀ (k : Int) t h' tk, Fr h₀ L h' m → News h₀ L h' news → lo ≤ k → k ≤ (ns.length : Int) →
     ((∀ i j : Nat, lo ≤ i → i ≤ j → j < (ns.length : Int) → ns.getD i 0 ≤ ns.getD j 0) → (∀ j : Nat, lo ≤ j → j < k → ns.getD j 0 ≤ x) ∧ (∀ j : Nat, k ≤ j → j < (ns.length : Int) → x < ns.getD j 0)) → Q (.int k t) { s with heap := h', toks := tk }) :
   wpAny (model Challenge.rw_sn0041_01.row.prog w) A (call (.ref 39) [.ref l, .int x t1, .int lo t2, .none] []) Q E s := by
  walk_at "m_fill"
  obtain ⟨_, dp, fr, gd, un⟩ := A; dsimp only at hA hdp hu; subst hA
  have hvl := hv.length
  have hsub : ∀ p ∈ [(l, lsOf vs c)], p ∈ news := fun p hp => by rw [List.mem_singleton.mp hp]; exact hl
  k_dflt (refine wpAny_call ?_; refine' entK [(l, lsOf vs c)] [(Str.ofString "a", .ref l), (Str.ofString "x", .int x t1), (Str.ofString "lo", .int lo t2), (Str.ofString "hi", .none), (Str.ofString "key", .none)] ?F ?N ?X ?T hsub ?ho ?cd ?room ?kb ?loc ?_ ?c1 ?c2 ?c3 ?c4; (walk_at "m_enter"))
  intro g L' h₂ F₂ N₂ X₂ T₂ st bk
  clear X T
  k_unmd
  k_fold
  walk_at "m_steps"
  (rename Fr _ _ _ _ => F₃); (rename News _ _ _ _ => N₃)
  refine while_rule (fun n s' => ∃ (lo' hi' : Int) (t2' t3' : Tok) (u : Str → Option Value) (h' : Heap) (tk' : Nat), s' = { s with heap := h', toks := tk' } ∧ n = (hi' - lo').toNat ∧ lo ≤ lo' ∧ lo' ≤ hi' ∧ hi' ≤ (ns.length : Int) ∧
      ((∀ i j : Nat, lo ≤ i → i ≤ j → j < (ns.length : Int) → ns.getD i 0 ≤ ns.getD j 0) → (∀ j : Nat, lo ≤ j → j < lo' → ns.getD j 0 ≤ x) ∧ (∀ j : Nat, hi' ≤ j → j < (ns.length : Int) → x < ns.getD j 0)) ∧
      Fr g L' h' (kstB u [(Str.ofString "a", .ref l), (Str.ofString "x", .int x t1), (Str.ofString "lo", .int lo' t2'), (Str.ofString "hi", .int hi' t3')]) ∧ News g L' h' [(l, lsOf vs c)]) ((ns.length : Int) - lo).toNat
      ⟨lo, (ns.length : Int), t2, _, _, _, _, rfl, rfl, by omega, by omega, by omega, fun _ => ⟨fun j a b => absurd a (by omega), fun j a b => absurd a (by omega)⟩, fr_norm _ F₃ (by walk_at "m_frp"), N₃⟩ ?_
  clear F₃ N₃
  rintro n s' ⟨lo', hi', t2', t3', u, h₃, tk₃, rfl, rfl, a1, a2, a3, a4, F₃, N₃⟩
  dsimp only [kstB] at F₃
  k_unmd
  k_fold
  walk_at "m_steps"
  · (rename Fr _ _ _ _ => F₉); (rename News _ _ _ _ => N₉); (rename lo' < hi' => b1); (rename x < _ => b2)
    have hm : (lo' + hi').fdiv 2 = (lo' + hi') / 2 := Int.fdiv_eq_ediv_of_nonneg _ (by decide)
    rw [hm] at b2 F₉
    refine ⟨_, ?_, lo', (lo' + hi') / 2, _, _, _, _, _, rfl, rfl, by omega, by omega, by omega, fun hs => ⟨(a4 hs).1, fun j a b => ?_⟩, fr_norm _ F₉ (by walk_at "m_frp"), N₉⟩
    · omega
    · have := hs ((lo' + hi') / 2).toNat j (by omega) (by omega) (by omega)
      omega
  · (rename Fr _ _ _ _ => F₉); (rename News _ _ _ _ => N₉); (rename lo' < hi' => b1); (rename ¬ x < _ => b2)
    have hm : (lo' + hi').fdiv 2 = (lo' + hi') / 2 := Int.fdiv_eq_ediv_of_nonneg _ (by decide)
    rw [hm] at b2 F₉
    refine ⟨_, ?_, (lo' + hi') / 2 + 1, hi', _, _, _, _, _, rfl, rfl, by omega, by omega, a3, fun hs => ⟨fun j a b => ?_, (a4 hs).2⟩, fr_norm _ F₉ (by walk_at "m_frp"), N₉⟩
    · omega
    · by_cases hj : (j : Int) < lo'
      · exact (a4 hs).1 j a hj
      · have := hs j ((lo' + hi') / 2).toNat (by omega) (by omega) (by omega)
        omega
  · (rename Fr _ _ _ _ => F₉); (rename News _ _ _ _ => N₉); (rename ¬ lo' < hi' => b1)
    obtain ⟨a, b⟩ := (bk _ _ _ F₉ N₉).give F N hsub (fun _ h => h)
    have e : lo' = hi' := by omega
    exact ret lo' _ _ _ a b (by omega) (by omega) fun hs => ⟨(a4 hs).1, e ▸ (a4 hs).2⟩
end

local macro_rules | `(tactic| walk_at "call ref") => `(tactic| (k_here; k_dflt (refine' c_br ?hA ?hd ?hu ?F ?N ?X ?T ?hl ?hv ?hz _ _ _ _ ?h1 ?h2 ?_; (case hA => rfl); (case F => k_asm); (case N => k_asm); (case X => k_asm); (case T => k_asm); (case hl => k_mem); (case hv => assumption); (case hz => assumption); (case hd => walk_at "m_room"); (case hu => (simp only [units_deeper] at *; omega)); (case h1 => omega); (case h2 => omega); k_whole; intro k' t' h' tk' F' N' kb1 kb2 kb3; (try ground_anew F'))))
section
variable {w : World} {mg mb : Str → Option Value} {A : Around} {s : Shared} {Q E : Value → Shared → Prop} {h₀ : Heap} {L : Addr} {m : Str → Option Value} {news : List (Addr × Obj)}
theorem c_ins (hA : A.handled = none) (hdp : A.depth + 20 < recursionLimit) (hu : A.units + 2000 < cLine)
   (F : Fr h₀ L s.heap m) (N : News h₀ L s.heap news) (X : (hd.heap_39 w.params).In h₀) (T : TopRead vw LO mg mb h₀)
   {l : Addr} {vs : List Value} {c : Nat} {ns : List Int} (hl : (l, lsOf vs c) ∈ news) (hv : IntsAre vs ns) (hlen : ns.length < 2 ^ 10) (x : Int) (t1 : Tok)
   (ret : ∀ (k : Nat) h' tk, Fr h₀ L h' m → (∀ news', Upd l (lsOf vs c) (lsOf (vs.take k ++ .int x t1 :: vs.drop k) (c + 1)) news news' → News h₀ L h' news') → k ≤ ns.length →
     ((∀ i j : Nat, i ≤ j → j < ns.length → ns.getD i 0 ≤ ns.getD j 0) → (∀ j : Nat, j < k → ns.getD j 0 ≤ x) ∧ (∀ j : Nat, k ≤ j → j < ns.length → x < ns.getD j 0)) → Q .none { s with heap := h', toks := tk }) :
   wpAny (model Challenge.rw_sn0041_01.row.prog w) A (call (.ref 30) [.ref l, .int x t1] []) Q E s := by
  walk_at "m_fill"
  obtain ⟨_, dp, fr, gd, un⟩ := A; dsimp only at hA hdp hu; subst hA
  have hvl := hv.length
  have hsub : ∀ p ∈ [(l, lsOf vs c)], p ∈ news := fun p hp => by rw [List.mem_singleton.mp hp]; exact hl
  k_dflt (refine wpAny_call ?_; refine' entK [(l, lsOf vs c)] [(Str.ofString "a", .ref l), (Str.ofString "x", .int x t1), (Str.ofString "lo", .int 0 196), (Str.ofString "hi", .none), (Str.ofString "key", .none)] ?F ?N ?X ?T hsub ?ho ?cd ?room ?kb ?loc ?_ ?c1 ?c2 ?c3 ?c4; (walk_at "m_enter"))
  intro g L' h₂ F₂ N₂ X₂ T₂ st bk
  clear X T
  k_unmd
  k_fold
  walk_at "m_steps"
  (rename Fr _ _ _ _ => F₉); (rename News _ _ _ _ => N₉); (rename (_ → _ ∧ _) => kb3); (rename _ ≤ (ns.length : Int) => kb2); (rename (0 : Int) ≤ _ => kb1); (rename Int => k)
  refine kl_insert (l := vs.take k.toNat ++ .int x t1 :: vs.drop k.toNat) F₉ N₉ (by unfold Builtin.List.listFitsIndex; simp; omega) ?_ (Upd.head fun _ h => nomatch h) (by rw [List.toList_toArray, sizeLine_eq]; omega) ?_
  · unfold kl_ins
    simp only [List.toList_toArray]
    rw [if_neg (by omega), Nat.min_eq_left (by omega)]
  · intro h₇ F₇ N₇
    clear F₉ N₉
    walk_at "m_steps"
    (rename Fr _ _ _ _ => F₉); (rename News _ _ _ _ => N₉)
    have B := bk _ _ _ F₉ N₉
    exact ret k.toNat _ _ (B.fr F N hsub) (fun news' U => B.put N U (.head _)) (by omega) fun hs => ⟨fun j hj => (kb3 fun i j a b c => hs i j b (by omega)).1 j (by omega) (by omega), fun j a b => (kb3 fun i j a b c => hs i j b (by omega)).2 j (by omega) (by omega)⟩
end

noncomputable def cutL (ss : List Int) (e : Int) (rs : List Int) : List Int := ss.map fun k => rs.getD ((k - e - 1).fmod 6).toNat 0
section
variable {w : World} {mg mb : Str → Option Value} {A : Around} {s : Shared} {Q E : Value → Shared → Prop} {h₀ : Heap} {L : Addr} {m : Str → Option Value} {news : List (Addr × Obj)}
theorem c_cut (hA : A.handled = none) (hdp : A.depth + 10 < recursionLimit) (hu : A.units + 1000 < cLine)
   (F : Fr h₀ L s.heap m) (N : News h₀ L s.heap news) (X : (hd.heap_39 w.params).In h₀) (T : TopRead vw LO mg mb h₀)
   {sl rl : Addr} {svs rvs : List Value} {c1 c2 : Nat} {ss rs : List Int} (hs : (sl, lsOf svs c1) ∈ news) (hr : (rl, lsOf rvs c2) ∈ news) (hsv : IntsAre svs ss) (hrv : IntsAre rvs rs) (hsl : ss.length < 2 ^ 10) (hrl : rs.length = 6) (e : Int) (te : Tok)
   (ret : ∀ D ys c h' tk, Fr h₀ L h' m → News h₀ L h' ((D, lsOf ys c) :: news) → Apart [(D, lsOf ys c)] news → IntsAre ys (cutL ss e rs) → Q (.ref D) { s with heap := h', toks := tk }) :
   wpAny (model Challenge.rw_sn0041_01.row.prog w) A (call (.ref 134) [.ref sl, .int e te, .ref rl] []) Q E s := by
  walk_at "m_fill"
  obtain ⟨_, dp, fr, gd, un⟩ := A; dsimp only at hA hdp hu; subst hA
  have hsvl := hsv.length
  have hrvl := hrv.length
  have hsub : ∀ p ∈ [(sl, lsOf svs c1), (rl, lsOf rvs c2)], p ∈ news := List.forall_mem_cons.mpr ⟨hs, List.forall_mem_cons.mpr ⟨hr, fun _ h => nomatch h⟩⟩
  k_dflt (refine wpAny_call ?_; refine' entKC [(sl, lsOf svs c1), (rl, lsOf rvs c2)] [(Str.ofString "spots", .ref sl), (Str.ofString "edge", .int e te), (Str.ofString "runs", .ref rl)] ?F ?N ?X ?T hsub ?ho ?cd ?room ?kb ?kind ?dup ?_ ?c2 ?c3 ?c4; (walk_at "m_enterC"))
  intro g L' h₂ tk₂ cells F₂ N₂ Y₂ X₂ T₂ st bk lt₂
  clear X T
  k_cells Y₂
  rename_i o1 o2 d1 d2
  have F₃ := fr_norm [(Str.ofString "spots", Value.ref sl)] F₂ (by walk_at "m_frp")
  dsimp only [kstB] at F₃
  replace d1 : o1.data = .cell (some (.ref rl)) := d1
  replace d2 : o2.data = .cell (some (.int e te)) := d2
  have n1 := lt₂ (sl, lsOf svs c1) (.head _)
  have n2 := lt₂ (rl, lsOf rvs c2) (.tail _ (.head _))
  k_lt2 n1
  k_lt2 n2
  dsimp only at n1 n2
  simp only [List.cons_append, List.nil_append] at N₂
  clear F₂ lt₂
  k_unmd
  k_fold
  walk_at "m_steps"
  walk_at "m_comp"
  walk_at "m_steps"
  (rename Fr _ _ _ _ => F₄); (rename News _ _ _ _ => N₄)
  refine CompSrc.ledger rfl F₄ N₄ (by k_mem) (by rw [List.size_toArray, sizeLine_eq]; omega) fun g' => ?_
  refine kcf_list (fun k => rs.getD ((k - e - 1).fmod 6).toNat 0) hsv (fun k' t' I' oI' C' oC' D' m' ys' h' tk' E' hk' hC' hx' F' N' off' ne' hMark' => ?_) ?_
  · simp only [LCg.Off3, and_true] at off'
    clear F₄ N₄
    have hlo := fmod_lo (k' - e - 1) (n := 6) (by decide)
    have hhi := fmod_hi (k' - e - 1) (n := 6) (by decide)
    k_unmd
    k_fold
    walk_at "m_steps"
    exact CompEnd.intro F' N' [(L' + 1 + 1, o1), (L' + 1, o2), (sl, lsOf svs c1), (rl, lsOf rvs c2)] (fun _ h => h) (by simpa only [LCg.Off3, and_true] using off') (.inr ⟨_, by k_mem, rfl, _, rfl⟩) ⟨rfl, _, rfl⟩
  · unfold KPfDone
    intro ys hys D h₅ tk₅ F₅ N₅ o5
    clear F₄ N₄
    obtain ⟨a, b, c⟩ := (bk _ _ _ F₅ N₅).plus F N hsub (fun p hp => .tail _ (.tail _ (.tail _ hp))) [(D, lsOf ys ys.length)] (fun q hq => by rw [List.mem_singleton.mp hq]; exact .head _)
      (fun p hp q hq => by
        rw [List.mem_singleton.mp hq]
        exact off1_mem o5 p (.tail _ (.tail _ hp)))
    exact ret D ys _ _ _ a b c hys
end

noncomputable def tabRun (k : Int) : Str := Txt.mul (Str.ofString " ") k ++ Str.ofString "\t"
noncomputable def leadStr (rs : List Int) (b : Int) : Str := (Txt.join (Str.ofString "") (rs.map tabRun) ++ Txt.mul (Str.ofString " ") b) ++ Str.ofString "x\t"
theorem mul_sp (k : Int) : (Txt.mul (Str.ofString " ") k).cps.toList = List.replicate k.toNat 32 := by
  rw [show Str.ofString " " = ⟨#[32]⟩ from by decide +kernel]
  exact mul_one_list 32 k
theorem tabRun_cps (k : Int) : (tabRun k).cps.toList = List.replicate k.toNat 32 ++ [9] := by
  unfold tabRun
  rw [Str.cps_append, Array.toList_append, mul_sp, show Str.ofString "\t" = ⟨#[9]⟩ from by decide +kernel]
theorem join_cps : ∀ l : List Str, (Str.join (Str.ofString "") l).cps.toList = l.flatMap fun x => x.cps.toList
  | [] => rfl
  | [x] => by simp [Str.join]
  | x :: y :: r => by
    have ih := join_cps (y :: r)
    have e : (Str.ofString "").cps.toList = [] := by decide +kernel
    simp only [Str.join, Str.cps_append, Array.toList_append, ih, e, List.flatMap_cons, List.append_nil]
theorem txt_join_cps (l : List Str) : (Txt.join (Str.ofString "") l).cps.toList = l.flatMap fun x => x.cps.toList := by
  show (Builtin.Str.glued (Str.ofString "") l).cps.toList = _
  rw [StrLaws.glued_eq_join]
  exact join_cps l
theorem lead_cps (rs : List Int) (b : Int) : (leadStr rs b).cps.toList = (rs.flatMap fun k => List.replicate k.toNat 32 ++ [9]) ++ List.replicate b.toNat 32 ++ [120, 9] := by
  unfold leadStr
  rw [Str.cps_append, Str.cps_append, Array.toList_append, Array.toList_append, txt_join_cps, mul_sp, List.flatMap_map, show Str.ofString "x\t" = ⟨#[120, 9]⟩ from by decide +kernel]
  simp only [tabRun_cps]
theorem str_len (x : Str) : x.length = x.cps.toList.length := by unfold Str.length; simp
theorem tabs_len : ∀ rs : List Int, (∀ r ∈ rs, 0 ≤ r ∧ r < 2 ^ 4) → ((rs.map tabRun).map (·.length)).sum ≤ 16 * rs.length
  | [], _ => Nat.le_refl _
  | r :: rs, h => by
    have ih := tabs_len rs fun x hx => h x (.tail _ hx)
    have := h r (.head _)
    simp only [List.map_cons, List.sum_cons, List.length_cons]
    have e : (tabRun r).length = r.toNat + 1 := by rw [str_len, tabRun_cps]; simp
    omega
theorem join_len (l : List Str) : (Txt.join (Str.ofString "") l).length = (l.map (·.length)).sum := by
  rw [str_len, txt_join_cps, List.length_flatMap]
  congr 1
section
variable {w : World} {mg mb : Str → Option Value} {A : Around} {s : Shared} {Q E : Value → Shared → Prop} {h₀ : Heap} {L : Addr} {m : Str → Option Value} {news : List (Addr × Obj)}
theorem c_lead (hA : A.handled = none) (hdp : A.depth + 20 < recursionLimit) (hu : A.units + 2000 < cLine)
   (F : Fr h₀ L s.heap m) (N : News h₀ L s.heap news) (X : (hd.heap_39 w.params).In h₀) (T : TopRead vw LO mg mb h₀)
   {rl : Addr} {rvs : List Value} {c2 : Nat} {rs : List Int} (hr : (rl, lsOf rvs c2) ∈ news) (hrv : IntsAre rvs rs) (hrl : rs.length < 2 ^ 4) (hrb : ∀ r ∈ rs, 0 ≤ r ∧ r < 2 ^ 4) (b : Int) (tb : Tok) (hb : 0 ≤ b ∧ b < 2 ^ 4)
   (ret : ∀ x new h' tk, Fr h₀ L h' m → News h₀ L h' (new ++ news) → Apart new news → IsWs w.params new x (wsOf (leadStr rs b)) → Q (.ref x) { s with heap := h', toks := tk }) :
   wpAny (model Challenge.rw_sn0041_01.row.prog w) A (call (.ref 139) [.ref rl, .int b tb] []) Q E s := by
  walk_at "m_fill"
  obtain ⟨_, dp, fr, gd, un⟩ := A; dsimp only at hA hdp hu; subst hA
  have hrvl := hrv.length
  have hsub : ∀ p ∈ [(rl, lsOf rvs c2)], p ∈ news := List.forall_mem_cons.mpr ⟨hr, fun _ h => nomatch h⟩
  k_dflt (refine wpAny_call ?_; refine' entK [(rl, lsOf rvs c2)] [(Str.ofString "runs", .ref rl), (Str.ofString "blanks", .int b tb)] ?F ?N ?X ?T hsub ?ho ?cd ?room ?kb ?loc ?_ ?c1 ?c2 ?c3 ?c4; (walk_at "m_enter"))
  intro g L' h₂ F₂ N₂ X₂ T₂ st bk
  clear X T
  k_unmd
  k_fold
  walk_at "m_steps"
  walk_at "m_comp"
  walk_at "m_steps"
  refine CompSrc.ledger rfl F₂ N₂ (by k_mem) (by rw [List.size_toArray, sizeLine_eq]; omega) fun g' => ?_
  refine comp_rest (fun i ys news => news = [(rl, lsOf rvs c2)] ∧ StrsAre ys ((rs.take i).map tabRun)) ?_ ?_ _ _ ⟨rfl, .nil⟩
  · rintro i v I oI C oC D m₂ ys _ h tk E' hi hv ⟨rfl, hys⟩ hC hx F₃ N₃ off ne
    simp only [LCg.Off3, and_true] at off
    obtain ⟨k, t, rfl, hk⟩ := IntsAre.at hrv i v (by simpa using hv)
    have hkb := hrb k (List.mem_of_getElem? hk)
    k_unmd
    k_fold
    walk_at "m_steps"
    refine CompEnd.intro F₃ N₃ [(rl, lsOf rvs c2)] (fun _ h => h) (by simpa only [LCg.Off3, and_true] using off) (.inr ⟨_, by k_mem, rfl, _, rfl⟩) ⟨rfl, ?_⟩
    rw [List.take_add_one, hk]
    rw [List.map_append]
    exact StrsAre.append' hys (.cons _ _ .nil)
  · rintro ys _ ⟨rfl, hys⟩ D h₅ tk₅ F₅ N₅ o5
    rw [List.take_of_length_le (by rw [List.size_toArray]; omega)] at hys
    simp only [LCg.Off1, and_true] at o5
    clear F₂ N₂
    k_unmd
    k_fold
    walk_at "m_steps"
    have hj1 := tabs_len rs hrb
    have hj2 := join_len (rs.map tabRun)
    refine join_list (News.isList N₅ (.head _)) (by rw [List.toList_toArray]; exact hys) (by rw [show (Str.ofString "").length = 0 from by decide]; omega) fun t6 k6 => ?_
    have hj3 : (Txt.join (Str.ofString "") (rs.map tabRun)).length ≤ 256 := by omega
    clear hj1 hj2
    walk_at "m_steps"
    have e2 : (Str.ofString "x\t").length = 2 := by decide
    refine c_ws rfl (by walk_at "m_room") (by simp only [units_deeper] at *; omega) F₅ N₅ X₂ T₂ (leadStr rs b) _ (by unfold leadStr; omega) (fun x new h₉ tk₉ F₉ N₉ ap iw => ?_)
    obtain ⟨a, b', c⟩ := (bk _ _ _ F₉ N₉).plus F N hsub (fun p hp => List.mem_append_right _ (.tail _ hp)) new (fun q hq => List.mem_append_left _ hq) (fun p hp q hq => ap p (.tail _ hp) q hq)
    exact ret x new _ _ a b' c iw
end

noncomputable def lawWord (p : Int) : Str := if p < 10 then [Str.ofString "OPTIMIZED", Str.ofString "NEWLOCALS", Str.ofString "VARARGS", Str.ofString "VARKEYWORDS", Str.ofString "NESTED", Str.ofString "GENERATOR", Str.ofString "NOFREE", Str.ofString "COROUTINE", Str.ofString "ITERABLE_COROUTINE", Str.ofString "ASYNC_GENERATOR"].getD p.toNat Str.empty
  else (Str.ofString "0x" ++ Txt.item (Str.ofString "1248") (p.fmod 4)) ++ Txt.mul (Str.ofString "0") (p.fdiv 4)
section
variable {w : World} {mg mb : Str → Option Value} {A : Around} {s : Shared} {Q E : Value → Shared → Prop} {h₀ : Heap} {L : Addr} {m : Str → Option Value} {news : List (Addr × Obj)}
theorem c_word (hA : A.handled = none) (hdp : A.depth + 10 < recursionLimit) (hu : A.units + 1000 < cLine)
   (F : Fr h₀ L s.heap m) (N : News h₀ L s.heap news) (X : (hd.heap_39 w.params).In h₀) (T : TopRead vw LO mg mb h₀) (p : Int) (tp : Tok) (hp1 : 0 ≤ p) (hp2 : p < 32)
   (ret : ∀ t h' tk, Fr h₀ L h' m → News h₀ L h' news → Q (.str (lawWord p) t) { s with heap := h', toks := tk }) :
   wpAny (model Challenge.rw_sn0041_01.row.prog w) A (call (.ref 129) [.int p tp] []) Q E s := by
  walk_at "m_fill"
  obtain ⟨_, dp, fr, gd, un⟩ := A; dsimp only at hA hdp hu; subst hA
  k_dflt (refine wpAny_call ?_; refine' entK [] [(Str.ofString "place", .int p tp)] ?F ?N ?X ?T (fun _ h => nomatch h) ?ho ?cd ?room ?kb ?loc ?_ ?c1 ?c2 ?c3 ?c4; (walk_at "m_enter"))
  intro g L' h₂ F₂ N₂ X₂ T₂ st bk
  clear X T
  have hq1 : 0 ≤ p.fdiv 4 := by rw [Int.fdiv_eq_ediv_of_nonneg _ (by decide)]; omega
  have hq2 : p.fdiv 4 ≤ 8 := by rw [Int.fdiv_eq_ediv_of_nonneg _ (by decide)]; omega
  k_unmd
  k_fold
  walk_at "m_steps"
  · (rename Fr _ _ _ _ => F₉); (rename News _ _ _ _ => N₉); (rename p < 10 => h1)
    obtain ⟨a, b⟩ := (bk _ _ _ F₉ N₉).give F N (fun _ h => nomatch h) (fun _ h => nomatch h)
    rw [lawWord, if_pos h1] at ret
    exact ret _ _ _ a b
  · (rename ¬ p < 10 => h1)
    have ab := (bk _ _ _ F₂ N₂).give F N (fun _ h => nomatch h) (fun _ h => nomatch h)
    rw [lawWord, if_neg h1] at ret
    exact ret _ _ _ ab.1 ab.2
end

noncomputable def hexS (f : Nat) : Str := PySem.baseText "0x" 16 (f : Int)
noncomputable def fWords (f : Nat) : Nat → List Str
  | 0 => []
  | n + 1 => if f / 2 ^ n % 2 = 1 then fWords f n ++ [lawWord n] else fWords f n
noncomputable def pfOut (f : Nat) : List Str := if f / 2 ^ 32 = 0 ∧ f ≠ 0 then fWords f 32 else fWords f 32 ++ [hexS (f / 2 ^ 32 * 2 ^ 32)]
theorem hex_fit : ∀ i, i < 32 → (PySem.baseText "0x" 16 ((2 ^ i : Nat) : Int)).length ≤ 32 := by decide +kernel
theorem hex_fit2 : ∀ k, k < 16 → (hexS (k * 2 ^ 32)).length ≤ 32 := by decide +kernel
noncomputable def flagTab : List (Int × PyData) := [(1, PyData.str { cps := #[79, 80, 84, 73, 77, 73, 90, 69, 68] }),
      (2, PyData.str { cps := #[78, 69, 87, 76, 79, 67, 65, 76, 83] }),
      (4, PyData.str { cps := #[86, 65, 82, 65, 82, 71, 83] }),
      (8, PyData.str { cps := #[86, 65, 82, 75, 69, 89, 87, 79, 82, 68, 83] }),
      (16, PyData.str { cps := #[78, 69, 83, 84, 69, 68] }),
      (32, PyData.str { cps := #[71, 69, 78, 69, 82, 65, 84, 79, 82] }),
      (64, PyData.str { cps := #[78, 79, 70, 82, 69, 69] }),
      (128, PyData.str { cps := #[67, 79, 82, 79, 85, 84, 73, 78, 69] }),
      (256, PyData.str { cps := #[73, 84, 69, 82, 65, 66, 76, 69, 95, 67, 79, 82, 79, 85, 84, 73, 78, 69] }),
      (512, PyData.str { cps := #[65, 83, 89, 78, 67, 95, 71, 69, 78, 69, 82, 65, 84, 79, 82] })]
noncomputable def datStr : PyData → Option Str
  | .str x => some x
  | _ => none
theorem flag_word : ∀ i : Nat, i < 32 → datStr ((KTD.datumAt (((2 ^ i : Nat) : Int)) flagTab).getD (.str (PySem.baseText "0x" 16 ((2 ^ i : Nat) : Int)))) = some (lawWord i) := by decide +kernel
theorem word_fit : ∀ i : Nat, i < 32 → (lawWord i).length ≤ 32 := by decide +kernel
theorem datStr_some {d : PyData} {x : Str} (h : datStr d = some x) : d = .str x := by
  cases d <;> simp_all [datStr]
theorem fWords_le (f : Nat) : ∀ n, n ≤ 32 → (fWords f n).length ≤ n ∧ ((fWords f n).map (·.length)).sum ≤ n * 32
  | 0, _ => ⟨Nat.le_refl _, Nat.le_refl _⟩
  | n + 1, h => by
    have ih := fWords_le f n (by omega)
    have w := word_fit n (by omega)
    unfold fWords
    split
    · simp only [List.length_append, List.map_append, List.sum_append, List.length_singleton, List.map_cons, List.map_nil, List.sum_cons, List.sum_nil]
      omega
    · omega
theorem fWords_zero (f : Nat) : ∀ n k, f / 2 ^ n = 0 → fWords f (n + k) = fWords f n
  | n, 0, _ => rfl
  | n, k + 1, h => by
    have z : f / 2 ^ (n + k) = 0 := by rw [Nat.pow_add, ← Nat.div_div_eq_div_mul, h, Nat.zero_div]
    show (if f / 2 ^ (n + k) % 2 = 1 then fWords f (n + k) ++ [lawWord (n + k : Nat)] else fWords f (n + k)) = _
    rw [z, if_neg (by omega), fWords_zero f n k h]
theorem pfOut_brk {f i : Nat} (hi : i < 32) (ho : f / 2 ^ i % 2 = 1) (hz : f / 2 ^ (i + 1) = 0) : fWords f i ++ [lawWord i] = pfOut f := by
  have h0 : f ≠ 0 := by rintro rfl; simp at ho
  have h32 : f / 2 ^ 32 = 0 := by
    rw [show (2 : Nat) ^ 32 = 2 ^ (i + 1) * 2 ^ (31 - i) from by rw [← Nat.pow_add]; congr 1; omega, ← Nat.div_div_eq_div_mul, hz, Nat.zero_div]
  rw [pfOut, if_pos ⟨h32, h0⟩]
  have e := fWords_zero f (i + 1) (31 - i) hz
  rw [show i + 1 + (31 - i) = 32 by omega] at e
  rw [e]
  show _ = if f / 2 ^ i % 2 = 1 then fWords f i ++ [lawWord i] else fWords f i
  rw [if_pos ho]
theorem and_pow (q i : Nat) : q * 2 ^ i &&& 2 ^ i = q % 2 * 2 ^ i := Nat.eq_of_testBit_eq fun j => by
  rw [Nat.testBit_and, Nat.testBit_mul_two_pow, Nat.testBit_mul_two_pow, Nat.testBit_two_pow]
  by_cases h : i = j
  · subst h; simp [Nat.testBit_zero]
  · rw [decide_eq_false h, Bool.and_false]
    by_cases h2 : i ≤ j
    · have e := Nat.testBit_mod_two_pow q 1 (j - i)
      rw [Nat.pow_one] at e
      rw [e, decide_eq_false (show ¬ j - i < 1 by omega)]
      simp
    · rw [decide_eq_false h2]; rfl
theorem bit_at (q i : Nat) : Builtin.bitAnd ((q * 2 ^ i : Nat) : Int) ((2 ^ i : Nat) : Int) = ((q % 2 * 2 ^ i : Nat) : Int) := by
  rw [bitAnd_pp (Int.natCast_nonneg _) (Int.natCast_nonneg _), Int.toNat_natCast, Int.toNat_natCast, and_pow]
theorem pow_int (i : Nat) : (1 * 2 ^ (0 + (i : Int)).toNat : Int) = ((2 ^ i : Nat) : Int) := by
  rw [Int.zero_add, Int.toNat_natCast, Int.one_mul]; simp
theorem half_step (f i : Nat) : f / 2 ^ i * 2 ^ i = f / 2 ^ (i + 1) * 2 ^ (i + 1) + f / 2 ^ i % 2 * 2 ^ i := by
  have e : f / 2 ^ (i + 1) = f / 2 ^ i / 2 := by rw [Nat.pow_succ, Nat.div_div_eq_div_mul]
  have d := Nat.div_add_mod (f / 2 ^ i) 2
  rw [e, Nat.pow_succ]
  generalize f / 2 ^ i = q at *
  conv => lhs; rw [← d]
  rw [Nat.add_mul]
  congr 1
  rw [Nat.mul_comm 2, Nat.mul_assoc, Nat.mul_comm 2]
theorem each_word {h : Heap} {P : Value → Prop} {k : Int} {x y : Str} (hP : ∀ t, P (.str x t)) : ∀ {D : List (Int × PyData)}, datStr ((KTD.datumAt k D).getD (.str y)) = some x → KTD.Each h k P (KTD.Opened h P (.flat (.str y))) (KTD.asDat D)
  | [], e => by cases datStr_some e; exact hP
  | (i, d) :: D, e => by
    show if decide (k = i) = true then KTD.Opened h P (.flat d) else KTD.Each h k P _ (KTD.asDat D)
    have e' : datStr ((if decide (k = i) = true then some d else KTD.datumAt k D).getD (.str y)) = some x := e
    split
    · rename_i c
      rw [if_pos c] at e'
      cases datStr_some (d := d) e'
      exact hP
    · rename_i c
      rw [if_neg c] at e'
      exact each_word hP e'
theorem pf_done {f : Nat} (hf : f < 2 ^ 36) {us : List Value} {t : Tok} (hb : ¬ (f / 2 ^ 32 = 0 ∧ f ≠ 0)) (h : StrsAre us (fWords f 32)) : StrsAre (us ++ [.str (hexS (f / 2 ^ 32 * 2 ^ 32)) t]) (pfOut f) := by
  rw [pfOut, if_neg hb]
  exact strsAre_append h (.cons _ _ .nil)
theorem hexS_le {f : Nat} (hf : f < 2 ^ 36) : (hexS (f / 2 ^ 32 * 2 ^ 32)).length ≤ 32 := by
  have h : f / 2 ^ 32 < 16 := by omega
  generalize f / 2 ^ 32 = k at h
  exact hex_fit2 k h
theorem out_le (W : List Str) (H : Str) (a : W.length ≤ 32 ∧ (W.map (·.length)).sum ≤ 1024) (b : H.length ≤ 32) : (W ++ [H]).length ≤ 33 ∧ ((W ++ [H]).map (·.length)).sum ≤ 1056 := by
  simp only [List.length_append, List.map_append, List.sum_append, List.length_singleton, List.map_cons, List.map_nil, List.sum_cons, List.sum_nil]
  omega
theorem pfOut_le {f : Nat} (hf : f < 2 ^ 36) : (pfOut f).length ≤ 33 ∧ ((pfOut f).map (·.length)).sum ≤ 1056 := by
  have a := fWords_le f 32 (Nat.le_refl _)
  have b := hexS_le hf
  by_cases c : f / 2 ^ 32 = 0 ∧ f ≠ 0
  · rw [pfOut, if_pos c]; exact ⟨Nat.le_trans a.1 (by decide), Nat.le_trans a.2 (by decide)⟩
  · rw [pfOut, if_neg c]; exact out_le _ _ a b
theorem strs_len : ∀ {vs : List Value} {ys : List Str}, StrsAre vs ys → vs.length = ys.length
  | _, _, .nil => rfl
  | _, _, .cons _ _ r => congrArg (· + 1) (strs_len r)
theorem strs_snoc {y : Str} {t : Tok} : ∀ {vs : List Value} {ys : List Str}, StrsAre vs ys → StrsAre (vs ++ [.str y t]) (ys ++ [y])
  | _, _, .nil => .cons _ _ .nil
  | _, _, .cons _ _ r => .cons _ _ (strs_snoc r)
section
variable {w : World} {mg mb : Str → Option Value} {A : Around} {s : Shared} {Q E : Value → Shared → Prop} {h₀ : Heap} {L : Addr} {m : Str → Option Value} {news : List (Addr × Obj)}
theorem c_flags (hA : A.handled = none) (hdp : A.depth + 10 < recursionLimit) (hu : A.units + 1000 < cLine)
   (F : Fr h₀ L s.heap m) (N : News h₀ L s.heap news) (X : (hd.heap_39 w.params).In h₀) (T : TopRead vw LO mg mb h₀) (f : Nat) (tf : Tok) (hf : f < 2 ^ 36)
   (ret : ∀ t h' tk, Fr h₀ L h' m → News h₀ L h' news → Q (.str (Txt.join (Str.ofString ", ") (pfOut f)) t) { s with heap := h', toks := tk }) :
   wpAny (model Challenge.rw_sn0041_01.row.prog w) A (call (.ref 56) [.int f tf] []) Q E s := by
  walk_at "m_fill"
  obtain ⟨_, dp, fr, gd, un⟩ := A; dsimp only at hA hdp hu; subst hA
  k_dflt (refine wpAny_call ?_; refine' entK [] [(Str.ofString "flags", .int f tf)] ?F ?N ?X ?T (fun _ h => nomatch h) ?ho ?cd ?room ?kb ?loc ?_ ?c1 ?c2 ?c3 ?c4; (walk_at "m_enter"))
  intro g L' h₂ F₂ N₂ X₂ T₂ st bk
  clear X T
  have fin : ∀ t h' tk m' nd', Fr g L' h' m' → News g L' h' nd' → Q (.str (Txt.join (Str.ofString ", ") (pfOut f)) t) { s with heap := h', toks := tk } := fun t h' tk m' nd' F' N' =>
    have ab := (bk _ _ _ F' N').give F N (fun _ h => nomatch h) (fun _ h => nomatch h)
    ret t h' tk ab.1 ab.2
  clear ret bk
  k_unmd
  k_fold
  walk_at "m_steps"
  (rename Fr _ _ _ _ => F₃); (rename News _ _ _ _ => N₃); (rename_i l _ _ _)
  refine st_cut (fun s' => ∃ (us : List Value) (c : Nat) (u : Str → Option Value) (h' : Heap) (tk : Nat), s' = { s with heap := h', toks := tk } ∧ StrsAre us (pfOut f) ∧ Fr g L' h' (kstB u [(Str.ofString "names", Value.ref l)]) ∧ News g L' h' [(l, lsOf us c)]) ?_ ?_
  · clear qk ek
    refine for_open ?_
    walk_at "m_steps"
    (rename Fr _ _ _ _ => F₄); (rename News _ _ _ _ => N₄); (rename IsRange _ _ _ _ _ _ _ _ => hr)
    refine for_range (n := 32) (fun i m' news => ∃ (t1 : Tok) (us : List Value) (c : Nat), StrsAre us (fWords f i) ∧ (f / 2 ^ i = 0 → f = 0) ∧ (∀ p ∈ [(Str.ofString "flags", Value.int (f / 2 ^ i * 2 ^ i : Nat) t1), (Str.ofString "names", Value.ref l)], m' p.1 = some p.2) ∧ news = [(l, lsOf us c)]) rfl hr
      (small_one (by omega) (by omega) (by omega) (by omega)) (by rw [rangeSize_nat]; omega) F₄ (news₀ := [(l, lsOf [] 0)]) (fun p hp => N₄ p (by simp only [List.mem_cons, List.not_mem_nil, or_false] at hp; subst hp; k_mem)) ⟨_, [], 0, .nil, (by simp), (by (rw [show f / 2 ^ 0 * 2 ^ 0 = f by simp]; walk_at "m_frp")), rfl⟩ ?_ ?_
    · clear F₄ N₄ hr
      rintro i t I oI m₁ _ h₃ tk₃ hi F₃ N₃ off ⟨t1, us, c, hus, hnz, hm, rfl⟩
      have F₄ := fr_norm _ F₃ hm
      dsimp only [kstB] at F₄
      clear F₃ hm
      simp only [Off1, and_true] at off
      have ei := pow_int i
      have eb := bit_at (f / 2 ^ i) i
      have hstep := half_step f i
      have hhex := hex_fit i hi
      have hw := flag_word i hi
      have hpos : 0 < 2 ^ i := Nat.two_pow_pos i
      have hul : us.length ≤ 32 := by
        have a := strs_len hus
        have b := (fWords_le f i (by omega)).1
        omega
      have ex : Builtin.bitXor ((f / 2 ^ i * 2 ^ i : Nat) : Int) ((2 ^ i : Nat) : Int) = ((f / 2 ^ i * 2 ^ i : Nat) : Int) + ((2 ^ i : Nat) : Int) - 2 * ((f / 2 ^ i % 2 * 2 ^ i : Nat) : Int) := by rw [bitXor_and, eb]
      k_unmd
      k_fold
      walk_at "m_steps"
      all_goals ((rename Fr _ _ _ _ => F₅); (rename News _ _ _ _ => N₅); (rw [ei, eb] at *))
      · (rename KTD.Keyed _ _ _ => ky); (rename _ ≠ (0 : Int) => hne)
        have hodd : f / 2 ^ i % 2 = 1 := by
          rcases Nat.mod_two_eq_zero_or_one (f / 2 ^ i) with h | h
          · rw [h] at hne; simp at hne
          · exact h
        rw [hodd, Nat.one_mul] at hstep ex
        have ex2 : Builtin.bitXor ((f / 2 ^ i * 2 ^ i : Nat) : Int) ((2 ^ i : Nat) : Int) = ((f / 2 ^ (i + 1) * 2 ^ (i + 1) : Nat) : Int) := by rw [ex, hstep]; omega
        refine each_word (D := flagTab) (fun tv => ?_) hw
        walk_at "m_steps"
        all_goals ((rw [ex2] at *); (rename Fr _ _ _ _ => F₉); (rename News _ _ _ _ => N₉); (rw [List.push_toArray] at N₉))
        · (rename _ ≠ (0 : Int) => hq)
          refine FEndN.intro [(l, lsOf (us ++ [.str (lawWord i) tv]) (c + 1))] F₉ N₉ (fun _ h => h) ⟨off, trivial⟩ trivial
            ⟨_, _, _, by rw [fWords, if_pos hodd]; exact strsAre_append hus (.cons _ _ .nil), ?_, by walk_at "m_frp", rfl⟩
          intro hz; rw [hz] at hq; simp at hq
        · (rename _ = (0 : Int) => hq)
          refine ⟨rfl, _, _, _, _, _, rfl, ?_, fr_norm (m := _) _ F₉ (by walk_at "m_frp"), fun p hp => N₉ p (.tail _ hp)⟩
          have hz : f / 2 ^ (i + 1) = 0 := by
            rcases Nat.eq_zero_or_pos (f / 2 ^ (i + 1)) with h | h
            · exact h
            · have := Nat.mul_pos h (Nat.two_pow_pos (i + 1)); omega
          rw [← pfOut_brk hi hodd hz]
          exact strsAre_append hus (.cons _ _ .nil)
      · (rename _ = (0 : Int) => hq)
        have hev : f / 2 ^ i % 2 = 0 := by
          rcases Nat.mod_two_eq_zero_or_one (f / 2 ^ i) with h | h
          · exact h
          · rw [h] at hq; omega
        rw [hev, Nat.zero_mul, Nat.add_zero] at hstep
        refine FEndN.intro [(l, lsOf us c)] F₅ N₅ (fun _ h => h) ⟨off, trivial⟩ trivial
          ⟨t1, _, _, by rw [fWords, if_neg (by omega)]; exact hus, ?_, by rw [← hstep]; walk_at "m_frp", rfl⟩
        intro hz
        refine hnz ?_
        rw [hz, Nat.zero_mul] at hstep
        rcases Nat.eq_zero_or_pos (f / 2 ^ i) with h | h
        · exact h
        · have := Nat.mul_pos h hpos; omega
    · rintro m₁ _ h₃ tk₃ F₃ N₃ ⟨t1, us, c, hus, hnz, hm, rfl⟩
      clear F₄ N₄ hr
      have F₄ := fr_norm _ F₃ hm
      dsimp only [kstB] at F₄
      clear F₃ hm
      have hfit := hexS_le hf
      have hul : us.length ≤ 32 := by
        have a := strs_len hus
        have b := (fWords_le f 32 (by omega)).1
        omega
      k_unmd
      k_fold
      walk_at "m_steps"
      (rename Fr _ _ _ _ => F₉); (rename News _ _ _ _ => N₉); (rw [List.push_toArray] at N₉)
      exact ⟨rfl, _, _, _, _, _, rfl, pf_done hf (fun h => h.2 (hnz h.1)) hus, fr_norm _ F₉ (by walk_at "m_frp"), N₉⟩
  · rintro s' ⟨us, c, u, h', tk, rfl, hus, F', N'⟩
    dsimp only [kstB] at F'
    have hj := pfOut_le hf
    show wpAny _ _ _ _ _ _
    walk_at "m_steps"
    refine join_list (News.isList N' (.head _)) hus ?_ fun t' k => ?_
    · show _ + _ * 2 ≤ _
      omega
    · exact fin _ _ _ _ _ F' N'
end

theorem app_wp (M : Model) (Γ : Ctx) (env : Env) (post : List Stmt) (Q : Flow → Pos → Shared → Prop) (E : Value → Pos → Shared → Prop) : ∀ (pre : List Stmt) (p : Pos) (s : Shared),
    Sem.wp M Γ (execs pre env) (fun f p' s' => match f with | .next => Sem.wp M Γ (execs post env) Q E p' s' | f => Q f p' s') E p s → Sem.wp M Γ (execs (pre ++ post) env) Q E p s
  | [], p, s, h => h
  | x :: pre, p, s, h => by
    rw [List.cons_append, execs_cons, Sem.wp_bind']
    rw [execs_cons, Sem.wp_bind'] at h
    refine Sem.wp_mono M Γ _ (fun f p' s' h' => ?_) (fun _ _ _ h' => h') _ _ h
    cases f with
    | next => exact app_wp M Γ env post Q E pre p' s' h'
    | ret v => exact h'
    | brk => exact h'
    | cont => exact h'
theorem cut_app {M : Model} {A : Around} {env : Env} {Q : Flow → Shared → Prop} {E : Value → Shared → Prop} (pre post : List Stmt) (s : Shared) (h : wpAny M A (execs pre env) (fun f s' => match f with | .next => wpAny M A (execs post env) Q E s' | f => Q f s') E s) : wpAny M A (execs (pre ++ post) env) Q E s := fun Γ p hΓ =>
  app_wp M Γ env post _ _ pre p s (Sem.wp_mono M Γ _ (fun f p' s' h' => by
    cases f with
    | next => exact h' Γ p' hΓ
    | ret v => exact h'
    | brk => exact h'
    | cont => exact h') (fun _ _ _ h' => h') _ _ (h Γ p hΓ))
def fdOf {q : Program} {loose : List Str} {XP : (Str → Option Value) → Heap → Prop} {YP : World → Heap → Prop} {r : RowW} {d : DefRec} {kwd : List (Str × Expr)} {run : Value → List Value → Sem Value} {P R : Prop} (_ : P ∧ WalkO q loose XP YP r d kwd run → R) : DefRec := d
noncomputable def lawFd : DefRec := fdOf hd
noncomputable def lawBody : List Stmt := lawFd.body
noncomputable abbrev lawEnv (L fa : Addr) (cd : Value) : Env := envOfC lawFd.name lawFd.scope L fa cd
/-- the cells of law, the last first: parked, size, lengths, edge, answers, last, passed, wishes, blanks, runs, base -/
noncomputable abbrev cellsOf (L : Addr) (o1 o2 o3 o4 o5 o6 o7 o8 o9 o10 o11 : Obj) : List (Addr × Obj) := [(L + 1 + 1 + 1 + 1 + 1 + 1 + 1 + 1 + 1 + 1 + 1, o11), (L + 1 + 1 + 1 + 1 + 1 + 1 + 1 + 1 + 1 + 1, o10), (L + 1 + 1 + 1 + 1 + 1 + 1 + 1 + 1 + 1, o9), (L + 1 + 1 + 1 + 1 + 1 + 1 + 1 + 1, o8), (L + 1 + 1 + 1 + 1 + 1 + 1 + 1, o7), (L + 1 + 1 + 1 + 1 + 1 + 1, o6), (L + 1 + 1 + 1 + 1 + 1, o5), (L + 1 + 1 + 1 + 1, o4), (L + 1 + 1 + 1, o3), (L + 1 + 1, o2), (L + 1, o1)]
noncomputable abbrev lawVars (m : Str → Option Value) (tot cars more : Int) (al : Addr) (t1 t2 t3 : Tok) : Str → Option Value := kstB m [(Str.ofString "more", .int more t1), (Str.ofString "cars", .int cars t2), (Str.ofString "total", .int tot t3), (Str.ofString "script", .ref al)]

local macro_rules | `(tactic| kmk_nums) => `(tactic| first
   | ((with_reducible refine' kmk_from ?gi ?gx); (case gi => l_ints); (case gx => omega))
   | ((with_reducible refine' kmk_upto ?gi ?gx); (case gi => l_ints); (case gx => omega))
   | ((with_reducible refine' kmk_run ?gi ?gx ?gy); (case gi => l_ints); (case gx => omega); (case gy => omega)))
local macro_rules | `(tactic| walk_at "m_stepsI") => `(tactic| repeat' (first
   | (k_unfold; (try dsimp only))
   | ((with_reducible show wpAny _ _ _ _ _ _); (fail_if_success (with_reducible show wpAny _ _ (exec (Stmt.If _ _ _ _) _) _ _ _)); (fail_if_success (with_reducible show wpAny _ _ (exec (Stmt.While _ _ _ _) _) _ _ _)); (fail_if_success (with_reducible show wpAny _ _ (exec (Stmt.For _ _ _ _ _) _) _ _ _)); (fail_if_success (with_reducible show wpAny _ _ (pyIter _) _ _ _)); (fail_if_success (with_reducible show wpAny _ _ (eval (PySem.Expr.ListComp _ _ _ _) _) _ _ _)); (fail_if_success (with_reducible show wpAny _ _ (exec (Stmt.Assign _ (PySem.Expr.ListComp _ _ _ _) _) _) _ _ _)); first | walk1 | (dsimp only; walk1) | (leave1; try dsimp only) | fail "no step")
   | ((with_reducible show Frag.In _ _ ∧ wpAny _ _ _ _ _ _); refine' ⟨?kX, ?_⟩; (case kX => k_in))
   | ((with_reducible show ite _ _ _); walk1)))
local macro_rules | `(tactic| k_all) => `(tactic| exact off1_mem (by assumption))

section
variable {w : World} {mg mb : Str → Option Value} {A : Around} {s : Shared} {Q : Flow → Shared → Prop} {E : Value → Shared → Prop} {h₀ : Heap} {L fa : Addr} {cd : Value} {m : Str → Option Value} {news : List (Addr × Obj)}
theorem law_A (hA : A.handled = none) (hdp : A.depth + 40 < recursionLimit) (hu : A.units + 4000 < cLine) {al : Addr} {vals : List Value} {ns : List Int} {o1 o2 o3 o4 o5 o6 o7 o8 o9 o10 o11 : Obj}
   (F : Fr h₀ L s.heap (kstB m [(Str.ofString "script", .ref al)])) (N : News h₀ L s.heap (cellsOf L o1 o2 o3 o4 o5 o6 o7 o8 o9 o10 o11))
   (d1 : o1.data = .cell none) (d2 : o2.data = .cell none) (d3 : o3.data = .cell none)
   (hl : h₀.IsList al vals.toArray) (hI : IntsAre vals ns) (hn : ns.length ≤ 63)
   (X : (hd.heap_39 w.params).In h₀) (T : TopRead vw LO mg mb h₀)
   (ret : ∀ h' tk m' l rvs o1' o2' o3' t1 t2 t3 t4 t5, Fr h₀ L h' (kstB m' [(Str.ofString "more", .int (((590 + ns.sum).fdiv 1215).fmod 16) t1), (Str.ofString "cars", .int (3 + (590 + ns.sum).fmod 3) t2), (Str.ofString "total", .int (590 + ns.sum) t3), (Str.ofString "script", .ref al)]) →
     News h₀ L h' ((l, lsOf rvs 0) :: cellsOf L o1' o2' o3' o4 o5 o6 o7 o8 o9 o10 o11) → IntsAre rvs [((590 + ns.sum).fdiv 81).fmod 5, 5, 6, 7, 8, 9] → AllLt l (cellsOf L o1' o2' o3' o4 o5 o6 o7 o8 o9 o10 o11) →
     o1'.data = .cell (some (.int (((590 + ns.sum).fdiv 3).fmod 27) t4)) → o2'.data = .cell (some (.ref l)) → o3'.data = .cell (some (.int (((590 + ns.sum).fdiv 405).fmod 3) t5)) → Q .next { s with heap := h', toks := tk }) :
   wpAny (model Challenge.rw_sn0041_01.row.prog w) (A.deeper (lawEnv L fa cd)) (execs (lawBody.take 6) (lawEnv L fa cd)) Q E s := by
  walk_at "m_fill"
  obtain ⟨_, dp, fr, gd, un⟩ := A; dsimp only at hA hdp hu; subst hA
  dsimp only [kstB] at F
  dsimp only [lawBody, lawEnv, lawFd, fdOf, List.take]
  dsimp only [cellsOf] at N
  k_unmd
  try k_fold
  walk_at "m_steps"
  (rename Fr _ _ _ _ => F₄); (rename News _ _ _ _ => N₄)
  refine ret _ _ _ _ _ _ _ _ _ _ _ _ _ (fr_norm _ F₄ (by walk_at "m_frp")) N₄ (by repeat' constructor) (by simp only [AllLt, and_true]; omega) (by assumption) (by assumption) (by assumption)
end

section
variable {w : World} {mg mb : Str → Option Value} {A : Around} {s : Shared} {Q : Flow → Shared → Prop} {E : Value → Shared → Prop} {h₀ : Heap} {L fa : Addr} {cd : Value} {m : Str → Option Value} {news : List (Addr × Obj)}
theorem law_B (hA : A.handled = none) (hdp : A.depth + 40 < recursionLimit) (hu : A.units + 4000 < cLine) {al : Addr} {vals : List Value} {ns : List Int} {o1 o2 o3 o4 o5 o6 o7 o8 o9 o10 o11 : Obj} {tot cars more : Int} {t1 t2 t3 : Tok} {l : Addr} {rvs : List Value}
   (F : Fr h₀ L s.heap (lawVars m tot cars more al t1 t2 t3)) (N : News h₀ L s.heap ((l, lsOf rvs 0) :: cellsOf L o1 o2 o3 o4 o5 o6 o7 o8 o9 o10 o11))
   (hoff : AllLt l (cellsOf L o1 o2 o3 o4 o5 o6 o7 o8 o9 o10 o11))
   (d4 : o4.data = .cell none)
   (hl : h₀.IsList al vals.toArray) (hI : IntsAre vals ns) (hn : ns.length ≤ 63) (hc1 : 3 ≤ cars) (hc2 : cars ≤ 5)
   (X : (hd.heap_39 w.params).In h₀) (T : TopRead vw LO mg mb h₀)
   (ret : ∀ h' tk m' wl wvs o4' t1 t2 t3, Fr h₀ L h' (lawVars m' tot cars more al t1 t2 t3) →
     News h₀ L h' ((wl, lsOf wvs 0) :: (l, lsOf rvs 0) :: cellsOf L o1 o2 o3 o4' o5 o6 o7 o8 o9 o10 o11) → IntsAre wvs ((((ns.take 5).map fun (k : Int) => k.fmod 6) ++ [4, 1, 4, 2, 4].drop (ns.take 5).length).take cars.toNat) → AllLt wl ((l, lsOf rvs 0) :: cellsOf L o1 o2 o3 o4' o5 o6 o7 o8 o9 o10 o11) →
     o4'.data = .cell (some (.ref wl)) → Q .next { s with heap := h', toks := tk }) :
   wpAny (model Challenge.rw_sn0041_01.row.prog w) (A.deeper (lawEnv L fa cd)) (execs ((lawBody.drop 6).take 2) (lawEnv L fa cd)) Q E s := by
  walk_at "m_fill"
  obtain ⟨_, dp, fr, gd, un⟩ := A; dsimp only at hA hdp hu; subst hA
  dsimp only [lawVars, kstB] at F
  dsimp only [lawBody, lawEnv, lawFd, fdOf, List.drop, List.take]
  dsimp only [cellsOf] at N
  simp only [cellsOf, AllLt, and_true] at hoff
  k_unmd
  try k_fold
  walk_at "m_steps"
  walk_at "m_comp"
  walk_at "m_steps"
  (rename Fr _ _ _ _ => F₄); (rename News _ _ _ _ => N₄); (rename IntsAre _ (List.take 5 ns) => hi5)
  have hlen5 := hi5.length
  refine CompSrc.ledger rfl F₄ N₄ (by k_mem) (by rw [List.size_toArray, sizeLine_eq]; omega) fun g' => ?_
  refine kcf_list (fun k => k.fmod 6) hi5 (fun k' t' I' oI' C' oC' D' m' ys' h' tk' E' hk' hC' hx' F' N' off' ne' hMark' => ?_) ?_
  · simp only [LCg.Off3, and_true] at off'
    clear F₄ N₄
    k_unmd
    k_fold
    walk_at "m_steps"
    (rename Fr _ _ _ _ => F₅); (rename News _ _ _ _ => N₅)
    refine CompEnd.intro F₅ N₅ _ (fun _ h => h) (by simpa only [LCg.Off3, and_true] using off') (.inr ⟨_, by k_mem, rfl, _, rfl⟩) ⟨rfl, _, rfl⟩
  · unfold KPfDone
    intro ys hys D h₅ tk₅ F₅ N₅ o5
    clear F₄ N₄
    simp only [Off1, and_true] at o5
    have hYl : (List.map (fun (k : Int) => k.fmod 6) (List.take 5 ns)).length = (List.take 5 ns).length := by simp
    obtain ⟨Y, hY⟩ : ∃ Y, List.map (fun (k : Int) => k.fmod 6) (List.take 5 ns) = Y := ⟨_, rfl⟩
    rw [hY] at hys hYl
    have hysl := hys.length
    have htk : (List.take 5 ns).length ≤ 5 := by simp; omega
    obtain ⟨Z, hZ⟩ : ∃ Z, List.take 5 ns = Z := ⟨_, rfl⟩
    walk_at "m_steps"
    (rename Fr _ _ _ _ => F₆); (rename News _ _ _ _ => N₆); (rename IntsAre _ (List.take _ _) => hw)
    rw [← hY, Int.toNat_natCast] at hw
    refine ret _ _ _ _ _ _ _ _ _ (fr_norm _ F₆ (by walk_at "m_frp")) (Bk.drop N₆ (by kcf_all)) hw ?_ (by assumption)
    (rename _ < _ ∧ _ => hq); simp only [AllLt, and_true]; exact hq.2.2.2.2.2.2
end

section
variable {w : World} {mg mb : Str → Option Value} {A : Around} {s : Shared} {Q : Flow → Shared → Prop} {E : Value → Shared → Prop} {h₀ : Heap} {L fa : Addr} {cd : Value} {m : Str → Option Value} {news : List (Addr × Obj)}
theorem law_B2 (hA : A.handled = none) (hdp : A.depth + 40 < recursionLimit) (hu : A.units + 4000 < cLine) {al : Addr} {o1 o2 o3 o4 o5 o6 o7 o8 o9 o10 o11 : Obj} {tot cars more : Int} {t1 t2 t3 : Tok} {l wl : Addr} {rvs wvs : List Value}
   (F : Fr h₀ L s.heap (lawVars m tot cars more al t1 t2 t3)) (N : News h₀ L s.heap ((wl, lsOf wvs 0) :: (l, lsOf rvs 0) :: cellsOf L o1 o2 o3 o4 o5 o6 o7 o8 o9 o10 o11))
   (hoff : AllLt l (cellsOf L o1 o2 o3 o4 o5 o6 o7 o8 o9 o10 o11)) (hoff2 : AllLt wl ((l, lsOf rvs 0) :: cellsOf L o1 o2 o3 o4 o5 o6 o7 o8 o9 o10 o11))
   (d5 : o5.data = .cell none)
   (X : (hd.heap_39 w.params).In h₀) (T : TopRead vw LO mg mb h₀)
   (ret : ∀ h' tk m' row spots taken pl vrow vpl o5' t1 t2 t3, Fr h₀ L h' (kstB m' [(Str.ofString "taken", .ref taken), (Str.ofString "spots", .ref spots), (Str.ofString "row", .ref row), (Str.ofString "more", .int more t1), (Str.ofString "cars", .int cars t2), (Str.ofString "total", .int tot t3), (Str.ofString "script", .ref al)]) →
     News h₀ L h' ((pl, lsOf vpl 0) :: (taken, lsOf [] 0) :: (spots, lsOf [] 0) :: (row, lsOf vrow 0) :: (wl, lsOf wvs 0) :: (l, lsOf rvs 0) :: cellsOf L o1 o2 o3 o4 o5' o6 o7 o8 o9 o10 o11) → IntsAre vrow [6, 0, 1, 2, 3, 4, 5, -1] → IntsAre vpl [0, 0, 0, 0, 0, 0] →
     @LT.lt Nat _ wl row → @LT.lt Nat _ row spots → @LT.lt Nat _ spots taken → @LT.lt Nat _ taken pl →
     o5'.data = .cell (some (.ref pl)) → Q .next { s with heap := h', toks := tk }) :
   wpAny (model Challenge.rw_sn0041_01.row.prog w) (A.deeper (lawEnv L fa cd)) (execs ((lawBody.drop 8).take 4) (lawEnv L fa cd)) Q E s := by
  walk_at "m_fill"
  obtain ⟨_, dp, fr, gd, un⟩ := A; dsimp only at hA hdp hu; subst hA
  dsimp only [lawVars, kstB] at F
  dsimp only [lawBody, lawEnv, lawFd, fdOf, List.drop, List.take]
  dsimp only [cellsOf] at N
  simp only [cellsOf, AllLt, and_true] at hoff hoff2
  k_unmd
  try k_fold
  walk_at "m_steps"
  (rename Fr _ _ _ _ => F₄); (rename News _ _ _ _ => N₄)
  refine ret _ _ _ _ _ _ _ _ _ _ _ _ _ (fr_norm _ F₄ (by walk_at "m_frp")) N₄ (by repeat' constructor) (by repeat' constructor) ?_ ?_ ?_ ?_ (by assumption)
  all_goals omega
end

noncomputable def ring : List Int := [0, 1, 2, 3, 4, 5]
noncomputable def frees (q : Nat) : List Int := ring.filter fun x => q.testBit x.toNat
noncomputable def takes (q : Nat) : List Int := ring.filter fun x => !q.testBit x.toNat
noncomputable def rowOf (R : List Int) : List Int := 6 :: (R ++ [-1])
noncomputable def pick (R : List Int) (w : Int) : Int := (R.find? fun x => decide (w ≤ x)).getD (R.headD 0)
/-- where bisect_left lands, as the law corrects it -/
noncomputable def fixAt (R : List Int) (k : Int) : Int := if k = (R.length : Int) + 1 then 1 else k
abbrev sortedUpTo (ns : List Int) (x : Int) (a k b : Nat) : Prop := (∀ j, j < b → a ≤ j → j < k → ns.getD j 0 < x) ∧ (∀ j, j < b → k ≤ j → x ≤ ns.getD j 0)
set_option synthInstance.maxSize 10000 in
set_option synthInstance.maxHeartbeats 1000000 in
theorem row_sorted : ∀ q, q < 64 → ∀ j, j < (frees q).length + 1 → ∀ i, i < j + 1 → 1 ≤ i → (rowOf (frees q)).getD i 0 ≤ (rowOf (frees q)).getD j 0 := by decide +kernel
set_option synthInstance.maxSize 10000 in
set_option synthInstance.maxHeartbeats 1000000 in
theorem row_pick : ∀ q, q < 64 → 0 < q → ∀ w, w < 6 → ∀ k, k < (frees q).length + 2 → 1 ≤ k → sortedUpTo (rowOf (frees q)) (w : Nat) 1 k ((frees q).length + 1) →
   (rowOf (frees q)).getD (fixAt (frees q) (k : Nat)).toNat 0 = pick (frees q) (w : Nat) ∧ (rowOf (frees q)).take (fixAt (frees q) (k : Nat)).toNat ++ (rowOf (frees q)).drop ((fixAt (frees q) (k : Nat)).toNat + 1) = rowOf ((frees q).erase (pick (frees q) (w : Nat))) := by decide +kernel
noncomputable def offBit (q : Nat) (f : Int) : Nat := if q.testBit f.toNat then q - 2 ^ f.toNat else q
set_option synthInstance.maxSize 10000 in
set_option synthInstance.maxHeartbeats 1000000 in
theorem pick_ok : ∀ q, q < 64 → 0 < q → ∀ w : Nat, w < 6 → pick (frees q) w ∈ frees q ∧ 0 ≤ pick (frees q) w ∧ pick (frees q) w < 6 ∧ offBit q (pick (frees q) w) < 64 ∧ frees (offBit q (pick (frees q) w)) = (frees q).erase (pick (frees q) w) ∧ (frees (offBit q (pick (frees q) w))).length + 1 = (frees q).length := by decide +kernel
set_option synthInstance.maxSize 10000 in
set_option synthInstance.maxHeartbeats 1000000 in
theorem takes_sorted : ∀ q, q < 64 → ∀ j, j < (takes q).length → ∀ i, i < j + 1 → (takes q).getD i 0 ≤ (takes q).getD j 0 := by decide +kernel
set_option synthInstance.maxSize 10000 in
set_option synthInstance.maxHeartbeats 1000000 in
theorem takes_ins : ∀ q, q < 64 → 0 < q → ∀ w : Nat, w < 6 → ∀ k, k < (takes q).length + 1 → (∀ j, j < k → (takes q).getD j 0 ≤ pick (frees q) w) → (∀ j, j < (takes q).length → k ≤ j → pick (frees q) w < (takes q).getD j 0) →
   (takes q).take k ++ pick (frees q) w :: (takes q).drop k = takes (offBit q (pick (frees q) w)) := by decide +kernel
noncomputable def passAdd (P : List Int) (w : Int) : Nat → List Int
  | 0 => P
  | a + 1 => (passAdd P w a).set ((w + a + 1).fmod 6).toNat ((passAdd P w a).getD ((w + a + 1).fmod 6).toNat 0 + 1)
structure PS where
  q : Nat
  spots : List Int
  P : List Int
noncomputable def PS.step (p : PS) (w : Int) : PS := ⟨offBit p.q (pick (frees p.q) w), p.spots ++ [pick (frees p.q) w], passAdd p.P w ((pick (frees p.q) w - w).fmod 6).toNat⟩
noncomputable def parkAll (ws : List Int) : PS := ws.foldl PS.step ⟨63, [], [0, 0, 0, 0, 0, 0]⟩
theorem passAdd_len (P : List Int) (w : Int) : ∀ a, (passAdd P w a).length = P.length
  | 0 => rfl
  | a + 1 => by rw [passAdd, List.length_set, passAdd_len P w a]
theorem parkAll_snoc (ws : List Int) (w : Int) : parkAll (ws ++ [w]) = (parkAll ws).step w := by simp [parkAll]
theorem split_len : ∀ q, q < 64 → (takes q).length + (frees q).length = 6 := by decide +kernel
structure PS.Ok (p : PS) (n : Nat) : Prop where
  q : p.q < 64
  fl : (frees p.q).length + n = 6
  sl : p.spots.length = n
  pl : p.P.length = 6
theorem frees_zero : (frees 0).length = 0 := by decide
theorem PS.Ok.pos {p : PS} {n : Nat} (h : p.Ok n) (hn : n < 6) : 0 < p.q := by
  rcases Nat.eq_zero_or_pos p.q with e | e
  · have := h.fl; rw [e, frees_zero] at this; omega
  · exact e
theorem pick_ok' {q : Nat} (h1 : q < 64) (h2 : 0 < q) {w : Int} (hw : 0 ≤ w ∧ w < 6) : pick (frees q) w ∈ frees q ∧ 0 ≤ pick (frees q) w ∧ pick (frees q) w < 6 ∧ offBit q (pick (frees q) w) < 64 ∧ frees (offBit q (pick (frees q) w)) = (frees q).erase (pick (frees q) w) ∧ (frees (offBit q (pick (frees q) w))).length + 1 = (frees q).length := by
  have x := pick_ok q h1 h2 w.toNat (by omega)
  rw [show ((w.toNat : Nat) : Int) = w by omega] at x
  exact x
theorem PS.Ok.step {p : PS} {n : Nat} (h : p.Ok n) (hn : n < 6) {w : Int} (hw : 0 ≤ w ∧ w < 6) : (p.step w).Ok (n + 1) := by
  obtain ⟨_, _, _, a, _, b⟩ := pick_ok' h.q (h.pos hn) hw
  have := h.fl
  refine ⟨a, ?_, by simp [PS.step, h.sl], by simp [PS.step, passAdd_len, h.pl]⟩
  show (frees (offBit p.q (pick (frees p.q) w))).length + (n + 1) = 6
  omega
theorem parkAll_take (ws : List Int) (hws : ∀ x ∈ ws, 0 ≤ x ∧ x < 6) : ∀ i, i ≤ ws.length → i ≤ 6 → (parkAll (ws.take i)).Ok i
  | 0, _, _ => show (parkAll []).Ok 0 from ⟨by decide, by decide, rfl, rfl⟩
  | i + 1, h, h6 => by
    have hlt : i < ws.length := h
    rw [List.take_succ_eq_append_getElem hlt, parkAll_snoc]
    exact (parkAll_take ws hws i (by omega) (by omega)).step (by omega) (hws _ (List.getElem_mem hlt))
def PlaceOk (R : List Int) (q : Nat) (w pk : Int) : Prop := 1 ≤ pk ∧ pk < (R.length : Int) ∧ R.getD pk.toNat 0 = pick (frees q) w ∧ R.take pk.toNat ++ R.drop (pk.toNat + 1) = rowOf ((frees q).erase (pick (frees q) w))
theorem place_ok {q : Nat} (h1 : q < 64) (h2 : 0 < q) (hne : 0 < (frees q).length) {w : Int} (hw : 0 ≤ w ∧ w < 6) {R : List Int} (hR : rowOf (frees q) = R) {k : Int} (kb1 : 1 ≤ k) (kb2 : k ≤ (R.length : Int) - 1)
    (kb3 : (∀ i j : Nat, (1 : Int) ≤ i → i ≤ j → (j : Int) < (R.length : Int) - 1 → R.getD i 0 ≤ R.getD j 0) → (∀ j : Nat, (1 : Int) ≤ j → (j : Int) < k → R.getD j 0 < w) ∧ (∀ j : Nat, k ≤ (j : Int) → (j : Int) < (R.length : Int) - 1 → w ≤ R.getD j 0)) :
    (k = (R.length : Int) - 1 → PlaceOk R q w 1) ∧ (¬ k = (R.length : Int) - 1 → PlaceOk R q w k) := by
  subst hR
  have hl : (rowOf (frees q)).length = (frees q).length + 2 := by simp [rowOf]
  obtain ⟨a, b⟩ := kb3 fun i j hi hij hj => row_sorted q h1 j (by omega) i (by omega) (by omega)
  have z := row_pick q h1 h2 w.toNat (by omega) k.toNat (by omega) (by omega) ⟨fun j _ h h' => by rw [show ((w.toNat : Nat) : Int) = w by omega]; exact a j (by omega) (by omega), fun j h h' => by rw [show ((w.toNat : Nat) : Int) = w by omega]; exact b j (by omega) (by omega)⟩
  rw [show ((w.toNat : Nat) : Int) = w by omega, show ((k.toNat : Nat) : Int) = k by omega] at z
  constructor
  · intro e
    rw [fixAt, if_pos (by omega)] at z
    exact ⟨by omega, by omega, z.1, z.2⟩
  · intro e
    rw [fixAt, if_neg (by omega)] at z
    exact ⟨by omega, by omega, z.1, z.2⟩

local macro_rules | `(tactic| walk_at "call ref") => `(tactic| (k_here; k_dflt (refine' c_bl ?hA ?hd ?hu ?F ?N ?X ?T ?hl ?hv ?hz _ _ _ _ _ _ ?h1 ?h2 ?h3 ?_; (case hA => rfl); (case F => k_asm); (case N => k_asm); (case X => k_asm); (case T => k_asm); (case hl => k_mem); (case hv => assumption); (case hz => (first | assumption | omega)); (case hd => walk_at "m_room"); (case hu => walk_at "m_units"); (case h1 => omega); (case h2 => omega); (case h3 => omega); k_whole; intro k' t' h' tk' F' N' kb1 kb2 kb3; (try ground_anew F'))))
section
variable {w : World} {mg mb : Str → Option Value} {A : Around} {s : Shared} {Q : Flow → Shared → Prop} {E : Value → Shared → Prop} {h₀ : Heap} {L fa : Addr} {cd : Value} {m : Str → Option Value} {news : List (Addr × Obj)}
noncomputable abbrev parkVars (m : Str → Option Value) (tot cars more : Int) (al row spots taken : Addr) (t1 t2 t3 : Tok) : Str → Option Value := kstB m [(Str.ofString "taken", .ref taken), (Str.ofString "spots", .ref spots), (Str.ofString "row", .ref row), (Str.ofString "more", .int more t1), (Str.ofString "cars", .int cars t2), (Str.ofString "total", .int tot t3), (Str.ofString "script", .ref al)]
theorem law_C (hA : A.handled = none) (hdp : A.depth + 40 < recursionLimit) (hu : A.units + 4000 < cLine) {al : Addr} {o1 o2 o3 o4 o5 o6 o7 o8 o9 o10 o11 : Obj} {tot cars more : Int} {t1 t2 t3 : Tok} {l wl row spots taken pl : Addr} {rvs wvs vrow vpl : List Value} {ws : List Int}
   (F : Fr h₀ L s.heap (parkVars m tot cars more al row spots taken t1 t2 t3)) (N : News h₀ L s.heap ((pl, lsOf vpl 0) :: (taken, lsOf [] 0) :: (spots, lsOf [] 0) :: (row, lsOf vrow 0) :: (wl, lsOf wvs 0) :: (l, lsOf rvs 0) :: cellsOf L o1 o2 o3 o4 o5 o6 o7 o8 o9 o10 o11))
   (hoff : AllLt l (cellsOf L o1 o2 o3 o4 o5 o6 o7 o8 o9 o10 o11)) (hoff2 : AllLt wl ((l, lsOf rvs 0) :: cellsOf L o1 o2 o3 o4 o5 o6 o7 o8 o9 o10 o11))
   (n1 : @LT.lt Nat _ wl row) (n2 : @LT.lt Nat _ row spots) (n3 : @LT.lt Nat _ spots taken) (n4 : @LT.lt Nat _ taken pl)
   (hvr : IntsAre vrow [6, 0, 1, 2, 3, 4, 5, -1]) (hvp : IntsAre vpl [0, 0, 0, 0, 0, 0]) (hvw : IntsAre wvs ws) (hwl : ws.length ≤ 5) (hws : ∀ x ∈ ws, 0 ≤ x ∧ x < 6)
   (d4 : o4.data = .cell (some (.ref wl))) (d5 : o5.data = .cell (some (.ref pl)))
   (X : (hd.heap_39 w.params).In h₀) (T : TopRead vw LO mg mb h₀)
   (ret : ∀ h' tk m' row' vrow' vsp' vtk' vpl' c1 c2 c3 t1' t2' t3', Fr h₀ L h' (parkVars m' tot cars more al row' spots taken t1' t2' t3') →
     News h₀ L h' ((pl, lsOf vpl' c1) :: (taken, lsOf vtk' c2) :: (spots, lsOf vsp' c3) :: (row', lsOf vrow' 0) :: (wl, lsOf wvs 0) :: (l, lsOf rvs 0) :: cellsOf L o1 o2 o3 o4 o5 o6 o7 o8 o9 o10 o11) →
     IntsAre vrow' (rowOf (frees (parkAll ws).q)) → IntsAre vsp' (parkAll ws).spots → IntsAre vtk' (takes (parkAll ws).q) → IntsAre vpl' (parkAll ws).P →
     @LT.lt Nat _ wl row' → @Ne Nat row' spots → @Ne Nat row' taken → @Ne Nat row' pl → Q .next { s with heap := h', toks := tk }) :
   wpAny (model Challenge.rw_sn0041_01.row.prog w) (A.deeper (lawEnv L fa cd)) (execs ((lawBody.drop 12).take 1) (lawEnv L fa cd)) Q E s := by
  walk_at "m_fill"
  obtain ⟨_, dp, fr, gd, un⟩ := A; dsimp only at hA hdp hu; subst hA
  dsimp only [parkVars, kstB] at F
  dsimp only [lawBody, lawEnv, lawFd, fdOf, List.drop, List.take]
  dsimp only [cellsOf] at N
  have hw0 := hoff2
  simp only [cellsOf, AllLt, and_true] at hoff hoff2
  k_unmd
  try k_fold
  walk_at "m_steps"
  refine for_open ?_
  walk_at "m_steps"
  (rename Fr _ _ _ _ => F₄); (rename News _ _ _ _ => N₄)
  have hvwl := hvw.length
  have e0 : rowOf (frees (parkAll (ws.take 0)).q) = [6, 0, 1, 2, 3, 4, 5, -1] := show rowOf (frees (parkAll []).q) = _ by decide
  have e0' : takes (parkAll (ws.take 0)).q = [] := show takes (parkAll []).q = _ by decide
  refine for_list (its := wvs.toArray) (fun i m' news => ∃ (row : Addr) (vrow vsp vtk vpl : List Value) (c1 c2 c3 : Nat) (t1 t2 t3 : Tok), IntsAre vrow (rowOf (frees (parkAll (ws.take i)).q)) ∧ IntsAre vsp (parkAll (ws.take i)).spots ∧ IntsAre vtk (takes (parkAll (ws.take i)).q) ∧ IntsAre vpl (parkAll (ws.take i)).P ∧
      (@LT.lt Nat _ wl row ∧ @Ne Nat row spots ∧ @Ne Nat row taken ∧ @Ne Nat row pl) ∧
      (∀ p ∈ [(Str.ofString "taken", Value.ref taken), (Str.ofString "spots", .ref spots), (Str.ofString "row", .ref row), (Str.ofString "more", .int more t1), (Str.ofString "cars", .int cars t2), (Str.ofString "total", .int tot t3), (Str.ofString "script", .ref al)], m' p.1 = some p.2) ∧
      news = (pl, lsOf vpl c1) :: (taken, lsOf vtk c2) :: (spots, lsOf vsp c3) :: (row, lsOf vrow 0) :: (wl, lsOf wvs 0) :: (l, lsOf rvs 0) :: cellsOf L o1 o2 o3 o4 o5 o6 o7 o8 o9 o10 o11)
    rfl F₄ N₄ (.inr ⟨_, by k_mem, rfl, _, rfl⟩) ⟨row, vrow, [], [], vpl, 0, 0, 0, _, _, _, (by rw [e0]; exact hvr), .nil, (by rw [e0']; exact .nil), hvp, ⟨n1, by omega, by omega, by omega⟩, by walk_at "m_frp", rfl⟩ ?_ ?_
  · clear F₄ N₄
    rintro i v I oI m₁ _ h₃ tk₃ hi F₃ N₃ off hS ⟨row', vrow', vsp', vtk', vpl', c1, c2, c3, t1', t2', t3', hr', hs', ht', hp', ⟨e1, e2, e3, e4⟩, hm, rfl⟩
    have hws1 : @LT.lt Nat _ wl spots := Nat.lt_trans n1 n2
    have hwt1 : @LT.lt Nat _ wl taken := Nat.lt_trans hws1 n3
    have hwp1 : @LT.lt Nat _ wl pl := Nat.lt_trans hwt1 n4
    have hos : Off1 spots ((row', lsOf vrow' 0) :: (wl, lsOf wvs 0) :: (l, lsOf rvs 0) :: cellsOf L o1 o2 o3 o4 o5 o6 o7 o8 o9 o10 o11) := ⟨e2, Nat.ne_of_lt hws1, off1_lt hw0 hws1⟩
    have hot : ∀ o, Off1 taken ((spots, o) :: (row', lsOf vrow' 0) :: (wl, lsOf wvs 0) :: (l, lsOf rvs 0) :: cellsOf L o1 o2 o3 o4 o5 o6 o7 o8 o9 o10 o11) := fun o => ⟨Nat.ne_of_lt n3, e3, Nat.ne_of_lt hwt1, off1_lt hw0 hwt1⟩
    have hop : Off1 pl ((taken, lsOf vtk' c2) :: (spots, lsOf vsp' c3) :: (row', lsOf vrow' 0) :: (wl, lsOf wvs 0) :: (l, lsOf rvs 0) :: cellsOf L o1 o2 o3 o4 o5 o6 o7 o8 o9 o10 o11) := ⟨Nat.ne_of_lt n4, Nat.ne_of_lt (Nat.lt_trans n3 n4), e4, Nat.ne_of_lt hwp1, off1_lt hw0 hwp1⟩
    have hiw : wvs[i]? = some v := by simpa using hi
    obtain ⟨k, tw, rfl, hk⟩ : ∃ k tw, v = .int k tw ∧ ws[i]? = some k := by
      obtain ⟨k, t, e, hk⟩ := IntsAre.at hvw i v hiw
      exact ⟨k, t, e, hk⟩
    have hlt : i < ws.length := by
      rcases Nat.lt_or_ge i ws.length with h | h
      · exact h
      · rw [List.getElem?_eq_none h] at hk; cases hk
    have hwk := hws k (List.mem_of_getElem? hk)
    have Ok := parkAll_take ws hws i (by omega) (by omega)
    have hpos := Ok.pos (by omega)
    have hnx : parkAll (ws.take (i + 1)) = (parkAll (ws.take i)).step k := by
      rw [List.take_succ_eq_append_getElem hlt, parkAll_snoc, (List.getElem?_eq_some_iff.mp hk).2]
    rw [hnx]
    generalize parkAll (ws.take i) = p at *
    have hsl := Ok.sl
    have hfl := Ok.fl
    have hrl := hr'.length
    have hspl := hs'.length
    have htkl := ht'.length
    have hppl := hp'.length
    have hP6 := Ok.pl
    have hst := split_len p.q Ok.q
    have hrow : (rowOf (frees p.q)).length = (frees p.q).length + 2 := by simp [rowOf]
    obtain ⟨R, hR⟩ : ∃ R, rowOf (frees p.q) = R := ⟨_, rfl⟩
    rw [hR] at hr' hrl hrow
    have F₄ := fr_norm _ F₃ hm
    dsimp only [kstB] at F₄
    dsimp only [cellsOf] at N₃ off hos hot hop
    simp only [Off1, and_true] at off
    clear F₃ hm
    k_unmd
    k_fold
    walk_at "m_stepsI"
    (rename _ → _ ∧ _ => kb3); (rename _ ≤ (R.length : Int) - 1 => kb2); (rename (1 : Int) ≤ _ => kb1)
    have hpk := place_ok Ok.q hpos (by omega) hwk hR kb1 kb2 kb3
    (rename Fr _ _ _ _ => F₅); (rename News _ _ _ _ => N₅)
    clear kb3
    refine st_cut (fun s' => ∃ (h' : Heap) (tk' : Nat) (m' : Str → Option Value) (pk : Int) (pt : Tok), s' = { s with heap := h', toks := tk' } ∧ PlaceOk R p.q k pk ∧ Fr h₀ L h' (kstB m' [(Str.ofString "place", .int pk pt), (Str.ofString "wish", .int k tw), (Str.ofString "taken", Value.ref taken), (Str.ofString "spots", .ref spots), (Str.ofString "row", .ref row'), (Str.ofString "more", .int more t1'), (Str.ofString "cars", .int cars t2'), (Str.ofString "total", .int tot t3'), (Str.ofString "script", .ref al)]) ∧
      News h₀ L h' ((I, oI) :: (pl, lsOf vpl' c1) :: (taken, lsOf vtk' c2) :: (spots, lsOf vsp' c3) :: (row', lsOf vrow' 0) :: (wl, lsOf wvs 0) :: (l, lsOf rvs 0) :: cellsOf L o1 o2 o3 o4 o5 o6 o7 o8 o9 o10 o11)) ?_ ?_
    · walk_at "m_steps"
      all_goals ((rename Fr _ _ _ _ => F₆); (rename News _ _ _ _ => N₆))
      · exact ⟨rfl, _, _, _, _, _, rfl, hpk.1 (by assumption), fr_norm _ F₆ (by walk_at "m_frp"), N₆⟩
      · exact ⟨rfl, _, _, _, _, _, rfl, hpk.2 (by assumption), fr_norm _ F₆ (by walk_at "m_frp"), N₆⟩
    · rintro s' ⟨h', tk', m', pk, pt, rfl, ⟨pk1, pk2, pk3, pk4⟩, F₆, N₆⟩
      clear F₅ N₅ hpk
      dsimp only [kstB] at F₆
      dsimp only [cellsOf] at N₆
      show wpAny _ _ _ _ _ _
      walk_at "m_steps"
      have hd1 := fmod_lo (pick (frees p.q) k - k) (n := 6) (by decide)
      have hd2 := fmod_hi (pick (frees p.q) k - k) (n := 6) (by decide)
      obtain ⟨d, hdd⟩ : ∃ d : Nat, d = ((pick (frees p.q) k - k).fmod 6).toNat := ⟨_, rfl⟩
      refine st_cut (fun s' => ∃ (h' : Heap) (tk' : Nat) (m' : Str → Option Value) (vpl'' : List Value) (c1' : Nat) (pt : Tok), s' = { s with heap := h', toks := tk' } ∧ IntsAre vpl'' (passAdd p.P k d) ∧ Fr h₀ L h' (kstB m' [(Str.ofString "place", .int pk pt), (Str.ofString "wish", .int k tw), (Str.ofString "taken", Value.ref taken), (Str.ofString "spots", .ref spots), (Str.ofString "row", .ref row'), (Str.ofString "more", .int more t1'), (Str.ofString "cars", .int cars t2'), (Str.ofString "total", .int tot t3'), (Str.ofString "script", .ref al)]) ∧
        News h₀ L h' ((I, oI) :: (pl, lsOf vpl'' c1') :: (taken, lsOf vtk' c2) :: (spots, lsOf vsp' c3) :: (row', lsOf vrow' 0) :: (wl, lsOf wvs 0) :: (l, lsOf rvs 0) :: cellsOf L o1 o2 o3 o4 o5 o6 o7 o8 o9 o10 o11)) ?_ ?_
      · refine for_open ?_
        walk_at "m_steps"
        (rename Fr _ _ _ _ => F₇); (rename News _ _ _ _ => N₇); (rename IsRange _ _ _ _ _ _ _ _ => hrg)
        rw [pk3] at hrg
        refine for_range (n := d) (fun a m' news => ∃ (vpl'' : List Value) (c1' : Nat), IntsAre vpl'' (passAdd p.P k a) ∧ (∀ p ∈ [(Str.ofString "place", Value.int pk pt), (Str.ofString "wish", .int k tw), (Str.ofString "taken", Value.ref taken), (Str.ofString "spots", .ref spots), (Str.ofString "row", .ref row'), (Str.ofString "more", .int more t1'), (Str.ofString "cars", .int cars t2'), (Str.ofString "total", .int tot t3'), (Str.ofString "script", .ref al)], m' p.1 = some p.2) ∧
          news = (I, oI) :: (pl, lsOf vpl'' c1') :: (taken, lsOf vtk' c2) :: (spots, lsOf vsp' c3) :: (row', lsOf vrow' 0) :: (wl, lsOf wvs 0) :: (l, lsOf rvs 0) :: cellsOf L o1 o2 o3 o4 o5 o6 o7 o8 o9 o10 o11) rfl hrg
          (small_one (by omega) (by omega) (by omega) (by omega)) (by rw [rangeSize_nat]; omega) F₇ (Bk.drop N₇ (by kcf_all)) ⟨vpl', c1, hp', by walk_at "m_frp", rfl⟩ ?_ ?_
        · clear F₇ N₇ hrg
          rintro a ta I' oI' m₂ _ h₄ tk₄ ha F₈ N₈ off' ⟨vpl'', c1', hp'', hm, rfl⟩
          have F₉ := fr_norm _ F₈ hm
          dsimp only [kstB] at F₉
          dsimp only [cellsOf] at N₈ off'
          simp only [Off1, and_true] at off'
          clear F₈ hm
          have hpl2 := hp''.length
          rw [passAdd_len] at hpl2
          have hg1 := fmod_lo (k + (0 + (a : Int)) + 1) (n := 6) (by decide)
          have hg2 := fmod_hi (k + (0 + (a : Int)) + 1) (n := 6) (by decide)
          k_unmd
          k_fold
          walk_at "m_steps"
          (rename Fr _ _ _ _ => F₉); (rename News _ _ _ _ => N₉); (rename IntsAre _ (List.set _ _ _) => hset)
          refine FEndN.intro ((I, oI) :: (pl, lsOf _ c1') :: (taken, lsOf vtk' c2) :: (spots, lsOf vsp' c3) :: (row', lsOf vrow' 0) :: (wl, lsOf wvs 0) :: (l, lsOf rvs 0) :: cellsOf L o1 o2 o3 o4 o5 o6 o7 o8 o9 o10 o11) F₉ N₉ (fun _ h => h)
            (by simpa only [cellsOf, Off1, and_true] using off') trivial ⟨_, c1', ?_, by walk_at "m_frp", rfl⟩
          rw [passAdd, show k + (a : Int) + 1 = k + (0 + a) + 1 by omega]
          exact hset
        · rintro m₂ _ h₄ tk₄ F₈ N₈ ⟨vpl'', c1', hp'', hm, rfl⟩
          exact wpAny_execs_nil ⟨rfl, _, _, _, vpl'', c1', pt, rfl, hp'', fr_norm _ F₈ hm, N₈⟩
      · rintro s' ⟨h', tk', m', vpl'', c1', pt, rfl, hp'', F₈, N₈⟩
        dsimp only [kstB] at F₈
        dsimp only [cellsOf] at N₈
        have hpl2 := hp''.length
        rw [passAdd_len] at hpl2
        show wpAny _ _ _ _ _ _
        walk_at "m_steps"
        rename_i t8 h8 F₉ N₉ t9
        rw [pk3] at N₉ ⊢
        rw [List.push_toArray] at N₉
        have hpo := pick_ok' Ok.q hpos hwk
        refine c_ins rfl (by walk_at "m_room") (by walk_at "m_units") F₉ N₉ (by k_in) T (l := taken) (vs := vtk') (c := c2) (by k_mem) ht' (by omega) _ _ fun kk h₅ tk₅ F₁₀ U₁₀ kk1 kk2 => ?_
        have hot' := hot (lsOf (vsp' ++ [.int (pick (frees p.q) k) t8]) (c3 + 1))
        have N₁₀ := U₁₀ ((I, oI) :: (pl, lsOf vpl'' c1') :: (taken, lsOf (vtk'.take kk ++ .int (pick (frees p.q) k) t9 :: vtk'.drop kk) (c2 + 1)) :: (spots, lsOf (vsp' ++ [.int (pick (frees p.q) k) t8]) (c3 + 1)) :: (row', lsOf vrow' 0) :: (wl, lsOf wvs 0) :: (l, lsOf rvs 0) :: cellsOf L o1 o2 o3 o4 o5 o6 o7 o8 o9 o10 o11) (by k_upd)
        clear F₉ N₉ U₁₀
        dsimp only [cellsOf] at N₁₀
        obtain ⟨ka, kb⟩ := kk2 fun i' j' hij hj => takes_sorted p.q Ok.q j' hj i' (by omega)
        have htk2 := takes_ins p.q Ok.q hpos k.toNat (by omega) kk (by omega) (by rw [show ((k.toNat : Nat) : Int) = k by omega]; exact ka) (by rw [show ((k.toNat : Nat) : Int) = k by omega]; exact fun j h1 h2 => kb j h2 h1)
        rw [show ((k.toNat : Nat) : Int) = k by omega] at htk2
        walk_at "m_steps"
        rename_i D₉ w₉ g₉ hrw ld₉ g₁₀ F₁₁ N₁₁
        rw [show (pk + 1).toNat = pk.toNat + 1 by omega, pk4, ← hpo.2.2.2.2.1] at hrw
        subst hdd
        refine FEndN.intro ((pl, lsOf vpl'' c1') :: (taken, lsOf (vtk'.take kk ++ .int (pick (frees p.q) k) t9 :: vtk'.drop kk) (c2 + 1)) :: (spots, lsOf (vsp' ++ [.int (pick (frees p.q) k) t8]) (c3 + 1)) :: (D₉, lsOf w₉ 0) :: (wl, lsOf wvs 0) :: (l, lsOf rvs 0) :: cellsOf L o1 o2 o3 o4 o5 o6 o7 o8 o9 o10 o11) F₁₁ N₁₁ (by kcf_all)
          ?_ (.inr ⟨_, by k_mem, rfl, _, rfl⟩) ⟨D₉, w₉, _, _, vpl'', c1', c2 + 1, c3 + 1, t1', t2', t3', hrw, IntsAre.append hs' (.cons _ _ .nil), ?_, hp'', ?_, by walk_at "m_frp", rfl⟩
        · simp only [cellsOf, Off1, and_true]; exact ⟨off.1, off.2.1, off.2.2.1, Nat.ne_of_gt ld₉.2.2.1, off.2.2.2.2⟩
        · show IntsAre _ (takes (offBit p.q (pick (frees p.q) k)))
          rw [← htk2]
          exact IntsAre.append (ht'.take kk) (.cons _ _ (ht'.drop kk))
        · exact ⟨ld₉.2.2.2.2.2.2.2.1, Nat.ne_of_gt ld₉.2.2.2.2.2.1, Nat.ne_of_gt ld₉.2.2.2.2.1, Nat.ne_of_gt ld₉.2.2.2.1⟩
  · rintro m₁ _ h₃ tk₃ F₃ N₃ ⟨row', vrow', vsp', vtk', vpl', c1, c2, c3, t1', t2', t3', hr', hs', ht', hp', ⟨e1, e2, e3, e4⟩, hm, rfl⟩
    have ew : ws.take wvs.toArray.size = ws := by rw [List.size_toArray, hvwl, List.take_length]
    rw [ew] at hr' hs' ht' hp'
    refine wpAny_execs_nil ?_
    refine wpAny_execs_nil ?_
    exact ret _ _ _ _ _ _ _ _ _ _ _ _ _ _ (fr_norm _ F₃ hm) N₃ hr' hs' ht' hp' e1 e2 e3 e4
end

noncomputable abbrev baseOf (pl taken spots row wl l : Addr) (vpl vtk vsp vrow wvs rvs : List Value) (c1 c2 c3 : Nat) (cells : List (Addr × Obj)) : List (Addr × Obj) := (pl, lsOf vpl c1) :: (taken, lsOf vtk c2) :: (spots, lsOf vsp c3) :: (row, lsOf vrow 0) :: (wl, lsOf wvs 0) :: (l, lsOf rvs 0) :: cells
/-- the refs ys name the leads of the runs rs, cut at 0, 1, .. -/
inductive WsAre (P : Params) (fz : List (Addr × Obj)) : List Value → List WS → Prop
  | nil : WsAre P fz [] []
  | cons {x : Addr} {W : WS} {ys : List Value} {Ws : List WS} : IsWs P fz x W → WsAre P fz ys Ws → WsAre P fz (.ref x :: ys) (W :: Ws)
theorem WsAre.mono {P : Params} {a b : List (Addr × Obj)} (hs : ∀ p ∈ a, p ∈ b) : ∀ {ys : List Value} {Ws : List WS}, WsAre P a ys Ws → WsAre P b ys Ws
  | _, _, .nil => .nil
  | _, _, .cons h r => .cons (h.mono hs) (r.mono hs)
theorem WsAre.snoc {P : Params} {a : List (Addr × Obj)} {x : Addr} {W : WS} (hx : IsWs P a x W) : ∀ {ys : List Value} {Ws : List WS}, WsAre P a ys Ws → WsAre P a (ys ++ [.ref x]) (Ws ++ [W])
  | _, _, .nil => .cons hx .nil
  | _, _, .cons h r => .cons h (r.snoc hx)
theorem WsAre.length {P : Params} {a : List (Addr × Obj)} : ∀ {ys : List Value} {Ws : List WS}, WsAre P a ys Ws → ys.length = Ws.length
  | _, _, .nil => rfl
  | _, _, .cons _ r => congrArg (· + 1) r.length
theorem sub_new {B new fz : List (Addr × Obj)} {a b c d : Addr × Obj} : ∀ p ∈ a :: b :: c :: (B ++ (new ++ fz)), p ∈ new ++ d :: a :: b :: c :: (B ++ fz) := by
  intro p hp
  simp only [List.mem_cons, List.mem_append] at hp ⊢
  rcases hp with h | h | h | h | h | h <;> simp [h]
theorem off3_mem {I C D : Addr} : ∀ {l : List (Addr × Obj)}, LCg.Off3 I C D l → ∀ p ∈ l, p.1 ≠ I ∧ p.1 ≠ C ∧ p.1 ≠ D
  | [], _, _, h => nomatch h
  | _ :: _, x, p, h => by
    rcases List.mem_cons.mp h with rfl | h
    · exact x.1
    · exact off3_mem x.2 p h
theorem off3_of {I C D : Addr} : ∀ {l : List (Addr × Obj)}, (∀ p ∈ l, p.1 ≠ I ∧ p.1 ≠ C ∧ p.1 ≠ D) → LCg.Off3 I C D l
  | [], _ => trivial
  | _ :: _, h => ⟨h _ (.head _), off3_of fun p hp => h p (.tail _ hp)⟩
theorem off3_new {B new fz : List (Addr × Obj)} {I C D : Addr} {oI oC oD : Obj} {d : Addr × Obj} (off : LCg.Off3 I C D (B ++ fz)) (ap : Apart new (d :: (I, oI) :: (C, oC) :: (D, oD) :: (B ++ fz))) : LCg.Off3 I C D (B ++ (new ++ fz)) :=
  off3_of fun p hp => by
    rcases List.mem_append.mp hp with hp | hp
    · exact off3_mem off p (List.mem_append_left _ hp)
    · rcases List.mem_append.mp hp with hp | hp
      · exact ⟨Ne.symm (ap (I, oI) (.tail _ (.head _)) p hp), Ne.symm (ap (C, oC) (.tail _ (.tail _ (.head _))) p hp), Ne.symm (ap (D, oD) (.tail _ (.tail _ (.tail _ (.head _)))) p hp)⟩
      · exact off3_mem off p (List.mem_append_right _ hp)
theorem apart_new {B new fz : List (Addr × Obj)} {a b c d : Addr × Obj} (h : Apart fz B) (ap : Apart new (d :: a :: b :: c :: (B ++ fz))) : Apart (new ++ fz) B := fun p hp q hq => by
  rcases List.mem_append.mp hq with hq | hq
  · exact ap p (.tail _ (.tail _ (.tail _ (.tail _ (List.mem_append_left _ hp))))) q hq
  · exact h p hp q hq
noncomputable def leadW (ss rs : List Int) (b : Int) (e : Int) : WS := wsOf (leadStr (cutL ss e rs) b)
theorem cutL_len (ss : List Int) (e : Int) (rs : List Int) : (cutL ss e rs).length = ss.length := by simp [cutL]
theorem cutL_mem {ss : List Int} {e : Int} {rs : List Int} (h : ∀ r ∈ rs, 0 ≤ r ∧ r < 16) : ∀ r ∈ cutL ss e rs, 0 ≤ r ∧ r < 2 ^ 4 := by
  intro r hr
  obtain ⟨k, _, rfl⟩ := List.mem_map.mp hr
  rw [List.getD_eq_getElem?_getD]
  cases z : rs[((k - e - 1).fmod 6).toNat]? with
  | none => exact ⟨by decide, by decide⟩
  | some y => exact h y (List.mem_of_getElem? z)
local macro_rules | `(tactic| walk_at "call ref") => `(tactic| (k_here; k_dflt (refine' c_cut ?hA ?hd ?hu ?F ?N ?X ?T ?hs ?hr ?hsv ?hrv ?hsl ?hrl _ _ ?_; (case hA => rfl); (case F => k_asm); (case N => k_asm); (case X => k_asm); (case T => k_asm); (case hs => k_mem); (case hr => k_mem); (case hsv => assumption); (case hrv => assumption); (case hsl => (first | assumption | omega)); (case hrl => (first | assumption | omega)); (case hd => walk_at "m_room"); (case hu => walk_at "m_units"); k_whole; intro D' ys' c' h' tk' F' N' ap' hI'; (try ground_anew F'))))
section
variable {w : World} {mg mb : Str → Option Value} {A : Around} {s : Shared} {Q : Flow → Shared → Prop} {E : Value → Shared → Prop} {h₀ : Heap} {L fa : Addr} {cd : Value} {m : Str → Option Value} {news : List (Addr × Obj)}
theorem law_D1 (hA : A.handled = none) (hdp : A.depth + 60 < recursionLimit) (hu : A.units + 8000 < cLine) {al : Addr} {o1 o2 o3 o4 o5 o6 o7 o8 o9 o10 o11 : Obj} {tot cars more b : Int} {t1 t2 t3 t5 : Tok} {l wl row spots taken pl : Addr} {rvs wvs vrow vpl vsp vtk : List Value} {c1 c2 c3 : Nat} {ws rs : List Int}
   (F : Fr h₀ L s.heap (parkVars m tot cars more al row spots taken t1 t2 t3)) (N : News h₀ L s.heap (baseOf pl taken spots row wl l vpl vtk vsp vrow wvs rvs c1 c2 c3 (cellsOf L o1 o2 o3 o4 o5 o6 o7 o8 o9 o10 o11)))
   (hvw : IntsAre wvs ws) (hwl : ws.length ≤ 5) (hvs : IntsAre rvs rs) (hrl : rs.length = 6) (hrb : ∀ r ∈ rs, 0 ≤ r ∧ r < 16) (hb : 0 ≤ b ∧ b < 3)
   (d2 : o2.data = .cell (some (.ref l))) (d3 : o3.data = .cell (some (.int b t5))) (d4 : o4.data = .cell (some (.ref wl)))
   (X : (hd.heap_39 w.params).In h₀) (T : TopRead vw LO mg mb h₀)
   (ret : ∀ h' tk m' leads ys fz, Fr h₀ L h' (kstB m' [(Str.ofString "leads", .ref leads), (Str.ofString "taken", .ref taken), (Str.ofString "spots", .ref spots), (Str.ofString "row", .ref row), (Str.ofString "more", .int more t1), (Str.ofString "cars", .int cars t2), (Str.ofString "total", .int tot t3), (Str.ofString "script", .ref al)]) →
     News h₀ L h' ((leads, lsOf ys ys.length) :: (baseOf pl taken spots row wl l vpl vtk vsp vrow wvs rvs c1 c2 c3 (cellsOf L o1 o2 o3 o4 o5 o6 o7 o8 o9 o10 o11) ++ fz)) → Off1 leads (baseOf pl taken spots row wl l vpl vtk vsp vrow wvs rvs c1 c2 c3 (cellsOf L o1 o2 o3 o4 o5 o6 o7 o8 o9 o10 o11) ++ fz) →
     WsAre w.params fz ys ((List.range 6).map fun j => leadW ws rs b (j : Nat)) → Apart fz (baseOf pl taken spots row wl l vpl vtk vsp vrow wvs rvs c1 c2 c3 (cellsOf L o1 o2 o3 o4 o5 o6 o7 o8 o9 o10 o11)) → Q .next { s with heap := h', toks := tk }) :
   wpAny (model Challenge.rw_sn0041_01.row.prog w) (A.deeper (lawEnv L fa cd)) (execs ((lawBody.drop 13).take 1) (lawEnv L fa cd)) Q E s := by
  walk_at "m_fill"
  obtain ⟨_, dp, fr, gd, un⟩ := A; dsimp only at hA hdp hu; subst hA
  dsimp only [parkVars, kstB] at F
  dsimp only [lawBody, lawEnv, lawFd, fdOf, List.drop, List.take]
  dsimp only [baseOf, cellsOf] at N
  k_unmd
  try k_fold
  walk_at "m_steps"
  walk_at "m_compA"
  walk_at "m_steps"
  (rename Fr _ _ _ _ => F₄); (rename News _ _ _ _ => N₄); (rename IsRange _ _ _ _ _ _ _ _ => hrg)
  refine CompSrc.range (n := 6) rfl F₄ N₄ hrg (small_one (by omega) (by omega) (by omega) (by omega)) (by rw [rangeSize_nat]; omega) (by rw [sizeLine_eq]; omega) fun g' => ?_
  refine comp_rest (fun i ys news => ∃ fz, WsAre w.params fz ys ((List.range i).map fun j => leadW ws rs b (j : Nat)) ∧ Apart fz (baseOf pl taken spots row wl l vpl vtk vsp vrow wvs rvs c1 c2 c3 (cellsOf L o1 o2 o3 o4 o5 o6 o7 o8 o9 o10 o11)) ∧ news = baseOf pl taken spots row wl l vpl vtk vsp vrow wvs rvs c1 c2 c3 (cellsOf L o1 o2 o3 o4 o5 o6 o7 o8 o9 o10 o11) ++ fz) (fun i v I oI C oC D m₂ ys news h tk E' hi hv hG hC hx F' N' off ne => ?_) ?_ _ _ ?_
  · obtain ⟨tv, rfl⟩ := hv
    obtain ⟨fz, hys, hap, rfl⟩ := hG
    simp only [baseOf, cellsOf, List.cons_append, List.nil_append] at N'
    k_unmd
    k_fold
    walk_at "m_steps"
    (rename Fr _ _ _ _ => F₅); (rename News _ _ _ _ => N₅); (rename Apart _ _ => ap₅); (rename IntsAre _ (cutL _ _ _) => hcut)
    rename_i D₅ ys₅ cc₅ hh₅ tt₅
    refine c_lead rfl (by walk_at "m_room") (by walk_at "m_units") F₅ N₅ (by k_in) T (.head _) hcut (by rw [cutL_len]; omega) (cutL_mem hrb) b t5 ⟨by omega, by omega⟩ fun x new h₆ tk₆ F₆ N₆ ap₆ hw₆ => ?_
    rw [Int.zero_add] at hw₆
    refine CompEnd.intro F₆ N₆ _ sub_new (off3_new off ap₆) trivial ⟨new ++ fz, ?_, apart_new hap ap₆, rfl⟩
    rw [List.range_succ, List.map_append]
    exact (hys.mono fun p hp => List.mem_append_right _ hp).snoc (hw₆.mono fun p hp => List.mem_append_left _ hp)
  · rintro ys news ⟨fz, hys, hap, rfl⟩
    intro D h₇ tk₇ F₇ N₇ off₇
    refine wpAny_execs_nil ?_
    exact ret _ _ _ D ys fz (fr_norm _ F₇ (by walk_at "m_frp")) N₇ off₇ hys hap
  · exact ⟨[], .nil, (fun _ _ _ h => nomatch h), (List.append_nil _).symm⟩
end

noncomputable abbrev leadVars (m : Str → Option Value) (tot cars more : Int) (al row spots taken leads : Addr) (t1 t2 t3 : Tok) : Str → Option Value := kstB m [(Str.ofString "leads", .ref leads), (Str.ofString "taken", .ref taken), (Str.ofString "spots", .ref spots), (Str.ofString "row", .ref row), (Str.ofString "more", .int more t1), (Str.ofString "cars", .int cars t2), (Str.ofString "total", .int tot t3), (Str.ofString "script", .ref al)]
theorem apart_off {fz B : List (Addr × Obj)} (h : Apart fz B) {a : Addr} {o : Obj} (hm : (a, o) ∈ B) : Off1 a fz := off1_of fun p hp => Ne.symm (h (a, o) hm p hp)
noncomputable def lastRuns (rs : List Int) (cars : Int) : List Int := List.take (min 5 rs.length - (5 - cars).toNat) (List.drop (5 - cars).toNat rs)
theorem sub_last {B new fz : List (Addr × Obj)} {d : Addr × Obj} : ∀ p ∈ B ++ (new ++ fz), p ∈ new ++ d :: (B ++ fz) := by
  intro p hp
  simp only [List.mem_cons, List.mem_append] at hp ⊢
  rcases hp with h | h | h <;> simp [h]
theorem apart_last {B new fz : List (Addr × Obj)} {d : Addr × Obj} (h : Apart fz B) (ap : Apart new (d :: (B ++ fz))) : Apart (new ++ fz) B := fun p hp q hq => by
  rcases List.mem_append.mp hq with hq | hq
  · exact ap p (.tail _ (List.mem_append_left _ hp)) q hq
  · exact h p hp q hq
section
variable {w : World} {mg mb : Str → Option Value} {A : Around} {s : Shared} {Q : Flow → Shared → Prop} {E : Value → Shared → Prop} {h₀ : Heap} {L fa : Addr} {cd : Value} {m : Str → Option Value} {news : List (Addr × Obj)}
theorem law_D2 (hA : A.handled = none) (hdp : A.depth + 60 < recursionLimit) (hu : A.units + 8000 < cLine) {al : Addr} {o1 o2 o3 o4 o5 o6 o7 o8 o9 o10 o11 : Obj} {tot cars more b : Int} {t1 t2 t3 t5 : Tok} {l wl row spots taken pl leads : Addr} {rvs wvs vrow vpl vsp vtk vld : List Value} {c1 c2 c3 cl : Nat} {rs : List Int} {fz : List (Addr × Obj)}
   (F : Fr h₀ L s.heap (leadVars m tot cars more al row spots taken leads t1 t2 t3)) (N : News h₀ L s.heap ((leads, lsOf vld cl) :: (baseOf pl taken spots row wl l vpl vtk vsp vrow wvs rvs c1 c2 c3 (cellsOf L o1 o2 o3 o4 o5 o6 o7 o8 o9 o10 o11) ++ fz)))
   (hvs : IntsAre rvs rs) (hrl : rs.length = 6) (hrb : ∀ r ∈ rs, 0 ≤ r ∧ r < 16) (hb : 0 ≤ b ∧ b < 3) (hc1 : 3 ≤ cars) (hc2 : cars ≤ 5)
   (d2 : o2.data = .cell (some (.ref l))) (d3 : o3.data = .cell (some (.int b t5))) (d6 : o6.data = .cell none)
   (hap : Apart fz ((leads, lsOf vld cl) :: baseOf pl taken spots row wl l vpl vtk vsp vrow wvs rvs c1 c2 c3 (cellsOf L o1 o2 o3 o4 o5 o6 o7 o8 o9 o10 o11))) (n1 : @LT.lt Nat _ (L + 1 + 1 + 1 + 1 + 1 + 1 + 1 + 1 + 1 + 1 + 1) l) (n2 : @LT.lt Nat _ l wl) (n3 : @LT.lt Nat _ wl row) (n4 : @LT.lt Nat _ wl spots) (n5 : @LT.lt Nat _ wl taken) (n6 : @LT.lt Nat _ wl pl) (n7 : @Ne Nat leads (L + 1 + 1 + 1 + 1 + 1 + 1))
   (X : (hd.heap_39 w.params).In h₀) (T : TopRead vw LO mg mb h₀)
   (ret : ∀ h' tk m' x o6' new t1 t2 t3, Fr h₀ L h' (leadVars m' tot cars more al row spots taken leads t1 t2 t3) → News h₀ L h' ((leads, lsOf vld cl) :: (baseOf pl taken spots row wl l vpl vtk vsp vrow wvs rvs c1 c2 c3 (cellsOf L o1 o2 o3 o4 o5 o6' o7 o8 o9 o10 o11) ++ (new ++ fz))) →
     Apart (new ++ fz) ((leads, lsOf vld cl) :: baseOf pl taken spots row wl l vpl vtk vsp vrow wvs rvs c1 c2 c3 (cellsOf L o1 o2 o3 o4 o5 o6 o7 o8 o9 o10 o11)) → IsWs w.params new x (wsOf (leadStr (lastRuns rs cars) (b + 1))) → o6'.data = .cell (some (.ref x)) → Q .next { s with heap := h', toks := tk }) :
   wpAny (model Challenge.rw_sn0041_01.row.prog w) (A.deeper (lawEnv L fa cd)) (execs ((lawBody.drop 14).take 1) (lawEnv L fa cd)) Q E s := by
  walk_at "m_fill"
  obtain ⟨_, dp, fr, gd, un⟩ := A; dsimp only at hA hdp hu; subst hA
  dsimp only [leadVars, kstB] at F
  dsimp only [lawBody, lawEnv, lawFd, fdOf, List.drop, List.take]
  simp only [baseOf, cellsOf, List.cons_append, List.nil_append] at N
  have hvl := hvs.length
  k_unmd
  try k_fold
  walk_at "m_steps"
  (rename Fr _ _ _ _ => F₅); (rename News _ _ _ _ => N₅); (rename IntsAre _ (List.take _ _) => hsl); (rename List.length (List.take _ _) = _ => hsl2)
  refine c_lead rfl (by walk_at "m_room") (by walk_at "m_units") F₅ N₅ (by k_in) T (.head _) hsl (by rw [hsl2]; omega) (fun r hr => hrb r (List.mem_of_mem_drop (List.mem_of_mem_take hr))) _ _ ⟨by omega, by omega⟩ fun x new h₆ tk₆ F₆ N₆ ap₆ hw₆ => ?_
  have ap₇ := apart_last (B := (leads, lsOf vld cl) :: baseOf pl taken spots row wl l vpl vtk vsp vrow wvs rvs c1 c2 c3 (cellsOf L o1 o2 o3 o4 o5 o6 o7 o8 o9 o10 o11)) hap ap₆
  have N₇ := Bk.drop N₆ (sub_last (B := (leads, lsOf vld cl) :: baseOf pl taken spots row wl l vpl vtk vsp vrow wvs rvs c1 c2 c3 (cellsOf L o1 o2 o3 o4 o5 o6 o7 o8 o9 o10 o11)))
  clear N₆ F₅ N₅ ap₆
  have a6 : Off1 (L + 1 + 1 + 1 + 1 + 1 + 1) (new ++ fz) := apart_off ap₇ (by k_mem)
  obtain ⟨fw, hfw⟩ : ∃ fw, new ++ fz = fw := ⟨_, rfl⟩
  rw [hfw] at N₇ a6
  simp only [baseOf, cellsOf, List.cons_append, List.nil_append] at N₇
  show wpAny _ _ _ _ _ _
  walk_at "m_steps"
  (rename Fr _ _ _ _ => F₈); (rename News _ _ _ _ => N₈)
  subst hfw
  exact ret _ _ _ x _ new _ _ _ (fr_norm _ F₈ (by walk_at "m_frp")) N₈ ap₇ hw₆ (by assumption)
end

theorem WsAre.at {P : Params} {a : List (Addr × Obj)} : ∀ {ys : List Value} {Ws : List WS} {i : Nat} {v : Value}, WsAre P a ys Ws → ys[i]? = some v → ∃ x W, v = .ref x ∧ Ws[i]? = some W ∧ IsWs P a x W
  | _, _, i, v, .nil, h => by simp at h
  | _, _, 0, v, .cons hx _, h => by
    simp only [List.getElem?_cons_zero, Option.some.injEq] at h
    exact ⟨_, _, h.symm, rfl, hx⟩
  | _, _, i + 1, v, .cons _ r, h => by
    simp only [List.getElem?_cons_succ] at h ⊢
    exact r.at h
theorem Bk.also {h₀ h : Heap} {L : Addr} {a b : List (Addr × Obj)} (N : News h₀ L h a) (hb : ∀ p ∈ b, p ∈ a) : News h₀ L h (b ++ a) := fun p hp => by
  rcases List.mem_append.mp hp with hp | hp
  · exact N p (hb p hp)
  · exact N p hp
theorem sub_right2 {A B C fz : List (Addr × Obj)} (h : ∀ p ∈ C, p ∈ fz) : ∀ p ∈ C, p ∈ A ++ (B ++ fz) := fun p hp => List.mem_append_right _ (List.mem_append_right _ (h p hp))
local macro_rules | `(tactic| walk_at "call ref") => `(tactic| (k_here; k_dflt (refine' c_less ?hA ?hd ?hu ?F ?N ?X ?T ?hw ?ok ?hw' ?ok' ?_; (case hA => rfl); (case F => k_asm); (case N => k_asm); (case X => k_asm); (case T => k_asm); (case hw => walk_at "m_ws"); (case ok => assumption); (case hw' => walk_at "m_ws"); (case ok' => assumption); (case hd => walk_at "m_room"); (case hu => walk_at "m_units"); k_whole; intro h' tk' F' N'; (try ground_anew F'))))
section
variable {w : World} {mg mb : Str → Option Value} {A : Around} {s : Shared} {Q : Flow → Shared → Prop} {E : Value → Shared → Prop} {h₀ : Heap} {L fa : Addr} {cd : Value} {m : Str → Option Value} {news : List (Addr × Obj)}
theorem law_D3 (hA : A.handled = none) (hdp : A.depth + 60 < recursionLimit) (hu : A.units + 8000 < cLine) {al : Addr} {o1 o2 o3 o4 o5 o6 o7 o8 o9 o10 o11 : Obj} {tot cars more : Int} {t1 t2 t3 : Tok} {l wl row spots taken pl leads xl : Addr} {rvs wvs vrow vpl vsp vtk ys : List Value} {c1 c2 c3 cl : Nat} {fz : List (Addr × Obj)} {Ws : List WS} {Wl : WS}
   (F : Fr h₀ L s.heap (leadVars m tot cars more al row spots taken leads t1 t2 t3)) (N : News h₀ L s.heap ((leads, lsOf ys cl) :: (baseOf pl taken spots row wl l vpl vtk vsp vrow wvs rvs c1 c2 c3 (cellsOf L o1 o2 o3 o4 o5 o6 o7 o8 o9 o10 o11) ++ fz)))
   (hW : WsAre w.params fz ys Ws) (hlen : Ws.length = 6) (hok : ∀ W ∈ Ws, W.Ok) (hl : IsWs w.params fz xl Wl) (hlok : Wl.Ok)
   (d6 : o6.data = .cell (some (.ref xl))) (d7 : o7.data = .cell none)
   (hap : Apart fz ((leads, lsOf ys cl) :: baseOf pl taken spots row wl l vpl vtk vsp vrow wvs rvs c1 c2 c3 (cellsOf L o1 o2 o3 o4 o5 o6 o7 o8 o9 o10 o11))) (n1 : @LT.lt Nat _ (L + 1 + 1 + 1 + 1 + 1 + 1 + 1 + 1 + 1 + 1 + 1) l) (n2 : @LT.lt Nat _ l wl) (n3 : @LT.lt Nat _ wl row) (n4 : @LT.lt Nat _ wl spots) (n5 : @LT.lt Nat _ wl taken) (n6 : @LT.lt Nat _ wl pl) (n7 : @Ne Nat leads (L + 1 + 1 + 1 + 1 + 1 + 1 + 1))
   (X : (hd.heap_39 w.params).In h₀) (T : TopRead vw LO mg mb h₀)
   (ret : ∀ h' tk m' an o7' t1 t2 t3, Fr h₀ L h' (leadVars m' tot cars more al row spots taken leads t1 t2 t3) →
      News h₀ L h' ((an, lsOf (Ws.map fun W => .bool (W.lessB Wl)) 6) :: (leads, lsOf ys cl) :: (baseOf pl taken spots row wl l vpl vtk vsp vrow wvs rvs c1 c2 c3 (cellsOf L o1 o2 o3 o4 o5 o6 o7' o8 o9 o10 o11) ++ fz)) →
      Off1 an ((leads, lsOf ys cl) :: (baseOf pl taken spots row wl l vpl vtk vsp vrow wvs rvs c1 c2 c3 (cellsOf L o1 o2 o3 o4 o5 o6 o7 o8 o9 o10 o11) ++ fz)) → o7'.data = .cell (some (.ref an)) → Q .next { s with heap := h', toks := tk }) :
   wpAny (model Challenge.rw_sn0041_01.row.prog w) (A.deeper (lawEnv L fa cd)) (execs ((lawBody.drop 15).take 1) (lawEnv L fa cd)) Q E s := by
  walk_at "m_fill"
  obtain ⟨_, dp, fr, gd, un⟩ := A; dsimp only at hA hdp hu; subst hA
  dsimp only [leadVars, kstB] at F
  dsimp only [lawBody, lawEnv, lawFd, fdOf, List.drop, List.take]
  simp only [baseOf, cellsOf, List.cons_append, List.nil_append] at N
  have hyl := hW.length
  k_unmd
  try k_fold
  walk_at "m_steps"
  walk1
  walk_at "m_comp"
  walk_at "m_steps"
  (rename Fr _ _ _ _ => F₄); (rename News _ _ _ _ => N₄)
  refine CompSrc.ledger rfl F₄ N₄ (by k_mem) (by rw [List.size_toArray, sizeLine_eq]; omega) fun g' => ?_
  refine comp_rest (fun i zs news => zs = (Ws.take i).map (fun W => Value.bool (W.lessB Wl)) ∧ news = (leads, lsOf ys cl) :: (baseOf pl taken spots row wl l vpl vtk vsp vrow wvs rvs c1 c2 c3 (cellsOf L o1 o2 o3 o4 o5 o6 o7 o8 o9 o10 o11) ++ fz)) (fun i v I oI C oC D m₂ zs news h tk E' hi hv hG hC hx F' N' off ne => ?_) ?_ _ _ ⟨rfl, rfl⟩
  · obtain ⟨rfl, rfl⟩ := hG
    obtain ⟨x, W, rfl, hWi, hx'⟩ := hW.at (by simpa using hv)
    have okW := hok W (List.mem_of_getElem? hWi)
    obtain ⟨dx, nm, ct, vs, k1, k2, k3, k4, k5, tr, tn, tnt, tb, hw⟩ := hx'
    obtain ⟨dx', nm', ct', vs', k1', k2', k3', k4', k5', tr', tn', tnt', tb', hw'⟩ := hl
    have N'' := Bk.also N' (b := wsNd w.params x dx nm ct W vs k1 k2 k3 k4 k5 tr tn tnt tb ++ wsNd w.params xl dx' nm' ct' Wl vs' k1' k2' k3' k4' k5' tr' tn' tnt' tb') (by
      intro p hp
      have : p ∈ fz := by
        rcases List.mem_append.mp hp with hp | hp
        · exact hw.sub p hp
        · exact hw'.sub p hp
      exact .tail _ (.tail _ (.tail _ (.tail _ (List.mem_append_right _ this)))))
    simp only [wsNd, baseOf, cellsOf, List.cons_append, List.nil_append] at N''
    have hi5 := hw.i5
    have hi5' := hw'.i5
    clear N' hw hw'
    k_unmd
    k_fold
    walk_at "m_steps"
    (rename Fr _ _ _ _ => F₅); (rename News _ _ _ _ => N₅)
    refine CompEnd.intro F₅ N₅ ((leads, lsOf ys cl) :: (baseOf pl taken spots row wl l vpl vtk vsp vrow wvs rvs c1 c2 c3 (cellsOf L o1 o2 o3 o4 o5 o6 o7 o8 o9 o10 o11) ++ fz)) (fun p hp => .tail _ (.tail _ (.tail _ (.tail _ (.tail _ (.tail _ (.tail _ (.tail _ hp)))))))) off (.inr ⟨_, by k_mem, rfl, _, rfl⟩) ⟨?_, rfl⟩
    rw [List.take_add_one, hWi, List.map_append]
    rfl
  · rintro zs news ⟨rfl, rfl⟩ D h₅ tk₅ F₅ N₅ off₅
    rw [List.take_of_length_le (by rw [List.size_toArray]; omega)] at N₅
    have off := off₅
    have a7 : Off1 (L + 1 + 1 + 1 + 1 + 1 + 1 + 1) fz := apart_off hap (by k_mem)
    simp only [LCg.lst, baseOf, cellsOf, List.cons_append, List.nil_append] at N₅
    simp only [baseOf, cellsOf, List.cons_append, List.nil_append, LCg.Off1] at off
    clear F₄ N₄
    show wpAny _ _ _ _ _ _
    walk_at "m_steps"
    (rename Fr _ _ _ _ => F₆); (rename News _ _ _ _ => N₆)
    rw [List.length_map, hlen] at N₆
    exact ret _ _ _ D _ _ _ _ (fr_norm _ F₆ (by walk_at "m_frp")) N₆ off₅ (by assumption)
end

theorem fold_frees : ∀ q, q < 64 → (rangeKs 0 6).foldl (fun l k => if q.testBit k.toNat = true then l ++ [k] else l) [] = frees q := by decide +kernel
theorem fold_takes : ∀ q, q < 64 → (rangeKs 0 6).foldl (fun l k => if q.testBit k.toNat = false then l ++ [k] else l) [] = takes q := by decide +kernel
theorem grows_t (q : Nat) (b : Bool) : KPfGrows (fun l k => if q.testBit k.toNat = b then l ++ [k] else l) := fun l k => by
  dsimp only
  split
  · simp
  · omega
theorem if_yes {q : Nat} {k : Int} {b : Bool} {l : List Int} (h : q.testBit k.toNat = b) : (if q.testBit k.toNat = b then l ++ [k] else l) = l ++ [k] := if_pos h
theorem if_no {q : Nat} {k : Int} {b : Bool} {l : List Int} (h : ¬ q.testBit k.toNat = b) : (if q.testBit k.toNat = b then l ++ [k] else l) = l := if_neg h
noncomputable abbrev ansVars (m : Str → Option Value) (tot cars more : Int) (al row spots taken leads : Addr) (t1 t2 t3 : Tok) : Str → Option Value := leadVars m tot cars more al row spots taken leads t1 t2 t3
theorem bl_item {prog : Program} {w : World} {A : Around} {E : Value → Shared → Prop} {s : Shared} {h₀ : Heap} {L a : Addr} {news : List (Addr × Obj)} {vs : List Value} {c : Nat} {value slice : Expr} {k : Int} {u : Tok} {v : Value} {Q : Value → Shared → Prop}
    (N : News h₀ L s.heap news) (hm : (a, lsOf vs c) ∈ news) (h0 : 0 ≤ k) (hv : vs[k.toNat]? = some v) (hk : vs.length < 2 ^ 20) (h : Q v s)
    (hs : subscripted slice false (.ref a) (.int k u) = operate [.ref a, .int k u] (getItem (.ref a) (.int k u)) := by with_unfolding_all rfl) (hg : ∀ r, letTemporaryGo value (.ref a) r = pure () := by intro _; with_unfolding_all rfl) :
    wpAny (model prog w) A (subscriptTail value slice (.ref a) (.int k u)) Q E s := by
  have hlt : k.toNat < vs.length := by
    rcases Nat.lt_or_ge k.toNat vs.length with h | h
    · exact h
    · rw [List.getElem?_eq_none h] at hv; cases hv
  exact item_listL (News.isList N hm) h0 (by omega) hv h hs hg
noncomputable def bitsOf (q : Nat) : List Value := (List.range 6).map fun j => Value.bool (q.testBit j)
theorem bits_at (q : Nat) {k : Int} (h0 : 0 ≤ k) (h1 : k < 6) : (bitsOf q)[k.toNat]? = some (.bool (q.testBit k.toNat)) := by
  unfold bitsOf
  rw [List.getElem?_map, List.getElem?_range (by omega)]
  rfl
local macro_rules | `(tactic| walk_at "subscriptTail") => `(tactic| (k_here; (with_reducible show wpAny _ _ (subscriptTail _ _ (Value.ref _) (Value.int _ _)) _ _ _); k_dflt (refine' bl_item ?k1 ?k2 ?k3 (bits_at _ ?k4 ?k5) ?k6 ?_; (case k1 => k_asm); (case k2 => k_mem); (case k3 => omega); (case k4 => omega); (case k5 => omega); (case k6 => simp [bitsOf]); k_whole)))
local macro_rules | `(tactic| walk_at "m_compT") => `(tactic| k_dflt (refine LCt.ListComp_T (F₀ := by k_asm) (by with_unfolding_all rfl) (by decide) (by rfl) (by decide) (by rfl) ?_))
section
variable {w : World} {mg mb : Str → Option Value} {A : Around} {s : Shared} {Q : Flow → Shared → Prop} {E : Value → Shared → Prop} {h₀ : Heap} {L fa : Addr} {cd : Value} {m : Str → Option Value} {news : List (Addr × Obj)}
theorem law_D4 (hA : A.handled = none) (hdp : A.depth + 60 < recursionLimit) (hu : A.units + 8000 < cLine) {al : Addr} {o1 o2 o3 o4 o5 o6 o7 o8 o9 o10 o11 : Obj} {tot cars more : Int} {t1 t2 t3 : Tok} {l wl row spots taken pl leads an : Addr} {rvs wvs vrow vpl vsp vtk ys : List Value} {c1 c2 c3 cl : Nat} {fz : List (Addr × Obj)} {q : Nat}
   (F : Fr h₀ L s.heap (leadVars m tot cars more al row spots taken leads t1 t2 t3)) (N : News h₀ L s.heap ((an, lsOf (bitsOf q) 6) :: (leads, lsOf ys cl) :: (baseOf pl taken spots row wl l vpl vtk vsp vrow wvs rvs c1 c2 c3 (cellsOf L o1 o2 o3 o4 o5 o6 o7 o8 o9 o10 o11) ++ fz)))
   (hq : q < 64) (hrow : IntsAre vrow (rowOf (frees q))) (htk : IntsAre vtk (takes q)) (d7 : o7.data = .cell (some (.ref an)))
   (hap : Apart fz ((leads, lsOf ys cl) :: baseOf pl taken spots row wl l vpl vtk vsp vrow wvs rvs c1 c2 c3 (cellsOf L o1 o2 o3 o4 o5 o6 o7 o8 o9 o10 o11)))
   (X : (hd.heap_39 w.params).In h₀) (T : TopRead vw LO mg mb h₀)
   (ret : ∀ h' tk m' t1 t2 t3, Fr h₀ L h' (leadVars m' tot cars more al row spots taken leads t1 t2 t3) →
      News h₀ L h' ((leads, lsOf ys cl) :: (baseOf pl taken spots row wl l vpl vtk vsp vrow wvs rvs c1 c2 c3 (cellsOf L o1 o2 o3 o4 o5 o6 o7 o8 o9 o10 o11) ++ fz)) → Q .next { s with heap := h', toks := tk }) :
   wpAny (model Challenge.rw_sn0041_01.row.prog w) (A.deeper (lawEnv L fa cd)) (execs ((lawBody.drop 16).take 2) (lawEnv L fa cd)) Q E s := by
  walk_at "m_fill"
  obtain ⟨_, dp, fr, gd, un⟩ := A; dsimp only at hA hdp hu; subst hA
  dsimp only [leadVars, kstB] at F
  dsimp only [lawBody, lawEnv, lawFd, fdOf, List.drop, List.take]
  simp only [baseOf, cellsOf, List.cons_append, List.nil_append] at N
  obtain ⟨R, hR⟩ : ∃ R, rowOf (frees q) = R := ⟨_, rfl⟩
  have hRl : R.length = (frees q).length + 2 := by rw [← hR]; simp [rowOf]
  have hst := split_len q hq
  have hRs : (R.drop 1).take (R.length - 1 - 1) = frees q := by rw [hRl, ← hR]; simp [rowOf]
  rw [hR] at hrow
  have hrl := hrow.length
  have htl := htk.length
  k_unmd
  try k_fold
  walk_at "m_steps"
  walk_at "m_compT"
  walk_at "m_steps"
  (rename Fr _ _ _ _ => F₄); (rename News _ _ _ _ => N₄); (rename IsRange _ _ _ _ _ _ _ _ => hrg)
  refine LCt.CompSrcT.range (n := 6) rfl F₄ N₄ hrg (small_one (by omega) (by omega) (by omega) (by omega)) (by rw [rangeSize_nat]; omega) (by rw [sizeLine_eq]; omega) fun g' => ?_
  refine kci_range (fun l k => if q.testBit k.toNat = true then l ++ [k] else l) (fun k t I oI C oC D m₂ ys' l' h tk E' hk0 hk1 hys hC hx F' N' off ne mk => ?_) ?_ (grows_t q true)
  · clear F₄ N₄ hrg mk
    have off0 := off
    simp only [LCg.Off3, and_true] at off
    k_unmd
    k_fold
    walk_at "m_steps"
    · (rename Fr _ _ _ _ => F₅); (rename News _ _ _ _ => N₅); (rename (q.testBit k.toNat == true) = true => hb)
      exact CompEnd.intro F₅ N₅ ((an, lsOf (bitsOf q) 6) :: (leads, lsOf ys cl) :: (baseOf pl taken spots row wl l vpl vtk vsp vrow wvs rvs c1 c2 c3 (cellsOf L o1 o2 o3 o4 o5 o6 o7 o8 o9 o10 o11) ++ fz)) (fun _ h => h) off0 trivial (kci_el (if_yes (by simpa using hb)) rfl rfl)
    · (rename Fr _ _ _ _ => F₅); (rename News _ _ _ _ => N₅); (rename (q.testBit k.toNat == true) = false => hb)
      exact CompEnd.intro F₅ N₅ ((an, lsOf (bitsOf q) 6) :: (leads, lsOf ys cl) :: (baseOf pl taken spots row wl l vpl vtk vsp vrow wvs rvs c1 c2 c3 (cellsOf L o1 o2 o3 o4 o5 o6 o7 o8 o9 o10 o11) ++ fz)) (fun _ h => h) off0 trivial (kci_no (if_no (by simpa using hb)) rfl)
  · unfold KPfDone
    intro ys' hys hyl D h₅ tk₅ F₅ N₅ off
    rw [fold_frees q hq] at hys
    simp only [LCg.Off1, and_true] at off
    clear F₄ N₄ hrg
    simp only [LCg.lst] at N₅
    k_unmd
    try k_fold
    walk_at "m_steps"
    clear off
    (rename Fr _ _ _ _ => F₆); (rename News _ _ _ _ => N₆)
    replace N₆ := Bk.drop (b := (an, lsOf (bitsOf q) 6) :: (leads, lsOf ys cl) :: (baseOf pl taken spots row wl l vpl vtk vsp vrow wvs rvs c1 c2 c3 (cellsOf L o1 o2 o3 o4 o5 o6 o7 o8 o9 o10 o11) ++ fz)) N₆ (fun p hp => .tail _ (.tail _ hp))
    simp only [baseOf, cellsOf, List.cons_append, List.nil_append] at N₆
    walk_at "m_compT"
    walk_at "m_steps"
    (rename Fr _ _ _ _ => F₄); (rename News _ _ _ _ => N₄); (rename IsRange _ _ _ _ _ _ _ _ => hrg)
    refine LCt.CompSrcT.range (n := 6) rfl F₄ N₄ hrg (small_one (by omega) (by omega) (by omega) (by omega)) (by rw [rangeSize_nat]; omega) (by rw [sizeLine_eq]; omega) fun g' => ?_
    refine kci_range (fun l k => if q.testBit k.toNat = false then l ++ [k] else l) (fun k t I oI C oC D m₂ ys' l' h tk E' hk0 hk1 hys hC hx F' N' off ne mk => ?_) ?_ (grows_t q false)
    · clear F₄ N₄ hrg mk
      have off0 := off
      simp only [LCg.Off3, and_true] at off
      k_unmd
      k_fold
      walk_at "m_steps"
      · (rename Fr _ _ _ _ => F₅); (rename News _ _ _ _ => N₅); (rename (q.testBit k.toNat == false) = true => hb)
        exact CompEnd.intro F₅ N₅ ((an, lsOf (bitsOf q) 6) :: (leads, lsOf ys cl) :: (baseOf pl taken spots row wl l vpl vtk vsp vrow wvs rvs c1 c2 c3 (cellsOf L o1 o2 o3 o4 o5 o6 o7 o8 o9 o10 o11) ++ fz)) (fun _ h => h) off0 trivial (kci_el (if_yes (by simpa using hb)) rfl rfl)
      · (rename Fr _ _ _ _ => F₅); (rename News _ _ _ _ => N₅); (rename (q.testBit k.toNat == false) = false => hb)
        exact CompEnd.intro F₅ N₅ ((an, lsOf (bitsOf q) 6) :: (leads, lsOf ys cl) :: (baseOf pl taken spots row wl l vpl vtk vsp vrow wvs rvs c1 c2 c3 (cellsOf L o1 o2 o3 o4 o5 o6 o7 o8 o9 o10 o11) ++ fz)) (fun _ h => h) off0 trivial (kci_no (if_no (by simpa using hb)) rfl)
    · unfold KPfDone
      intro ys' hys hyl D h₅ tk₅ F₅ N₅ off
      rw [fold_takes q hq] at hys
      simp only [LCg.Off1, and_true] at off
      clear F₄ N₄ hrg
      simp only [LCg.lst] at N₅
      k_unmd
      try k_fold
      walk_at "m_steps"
      (rename Fr _ _ _ _ => F₆); (rename News _ _ _ _ => N₆)
      exact ret _ _ _ _ _ _ (fr_norm _ F₆ (by walk_at "m_frp")) (Bk.drop N₆ (fun p hp => .tail _ (.tail _ hp)))
end

noncomputable def hexW (more : Int) : Str := (Str.ofString "0x" ++ Txt.item (Str.ofString "0123456789abcdef") more) ++ Str.ofString "00000000"
noncomputable def wordsL (q : Nat) (bs more : Int) : List Str := ((takes q).map fun x => lawWord (bs + x)) ++ (if more > 0 then [hexW more] else [])
noncomputable abbrev wordVars (m : Str → Option Value) (tot cars more : Int) (al row spots taken leads words : Addr) (t1 t2 t3 : Tok) : Str → Option Value := kstB m [(Str.ofString "words", .ref words), (Str.ofString "leads", .ref leads), (Str.ofString "taken", .ref taken), (Str.ofString "spots", .ref spots), (Str.ofString "row", .ref row), (Str.ofString "more", .int more t1), (Str.ofString "cars", .int cars t2), (Str.ofString "total", .int tot t3), (Str.ofString "script", .ref al)]
theorem takes_mem : ∀ q, q < 64 → ∀ x ∈ takes q, 0 ≤ x ∧ x < 6 := by
  intro q _ x hx
  have h := (List.mem_filter.mp hx).1
  simp only [ring, List.mem_cons, List.not_mem_nil, or_false] at h
  omega
local macro_rules | `(tactic| walk_at "call ref") => `(tactic| (k_here; k_dflt (refine' c_word ?hA ?hd ?hu ?F ?N ?X ?T _ _ ?h1 ?h2 ?_; (case hA => rfl); (case F => k_asm); (case N => k_asm); (case X => k_asm); (case T => k_asm); (case h1 => omega); (case h2 => omega); (case hd => walk_at "m_room"); (case hu => walk_at "m_units"); k_whole; intro t' h' tk' F' N'; (try ground_anew F'))))
section
variable {w : World} {mg mb : Str → Option Value} {A : Around} {s : Shared} {Q : Flow → Shared → Prop} {E : Value → Shared → Prop} {h₀ : Heap} {L fa : Addr} {cd : Value} {m : Str → Option Value} {news : List (Addr × Obj)}
theorem law_E1 (hA : A.handled = none) (hdp : A.depth + 60 < recursionLimit) (hu : A.units + 8000 < cLine) {al : Addr} {o1 o2 o3 o4 o5 o6 o7 o8 o9 o10 o11 : Obj} {tot cars more bs : Int} {t1 t2 t3 t4 : Tok} {l wl row spots taken pl leads : Addr} {rvs wvs vrow vpl vsp vtk ys : List Value} {c1 c2 c3 cl : Nat} {fz : List (Addr × Obj)} {q : Nat}
   (F : Fr h₀ L s.heap (leadVars m tot cars more al row spots taken leads t1 t2 t3)) (N : News h₀ L s.heap ((leads, lsOf ys cl) :: (baseOf pl taken spots row wl l vpl vtk vsp vrow wvs rvs c1 c2 c3 (cellsOf L o1 o2 o3 o4 o5 o6 o7 o8 o9 o10 o11) ++ fz)))
   (hq : q < 64) (htk : IntsAre vtk (takes q)) (d1 : o1.data = .cell (some (.int bs t4))) (hbs : 0 ≤ bs ∧ bs < 27) (hm : 0 ≤ more ∧ more < 16)
   (X : (hd.heap_39 w.params).In h₀) (T : TopRead vw LO mg mb h₀)
   (ret : ∀ h' tk m' words us c t1 t2 t3, Fr h₀ L h' (wordVars m' tot cars more al row spots taken leads words t1 t2 t3) → StrsAre us (wordsL q bs more) →
      News h₀ L h' ((words, lsOf us c) :: (leads, lsOf ys cl) :: (baseOf pl taken spots row wl l vpl vtk vsp vrow wvs rvs c1 c2 c3 (cellsOf L o1 o2 o3 o4 o5 o6 o7 o8 o9 o10 o11) ++ fz)) → Q .next { s with heap := h', toks := tk }) :
   wpAny (model Challenge.rw_sn0041_01.row.prog w) (A.deeper (lawEnv L fa cd)) (execs ((lawBody.drop 18).take 2) (lawEnv L fa cd)) Q E s := by
  walk_at "m_fill"
  obtain ⟨_, dp, fr, gd, un⟩ := A; dsimp only at hA hdp hu; subst hA
  dsimp only [leadVars, kstB] at F
  dsimp only [lawBody, lawEnv, lawFd, fdOf, List.drop, List.take]
  simp only [baseOf, cellsOf, List.cons_append, List.nil_append] at N
  have htl := htk.length
  have hst := split_len q hq
  k_unmd
  try k_fold
  walk_at "m_steps"
  walk_at "m_compA"
  walk_at "m_steps"
  (rename Fr _ _ _ _ => F₄); (rename News _ _ _ _ => N₄)
  refine CompSrc.ledger rfl F₄ N₄ (by k_mem) (by rw [List.size_toArray, sizeLine_eq]; omega) fun g' => ?_
  refine comp_rest (fun i zs news => StrsAre zs (((takes q).take i).map fun x => lawWord (bs + x)) ∧ news = (leads, lsOf ys cl) :: (baseOf pl taken spots row wl l vpl vtk vsp vrow wvs rvs c1 c2 c3 (cellsOf L o1 o2 o3 o4 o5 o6 o7 o8 o9 o10 o11) ++ fz)) (fun i v I oI C oC D m₂ zs news h tk E' hi hv hG hC hx F' N' off ne => ?_) ?_ _ _ ⟨.nil, rfl⟩
  · obtain ⟨hzs, rfl⟩ := hG
    obtain ⟨k, t, rfl, hk⟩ := IntsAre.at htk i v (by simpa using hv)
    have hkb := takes_mem q hq k (List.mem_of_getElem? hk)
    have off0 := off
    simp only [LCg.Off3, and_true] at off
    simp only [baseOf, cellsOf, List.cons_append, List.nil_append] at N'
    clear F₄ N₄
    k_unmd
    k_fold
    walk_at "m_steps"
    (rename Fr _ _ _ _ => F₅); (rename News _ _ _ _ => N₅)
    refine CompEnd.intro F₅ N₅ ((leads, lsOf ys cl) :: (baseOf pl taken spots row wl l vpl vtk vsp vrow wvs rvs c1 c2 c3 (cellsOf L o1 o2 o3 o4 o5 o6 o7 o8 o9 o10 o11) ++ fz)) (fun _ h => h) off0 (.inr ⟨_, by k_mem, rfl, _, rfl⟩) ⟨?_, rfl⟩
    rw [List.take_add_one, hk]
    rw [List.map_append]
    exact StrsAre.append' hzs (.cons _ _ .nil)
  · rintro zs news ⟨hzs, rfl⟩ D h₅ tk₅ F₅ N₅ off
    rw [List.take_of_length_le (by rw [List.size_toArray]; omega)] at hzs
    have hzl := strs_len hzs
    simp only [LCg.lst, baseOf, cellsOf, List.cons_append, List.nil_append] at N₅
    simp only [baseOf, cellsOf, List.cons_append, List.nil_append, LCg.Off1] at off
    clear F₄ N₄
    k_unmd
    try k_fold
    walk_at "m_steps"
    · (rename Fr _ _ _ _ => F₆); (rename News _ _ _ _ => N₆); (rename 0 < more => h1)
      rw [List.push_toArray] at N₆
      refine ret _ _ _ D _ _ _ _ _ (fr_norm _ F₆ (by walk_at "m_frp")) ?_ N₆
      rw [wordsL, if_pos h1]
      exact StrsAre.append' hzs (.cons _ _ .nil)
    · (rename ¬ 0 < more => h1); (rename Fr _ _ _ _ => F₆); (rename News _ _ _ _ => N₆)
      refine ret _ _ _ D _ _ _ _ _ (fr_norm _ F₆ (by walk_at "m_frp")) ?_ N₆
      rw [wordsL, if_neg h1, List.append_nil]
      exact hzs
end

section
variable {w : World} {mg mb : Str → Option Value} {A : Around} {s : Shared} {Q : Flow → Shared → Prop} {E : Value → Shared → Prop} {h₀ : Heap} {L fa : Addr} {cd : Value} {m : Str → Option Value} {news : List (Addr × Obj)}
theorem law_E2 (hA : A.handled = none) (hdp : A.depth + 60 < recursionLimit) (hu : A.units + 8000 < cLine) {al : Addr} {o1 o2 o3 o4 o5 o6 o7 o8 o9 o10 o11 : Obj} {tot cars more bs : Int} {t1 t2 t3 t4 : Tok} {l wl row spots taken pl leads words : Addr} {rvs wvs vrow vpl vsp vtk ys us : List Value} {c1 c2 c3 cl cw : Nat} {fz : List (Addr × Obj)} {sp : List Int} {W0 : List Str} {f : Nat}
   (F : Fr h₀ L s.heap (wordVars m tot cars more al row spots taken leads words t1 t2 t3)) (N : News h₀ L s.heap ((words, lsOf us cw) :: (leads, lsOf ys cl) :: (baseOf pl taken spots row wl l vpl vtk vsp vrow wvs rvs c1 c2 c3 (cellsOf L o1 o2 o3 o4 o5 o6 o7 o8 o9 o10 o11) ++ fz)))
   (hsp : IntsAre vsp sp) (hspl : sp.length ≤ 6) (hsb : ∀ x ∈ sp, 0 ≤ x ∧ x < 6) (d1 : o1.data = .cell (some (.int bs t4))) (hbs : 0 ≤ bs ∧ bs < 27) (hm : 0 ≤ more ∧ more < 16) (hws : StrsAre us W0) (hf : f < 2 ^ 36) (hsum : (sp.map fun x => (2 : Int) ^ (bs + x).toNat).sum + more * 2 ^ Int.toNat 32 = (f : Int)) (hpf : pfOut f = W0)
   (X : (hd.heap_39 w.params).In h₀) (T : TopRead vw LO mg mb h₀)
   (ret : ∀ h' tk m' t1 t2 t3, Fr h₀ L h' (wordVars m' tot cars more al row spots taken leads words t1 t2 t3) →
      News h₀ L h' ((leads, lsOf ys cl) :: (baseOf pl taken spots row wl l vpl vtk vsp vrow wvs rvs c1 c2 c3 (cellsOf L o1 o2 o3 o4 o5 o6 o7 o8 o9 o10 o11) ++ fz)) → Q .next { s with heap := h', toks := tk }) :
   wpAny (model Challenge.rw_sn0041_01.row.prog w) (A.deeper (lawEnv L fa cd)) (execs ((lawBody.drop 20).take 1) (lawEnv L fa cd)) Q E s := by
  walk_at "m_fill"
  obtain ⟨_, dp, fr, gd, un⟩ := A; dsimp only at hA hdp hu; subst hA
  dsimp only [wordVars, kstB] at F
  dsimp only [lawBody, lawEnv, lawFd, fdOf, List.drop, List.take]
  simp only [baseOf, cellsOf, List.cons_append, List.nil_append] at N
  have hspl2 := hsp.length
  k_unmd
  try k_fold
  walk_at "m_steps"
  walk_at "m_comp"
  walk_at "m_steps"
  (rename Fr _ _ _ _ => F₄); (rename News _ _ _ _ => N₄)
  refine CompSrc.ledger rfl F₄ N₄ (by k_mem) (by rw [List.size_toArray, sizeLine_eq]; omega) fun g' => ?_
  refine comp_rest (fun i zs news => IntsAre zs ((sp.take i).map fun x => 2 ^ (bs + x).toNat) ∧ news = (words, lsOf us cw) :: (leads, lsOf ys cl) :: (baseOf pl taken spots row wl l vpl vtk vsp vrow wvs rvs c1 c2 c3 (cellsOf L o1 o2 o3 o4 o5 o6 o7 o8 o9 o10 o11) ++ fz)) (fun i v I oI C oC D m₂ zs news h tk E' hi hv hG hC hx F' N' off ne => ?_) ?_ _ _ ⟨.nil, rfl⟩
  · obtain ⟨hzs, rfl⟩ := hG
    obtain ⟨k, t, rfl, hk⟩ := IntsAre.at hsp i v (by simpa using hv)
    have hkb := hsb k (List.mem_of_getElem? hk)
    have off0 := off
    simp only [LCg.Off3, and_true] at off
    simp only [baseOf, cellsOf, List.cons_append, List.nil_append] at N'
    clear F₄ N₄
    k_unmd
    k_fold
    walk_at "m_steps"
    (rename Fr _ _ _ _ => F₅); (rename News _ _ _ _ => N₅)
    refine CompEnd.intro F₅ N₅ ((words, lsOf us cw) :: (leads, lsOf ys cl) :: (baseOf pl taken spots row wl l vpl vtk vsp vrow wvs rvs c1 c2 c3 (cellsOf L o1 o2 o3 o4 o5 o6 o7 o8 o9 o10 o11) ++ fz)) (fun _ h => h) off0 (.inr ⟨_, by k_mem, rfl, _, rfl⟩) ⟨?_, rfl⟩
    rw [List.take_add_one, hk]
    rw [List.map_append, Int.one_mul]
    exact IntsAre.append hzs (.cons _ _ .nil)
  · rintro zs news ⟨hzs, rfl⟩ D h₅ tk₅ F₅ N₅ off
    rw [List.take_of_length_le (by rw [List.size_toArray]; omega)] at hzs
    have hzl := hzs.length
    simp only [LCg.lst, baseOf, cellsOf, List.cons_append, List.nil_append] at N₅
    simp only [baseOf, cellsOf, List.cons_append, List.nil_append, LCg.Off1] at off
    clear F₄ N₄
    k_unmd
    try k_fold
    walk_at "m_steps"
    (rename Fr _ _ _ _ => F₆); (rename News _ _ _ _ => N₆)
    rw [hsum]
    refine c_flags rfl (by walk_at "m_room") (by walk_at "m_units") F₆ N₆ (by k_in) T f _ hf fun t₇ h₇ tk₇ F₇ N₇ => ?_
    have hj := pfOut_le hf
    rw [hpf] at hj ⊢
    clear F₆ N₆
    walk_at "m_steps"
    refine join_list (News.isList N₇ (.tail _ (.head _))) hws (by show _ + _ * 2 ≤ _; omega) fun t6 k6 => ?_
    walk_at "m_steps"
    (rename Fr _ _ _ _ => F₈); (rename News _ _ _ _ => N₈)
    exact ret _ _ _ _ _ _ (fr_norm _ F₈ (by walk_at "m_frp")) (Bk.drop N₈ (fun p hp => .tail _ (.tail _ hp)))
end

noncomputable abbrev dueVars (m : Str → Option Value) (tot cars more : Int) (al row spots taken leads due back : Addr) (t1 t2 t3 : Tok) : Str → Option Value := kstB m [(Str.ofString "back", .ref back), (Str.ofString "due", .ref due), (Str.ofString "leads", .ref leads), (Str.ofString "taken", .ref taken), (Str.ofString "spots", .ref spots), (Str.ofString "row", .ref row), (Str.ofString "more", .int more t1), (Str.ofString "cars", .int cars t2), (Str.ofString "total", .int tot t3), (Str.ofString "script", .ref al)]
noncomputable def edgeOf (q : Nat) (tot cars : Int) : Int := (rowOf (frees q)).getD (1 + (tot.fdiv 19440).fmod (6 - cars)).toNat 0
local macro_rules | `(tactic| walk_at "call ref") => `(tactic| (k_here; k_dflt (refine' c_cut ?hA ?hd ?hu ?F ?N ?X ?T ?hs ?hr ?hsv ?hrv ?hsl ?hrl _ _ ?_; (case hA => rfl); (case F => k_asm); (case N => k_asm); (case X => k_asm); (case T => k_asm); (case hs => k_mem); (case hr => k_mem); (case hsv => assumption); (case hrv => assumption); (case hsl => (first | assumption | omega)); (case hrl => (first | assumption | omega)); (case hd => walk_at "m_room"); (case hu => walk_at "m_units"); k_whole; intro D' ys' c' h' tk' F' N' ap' hI'; (try ground_anew F'))))
theorem off_of_apart {D : Addr} {o : Obj} {B : List (Addr × Obj)} (h : Apart [(D, o)] B) : Off1 D B := off1_of fun p hp => h p hp _ (.head _)
section
variable {w : World} {mg mb : Str → Option Value} {A : Around} {s : Shared} {Q : Flow → Shared → Prop} {E : Value → Shared → Prop} {h₀ : Heap} {L fa : Addr} {cd : Value} {m : Str → Option Value} {news : List (Addr × Obj)}
theorem law_F1 (hA : A.handled = none) (hdp : A.depth + 60 < recursionLimit) (hu : A.units + 8000 < cLine) {al : Addr} {o1 o2 o3 o4 o5 o6 o7 o8 o9 o10 o11 : Obj} {tot cars more : Int} {t1 t2 t3 : Tok} {l wl row spots taken pl leads : Addr} {rvs wvs vrow vpl vsp vtk ys : List Value} {c1 c2 c3 cl : Nat} {fz : List (Addr × Obj)} {q : Nat} {sp rs : List Int}
   (F : Fr h₀ L s.heap (leadVars m tot cars more al row spots taken leads t1 t2 t3)) (N : News h₀ L s.heap ((leads, lsOf ys cl) :: (baseOf pl taken spots row wl l vpl vtk vsp vrow wvs rvs c1 c2 c3 (cellsOf L o1 o2 o3 o4 o5 o6 o7 o8 o9 o10 o11) ++ fz)))
   (hq : q < 64) (hrow : IntsAre vrow (rowOf (frees q))) (hsp : IntsAre vsp sp) (hspl : sp.length ≤ 6) (hrs : IntsAre rvs rs) (hrl : rs.length = 6) (hc1 : 3 ≤ cars) (hc2 : cars ≤ 5) (hcf : ((frees q).length : Int) = 6 - cars)
   (d2 : o2.data = .cell (some (.ref l))) (d8 : o8.data = .cell none) (d9 : o9.data = .cell none)
   (hap : Apart fz ((leads, lsOf ys cl) :: baseOf pl taken spots row wl l vpl vtk vsp vrow wvs rvs c1 c2 c3 (cellsOf L o1 o2 o3 o4 o5 o6 o7 o8 o9 o10 o11))) (n1 : @LT.lt Nat _ (L + 1 + 1 + 1 + 1 + 1 + 1 + 1 + 1 + 1 + 1 + 1) l) (n2 : @LT.lt Nat _ l wl) (n3 : @LT.lt Nat _ wl row) (n4 : @LT.lt Nat _ wl spots) (n5 : @LT.lt Nat _ wl taken) (n6 : @LT.lt Nat _ wl pl) (n7 : @Ne Nat leads (L + 1 + 1 + 1 + 1 + 1 + 1 + 1 + 1)) (n8 : @Ne Nat leads (L + 1 + 1 + 1 + 1 + 1 + 1 + 1 + 1 + 1))
   (X : (hd.heap_39 w.params).In h₀) (T : TopRead vw LO mg mb h₀)
   (ret : ∀ h' tk m' ll vll cll due back o8' o9' t1 t2 t3 t8, Fr h₀ L h' (dueVars m' tot cars more al row spots taken leads due back t1 t2 t3) → IntsAre vll (cutL sp (edgeOf q tot cars) rs) →
      News h₀ L h' ((back, lsOf [] 0) :: (due, lsOf [] 0) :: (ll, lsOf vll cll) :: (leads, lsOf ys cl) :: (baseOf pl taken spots row wl l vpl vtk vsp vrow wvs rvs c1 c2 c3 (cellsOf L o1 o2 o3 o4 o5 o6 o7 o8' o9' o10 o11) ++ fz)) →
      o8'.data = .cell (some (.int (edgeOf q tot cars) t8)) → o9'.data = .cell (some (.ref ll)) →
      Apart [(ll, lsOf vll cll)] ((leads, lsOf ys cl) :: (baseOf pl taken spots row wl l vpl vtk vsp vrow wvs rvs c1 c2 c3 (cellsOf L o1 o2 o3 o4 o5 o6 o7 o8' o9 o10 o11) ++ fz)) →
      AllLt due ((ll, lsOf vll cll) :: (leads, lsOf ys cl) :: (baseOf pl taken spots row wl l vpl vtk vsp vrow wvs rvs c1 c2 c3 (cellsOf L o1 o2 o3 o4 o5 o6 o7 o8' o9' o10 o11) ++ fz)) → @LT.lt Nat _ due back → Q .next { s with heap := h', toks := tk }) :
   wpAny (model Challenge.rw_sn0041_01.row.prog w) (A.deeper (lawEnv L fa cd)) (execs ((lawBody.drop 21).take 4) (lawEnv L fa cd)) Q E s := by
  walk_at "m_fill"
  obtain ⟨_, dp, fr, gd, un⟩ := A; dsimp only at hA hdp hu; subst hA
  dsimp only [leadVars, kstB] at F
  dsimp only [lawBody, lawEnv, lawFd, fdOf, List.drop, List.take]
  simp only [baseOf, cellsOf, List.cons_append, List.nil_append] at N
  have hRl : (rowOf (frees q)).length = (frees q).length + 2 := by simp [rowOf]
  have hst := split_len q hq
  have hrl2 := hrow.length
  have a8 : Off1 (L + 1 + 1 + 1 + 1 + 1 + 1 + 1 + 1) fz := apart_off hap (by k_mem)
  have a9 : Off1 (L + 1 + 1 + 1 + 1 + 1 + 1 + 1 + 1 + 1) fz := apart_off hap (by k_mem)
  have hi1 := fmod_lo (tot.fdiv 19440) (n := 6 - cars) (by omega)
  have hi2 := fmod_hi (tot.fdiv 19440) (n := 6 - cars) (by omega)
  k_unmd
  try k_fold
  walk_at "m_steps"
  (rename Apart [_] _ => ap₅)
  have of₅ := off_of_apart ap₅
  simp only [Off1] at of₅
  walk_at "m_steps"
  rename_i due₈ _ lt₈ _ _ back₈ _ lt₉ _ F₉ N₉
  exact ret _ _ _ _ _ _ due₈ back₈ _ _ _ _ _ _ (fr_norm _ F₉ (by walk_at "m_frp")) (by assumption) N₉ (by assumption) (by assumption) ap₅ lt₈ lt₉.1
end

noncomputable def drv (P rs : List Int) (e z g : Int) : Int := P.getD ((e + 1 + g).fmod 6).toNat 0 * ((rs.getD g.toNat 0).fdiv z - (rs.getD (g - 1).toNat 0).fdiv z)
noncomputable def drvs (P rs : List Int) (e z : Int) : List Int := (rangeKs 1 5).map (drv P rs e z)
noncomputable def sumL (b z : Int) (xs : List Int) : Int := b + z * (xs.map fun x => x.fdiv z + 1).sum
noncomputable def nearL (b : Int) (P rs lens : List Int) (e z : Int) : Int := sumL b z lens - z * (drvs P rs e z).sum
noncomputable def dueL (b : Int) (P rs lens : List Int) (e : Int) (i : Nat) : List (Int × Int × Int) := (List.range i).filterMap fun (k : Nat) => if nearL b P rs lens e (1 + (k : Int)) < sumL b (1 + (k : Int)) lens then some (1 + (k : Int), sumL b (1 + (k : Int)) lens, nearL b P rs lens e (1 + (k : Int))) else none
noncomputable def backL (b : Int) (P rs lens lrs : List Int) (e : Int) (i : Nat) : List (Int × Int × Int) := (List.range i).map fun (k : Nat) => (1 + (k : Int), nearL b P rs lens e (1 + (k : Int)), sumL (b + 1) (1 + (k : Int)) lrs)
theorem off1_app {a : Addr} {x y : List (Addr × Obj)} (h1 : Off1 a x) (h2 : Off1 a y) : Off1 a (x ++ y) := off1_of fun p hp => by
  rcases List.mem_append.mp hp with hp | hp
  · exact off1_mem h1 p hp
  · exact off1_mem h2 p hp
noncomputable abbrev dueLed (back due ll leads : Addr) (us2 : List Value) (c2' : Nat) (us1 : List Value) (c1' : Nat) (vll : List Value) (cll : Nat) (ys : List Value) (cl : Nat) (B : List (Addr × Obj)) : List (Addr × Obj) := (back, lsOf us2 c2') :: (due, lsOf us1 c1') :: (ll, lsOf vll cll) :: (leads, lsOf ys cl) :: B
theorem range_at (a : Int) (n j : Nat) (h : j < n) : (rangeKs a n)[j]? = some (a + (j : Int)) := by simp [rangeKs, h]
theorem getD_bd {P : List Int} {B : Int} (h : ∀ p ∈ P, 0 ≤ p ∧ p < B) (hB : 0 < B) (k : Nat) : 0 ≤ P.getD k 0 ∧ P.getD k 0 < B := by
  rw [List.getD_eq_getElem?_getD]
  cases z : P[k]? with
  | none => exact ⟨Int.le_refl _, hB⟩
  | some y => exact h y (List.mem_of_getElem? z)
theorem Bk.skip2 {h₀ h : Heap} {L : Addr} {x y z : Addr × Obj} {r : List (Addr × Obj)} (N : News h₀ L h (x :: y :: z :: r)) : News h₀ L h (x :: r) := fun p hp => by
  rcases List.mem_cons.mp hp with rfl | hp
  · exact N _ (.head _)
  · exact N p (.tail _ (.tail _ (.tail _ hp)))
theorem apart_addr {tz B B' : List (Addr × Obj)} (e : B'.map (·.1) = B.map (·.1)) (h : Apart tz B) : Apart tz B' := fun p hp q hq => by
  have z : p.1 ∈ B.map (·.1) := e ▸ List.mem_map_of_mem hp
  obtain ⟨p', hp', e'⟩ := List.mem_map.mp z
  rw [← e']; exact h p' hp' q hq
theorem off1_mid {I T : Addr} {o : Obj} {A A' fw : List (Addr × Obj)} (e : A'.map (·.1) = A.map (·.1)) (h : Off1 I (A ++ fw)) (hT : @Ne Nat T I) : Off1 I (A' ++ (T, o) :: fw) := off1_of fun p hp => by
  have k := off1_mem h
  rcases List.mem_append.mp hp with hp | hp
  · have z : p.1 ∈ A.map (·.1) := e ▸ List.mem_map_of_mem hp
    obtain ⟨p', hp', e'⟩ := List.mem_map.mp z
    rw [← e']; exact k p' (List.mem_append_left _ hp')
  · rcases List.mem_cons.mp hp with rfl | hp
    · exact hT
    · exact k p (List.mem_append_right _ hp)
theorem off1_addr {I : Addr} {A A' fw : List (Addr × Obj)} (e : A'.map (·.1) = A.map (·.1)) (h : Off1 I (A ++ fw)) : Off1 I (A' ++ fw) := off1_of fun p hp => by
  have k := off1_mem h
  rcases List.mem_append.mp hp with hp | hp
  · have z : p.1 ∈ A.map (·.1) := e ▸ List.mem_map_of_mem hp
    obtain ⟨p', hp', e'⟩ := List.mem_map.mp z
    rw [← e']; exact k p' (List.mem_append_left _ hp')
  · exact k p (List.mem_append_right _ hp)
theorem allLt_addr {D : Addr} {x : Addr × Obj} {A A' fw : List (Addr × Obj)} (e : A'.map (·.1) = A.map (·.1)) (h : AllLt D (x :: (A ++ fw))) : AllLt D A' := allLt_of fun p hp => by
  have z : p.1 ∈ A.map (·.1) := e ▸ List.mem_map_of_mem hp
  obtain ⟨p', hp', e'⟩ := List.mem_map.mp z
  rw [← e']; exact allLt_mem h p' (.tail _ (List.mem_append_left _ hp'))
theorem dueL_yes {b e : Int} {P rs lens : List Int} {i : Nat} (h : nearL b P rs lens e (1 + (i : Int)) < sumL b (1 + (i : Int)) lens) : dueL b P rs lens e (i + 1) = dueL b P rs lens e i ++ [(1 + (i : Int), sumL b (1 + (i : Int)) lens, nearL b P rs lens e (1 + (i : Int)))] := by
  unfold dueL
  rw [List.range_succ, List.filterMap_append]
  simp [h]
theorem dueL_no {b e : Int} {P rs lens : List Int} {i : Nat} (h : ¬ nearL b P rs lens e (1 + (i : Int)) < sumL b (1 + (i : Int)) lens) : dueL b P rs lens e (i + 1) = dueL b P rs lens e i := by
  unfold dueL
  rw [List.range_succ, List.filterMap_append]
  simp [h]
theorem backL_succ {b e : Int} {P rs lens lrs : List Int} {i : Nat} : backL b P rs lens lrs e (i + 1) = backL b P rs lens lrs e i ++ [(1 + (i : Int), nearL b P rs lens e (1 + (i : Int)), sumL (b + 1) (1 + (i : Int)) lrs)] := by
  unfold backL
  rw [List.range_succ, List.map_append]
  rfl
theorem dueL_len (b e : Int) (P rs lens : List Int) (i : Nat) : (dueL b P rs lens e i).length ≤ i := by
  unfold dueL
  exact Nat.le_trans (List.length_filterMap_le _ _) (by simp)
theorem backL_len (b e : Int) (P rs lens lrs : List Int) (i : Nat) : (backL b P rs lens lrs e i).length = i := by simp [backL]
noncomputable def sizeBody : List Stmt := match lawBody.drop 25 with
  | .For _ _ b _ _ :: _ => b
  | _ => []
section
variable {w : World} {mg mb : Str → Option Value} {A : Around} {s : Shared} {Q : Flow → Shared → Prop} {E : Value → Shared → Prop} {h₀ : Heap} {L fa : Addr} {cd : Value} {m : Str → Option Value} {news : List (Addr × Obj)}
theorem law_F2b (hA : A.handled = none) (hdp : A.depth + 60 < recursionLimit) (hu : A.units + 8000 < cLine) {al : Addr} {o1 o2 o3 o4 o5 o6 o7 o8 o9 oz o11 oI : Obj} {tot cars more NE FA : Int} {t1' t2' t3' t5 ti tn tf : Tok} {I l wl row spots taken pl leads ll due back : Addr} {rvs wvs vrow vpl vsp vtk ys vll us1 us2 : List Value} {c1 c2 c3 cl cll c1' c2' i : Nat} {fw : List (Addr × Obj)} {rs : List Int} {b : Int}
   (F : Fr h₀ L s.heap (kstB m [(Str.ofString "near", Value.int NE tn), (Str.ofString "far", .int FA tf), (Str.ofString "back", .ref back), (Str.ofString "due", .ref due), (Str.ofString "leads", .ref leads), (Str.ofString "taken", .ref taken), (Str.ofString "spots", .ref spots), (Str.ofString "row", .ref row), (Str.ofString "more", .int more t1'), (Str.ofString "cars", .int cars t2'), (Str.ofString "total", .int tot t3'), (Str.ofString "script", .ref al)]))
   (N : News h₀ L s.heap ((I, oI) :: dueLed back due ll leads us2 c2' us1 c1' vll cll ys cl (baseOf pl taken spots row wl l vpl vtk vsp vrow wvs rvs c1 c2 c3 (cellsOf L o1 o2 o3 o4 o5 o6 o7 o8 o9 oz o11) ++ fw)))
   (hrs : IntsAre rvs rs) (hrl : rs.length = 6) (hc1 : 3 ≤ cars) (hc2 : cars ≤ 5) (hi : i < 9) (hul : us2.length ≤ 9)
   (d2 : o2.data = .cell (some (.ref l))) (d3 : o3.data = .cell (some (.int b t5))) (dz : oz.data = Data.cell (some (Value.int (1 + (i : Int)) ti)))
   (n1 : @LT.lt Nat _ (L + 1 + 1 + 1 + 1 + 1 + 1 + 1 + 1 + 1 + 1 + 1) l) (n2 : @LT.lt Nat _ l wl) (n3 : @LT.lt Nat _ wl row) (n4 : @LT.lt Nat _ wl spots) (n5 : @LT.lt Nat _ wl taken) (n6 : @LT.lt Nat _ wl pl) (n7 : @Ne Nat leads (L + 1 + 1 + 1 + 1 + 1 + 1 + 1 + 1 + 1 + 1))
   (hdue : AllLt due ((ll, lsOf vll cll) :: (leads, lsOf ys cl) :: (baseOf pl taken spots row wl l vpl vtk vsp vrow wvs rvs c1 c2 c3 (cellsOf L o1 o2 o3 o4 o5 o6 o7 o8 o9 oz o11)))) (hback : @LT.lt Nat _ due back) (hI : @Ne Nat I back) (aback : Off1 back fw)
   (X : (hd.heap_39 w.params).In h₀) (T : TopRead vw LO mg mb h₀)
   (ret : ∀ h' tk m' D ta tb tc, Fr h₀ L h' (kstB m' [(Str.ofString "back", .ref back), (Str.ofString "due", .ref due), (Str.ofString "leads", .ref leads), (Str.ofString "taken", .ref taken), (Str.ofString "spots", .ref spots), (Str.ofString "row", .ref row), (Str.ofString "more", .int more t1'), (Str.ofString "cars", .int cars t2'), (Str.ofString "total", .int tot t3'), (Str.ofString "script", .ref al)]) → News h₀ L h' ((I, oI) :: dueLed back due ll leads (us2 ++ [.ref D]) (c2' + 1) us1 c1' vll cll ys cl (baseOf pl taken spots row wl l vpl vtk vsp vrow wvs rvs c1 c2 c3 (cellsOf L o1 o2 o3 o4 o5 o6 o7 o8 o9 oz o11) ++ ((D, tupOf [.int (1 + (i : Int)) ta, .int NE tb, .int (sumL (b + 1) (1 + (i : Int)) (lastRuns rs cars)) tc]) :: fw))) →
      AllLt D ((I, oI) :: dueLed back due ll leads us2 c2' us1 c1' vll cll ys cl (baseOf pl taken spots row wl l vpl vtk vsp vrow wvs rvs c1 c2 c3 (cellsOf L o1 o2 o3 o4 o5 o6 o7 o8 o9 oz o11) ++ fw)) → Q .next { s with heap := h', toks := tk }) :
   wpAny (model Challenge.rw_sn0041_01.row.prog w) (A.deeper (lawEnv L fa cd)) (execs (sizeBody.drop 4) (lawEnv L fa cd)) Q E s := by
  walk_at "m_fill"
  obtain ⟨_, dp, fr, gd, un⟩ := A; dsimp only at hA hdp hu; subst hA
  dsimp only [kstB] at F
  dsimp only [sizeBody, lawBody, lawEnv, lawFd, fdOf, List.drop, List.take]
  have hob : Off1 back ((due, lsOf us1 c1') :: (((ll, lsOf vll cll) :: (leads, lsOf ys cl) :: (baseOf pl taken spots row wl l vpl vtk vsp vrow wvs rvs c1 c2 c3 (cellsOf L o1 o2 o3 o4 o5 o6 o7 o8 o9 oz o11))) ++ fw)) := ⟨Nat.ne_of_lt hback, off1_app (off1_lt hdue hback) aback⟩
  simp only [dueLed, baseOf, cellsOf, List.cons_append, List.nil_append, AllLt, and_true] at N hdue hob
  have hrv := hrs.length
  k_unmd
  try k_fold
  walk_at "m_steps"
  walk_at "m_comp"
  walk_at "m_steps"
  (rename Fr _ _ _ _ => F₅); (rename News _ _ _ _ => N₅); (rename IntsAre _ (List.take _ _) => hsl); (rename List.length (List.take _ _) = _ => hsl2)
  have hsv := hsl.length
  refine CompSrc.ledger rfl F₅ N₅ (by k_mem) (by rw [List.size_toArray, sizeLine_eq]; omega) fun g' => ?_
  rename_i D₀ v₀ _ _ _
  refine comp_rest (fun j zs2 news => IntsAre zs2 (((lastRuns rs cars).take j).map fun x => x.fdiv (1 + (i : Int)) + 1) ∧ news = (D₀, lsOf v₀ 0) :: ((I, oI) :: dueLed back due ll leads us2 c2' us1 c1' vll cll ys cl (baseOf pl taken spots row wl l vpl vtk vsp vrow wvs rvs c1 c2 c3 (cellsOf L o1 o2 o3 o4 o5 o6 o7 o8 o9 oz o11) ++ fw))) (fun j v I' oI' C oC D' m₂ zs2 news h tk E' hj hv hG hC hx F' N' off' ne => ?_) ?_ _ _ ⟨.nil, rfl⟩
  · obtain ⟨hzs2, rfl⟩ := hG
    obtain ⟨k, t, rfl, hk⟩ := IntsAre.at hsl j v (by simpa using hv)
    have hk' : (lastRuns rs cars)[j]? = some k := hk
    have off1 := off'
    simp only [LCg.Off3, dueLed, baseOf, cellsOf, List.cons_append, List.nil_append] at off' N'
    clear F₅ N₅
    k_unmd
    k_fold
    walk_at "m_steps"
    (rename Fr _ _ _ _ => F₅); (rename News _ _ _ _ => N₅)
    refine CompEnd.intro F₅ N₅ ((D₀, lsOf v₀ 0) :: ((I, oI) :: dueLed back due ll leads us2 c2' us1 c1' vll cll ys cl (baseOf pl taken spots row wl l vpl vtk vsp vrow wvs rvs c1 c2 c3 (cellsOf L o1 o2 o3 o4 o5 o6 o7 o8 o9 oz o11) ++ fw))) (fun _ h => h) off1 (.inr ⟨_, by k_mem, rfl, _, rfl⟩) ⟨?_, rfl⟩
    rw [List.take_add_one, hk', List.map_append]
    exact IntsAre.append hzs2 (.cons _ _ .nil)
  · rintro zs2 news ⟨hzs2, rfl⟩ D₂ h₆ tk₆ F₆ N₆ off₆
    rw [List.take_of_length_le (by rw [List.size_toArray, hsv]; exact Nat.le_refl _)] at hzs2
    have hzl2 := hzs2.length
    rw [List.length_map] at hzl2
    have hz3 : (lastRuns rs cars).length ≤ 6 := by have : (lastRuns rs cars).length = _ := hsl2; omega
    simp only [dueLed, LCg.lst, baseOf, cellsOf, List.cons_append, List.nil_append] at N₆
    clear off₆ hsl hsl2 hsv
    k_unmd
    try k_fold
    walk_at "m_steps"
    (rename News _ _ _ _ => N₇); (rename Fr _ _ _ _ => F₇); (rename @LT.lt Nat _ D₂ _ ∧ _ => lt₇)
    replace N₇ := Bk.skip2 N₇
    replace lt₇ := lt₇.2.2
    walk_at "m_steps"
    (rename News _ _ _ _ => N₈); (rename Fr _ _ _ _ => F₈)
    rw [List.push_toArray] at N₈
    refine ret _ _ _ ?D ?ta ?tb ?tc (fr_norm _ F₈ (by walk_at "m_frp")) ?g ?h
    case g =>
      simp only [dueLed, baseOf, cellsOf, List.cons_append, List.nil_append]
      exact Bk.drop N₈ (by kcf_all)
    case h => exact lt₇
end

section
variable {w : World} {mg mb : Str → Option Value} {A : Around} {s : Shared} {Q : Flow → Shared → Prop} {E : Value → Shared → Prop} {h₀ : Heap} {L fa : Addr} {cd : Value} {m : Str → Option Value} {news : List (Addr × Obj)}
theorem law_F2 (hA : A.handled = none) (hdp : A.depth + 60 < recursionLimit) (hu : A.units + 8000 < cLine) {al : Addr} {o1 o2 o3 o4 o5 o6 o7 o8 o9 o10 o11 : Obj} {tot cars more : Int} {t1 t2 t3 t5 t8 : Tok} {l wl row spots taken pl leads ll due back : Addr} {rvs wvs vrow vpl vsp vtk ys vll : List Value} {c1 c2 c3 cl cll : Nat} {fz : List (Addr × Obj)} {P rs lens : List Int} {b e : Int}
   (F : Fr h₀ L s.heap (dueVars m tot cars more al row spots taken leads due back t1 t2 t3))
   (N : News h₀ L s.heap ((back, lsOf [] 0) :: (due, lsOf [] 0) :: (ll, lsOf vll cll) :: (leads, lsOf ys cl) :: (baseOf pl taken spots row wl l vpl vtk vsp vrow wvs rvs c1 c2 c3 (cellsOf L o1 o2 o3 o4 o5 o6 o7 o8 o9 o10 o11) ++ fz)))
   (hP : IntsAre vpl P) (hPl : P.length = 6) (hPb : ∀ p ∈ P, 0 ≤ p ∧ p < 1000) (hrs : IntsAre rvs rs) (hrl : rs.length = 6) (hll : IntsAre vll lens) (hlll : lens.length ≤ 6) (hc1 : 3 ≤ cars) (hc2 : cars ≤ 5)
   (d2 : o2.data = .cell (some (.ref l))) (d3 : o3.data = .cell (some (.int b t5))) (d5 : o5.data = .cell (some (.ref pl))) (d8 : o8.data = .cell (some (.int e t8))) (d9 : o9.data = .cell (some (.ref ll))) (d10 : o10.data = .cell none)
   (hap : Apart fz ((leads, lsOf ys cl) :: baseOf pl taken spots row wl l vpl vtk vsp vrow wvs rvs c1 c2 c3 (cellsOf L o1 o2 o3 o4 o5 o6 o7 o8 o9 o10 o11))) (n1 : @LT.lt Nat _ (L + 1 + 1 + 1 + 1 + 1 + 1 + 1 + 1 + 1 + 1 + 1) l) (n2 : @LT.lt Nat _ l wl) (n3 : @LT.lt Nat _ wl row) (n4 : @LT.lt Nat _ wl spots) (n5 : @LT.lt Nat _ wl taken) (n6 : @LT.lt Nat _ wl pl) (n7 : @Ne Nat leads (L + 1 + 1 + 1 + 1 + 1 + 1 + 1 + 1 + 1 + 1))
   (hoff : Off1 ll ((leads, lsOf ys cl) :: (baseOf pl taken spots row wl l vpl vtk vsp vrow wvs rvs c1 c2 c3 (cellsOf L o1 o2 o3 o4 o5 o6 o7 o8 o9 o10 o11) ++ fz)))
   (hdue : AllLt due ((ll, lsOf vll cll) :: (leads, lsOf ys cl) :: (baseOf pl taken spots row wl l vpl vtk vsp vrow wvs rvs c1 c2 c3 (cellsOf L o1 o2 o3 o4 o5 o6 o7 o8 o9 o10 o11) ++ fz))) (hback : @LT.lt Nat _ due back)
   (X : (hd.heap_39 w.params).In h₀) (T : TopRead vw LO mg mb h₀)
   (ret : ∀ h' tk m' us1 us2 c1' c2' tz o10' t1 t2 t3, Fr h₀ L h' (dueVars m' tot cars more al row spots taken leads due back t1 t2 t3) → TripsAre tz us1 (dueL b P rs lens e 9) → TripsAre tz us2 (backL b P rs lens (lastRuns rs cars) e 9) →
      News h₀ L h' ((back, lsOf us2 c2') :: (due, lsOf us1 c1') :: (ll, lsOf vll cll) :: (leads, lsOf ys cl) :: (baseOf pl taken spots row wl l vpl vtk vsp vrow wvs rvs c1 c2 c3 (cellsOf L o1 o2 o3 o4 o5 o6 o7 o8 o9 o10' o11) ++ (tz ++ fz))) →
      Apart tz ((back, lsOf us2 c2') :: (due, lsOf us1 c1') :: (ll, lsOf vll cll) :: (leads, lsOf ys cl) :: baseOf pl taken spots row wl l vpl vtk vsp vrow wvs rvs c1 c2 c3 (cellsOf L o1 o2 o3 o4 o5 o6 o7 o8 o9 o10' o11)) → Q .next { s with heap := h', toks := tk }) :
   wpAny (model Challenge.rw_sn0041_01.row.prog w) (A.deeper (lawEnv L fa cd)) (execs ((lawBody.drop 25).take 1) (lawEnv L fa cd)) Q E s := by
  walk_at "m_fill"
  obtain ⟨_, dp, fr, gd, un⟩ := A; dsimp only at hA hdp hu; subst hA
  dsimp only [dueVars, kstB] at F
  dsimp only [lawBody, lawEnv, lawFd, fdOf, List.drop, List.take]
  have z10 : Off1 (L + 1 + 1 + 1 + 1 + 1 + 1 + 1 + 1 + 1 + 1) fz := apart_off hap (by k_mem)
  have zdue : Off1 due fz := off1_of fun p hp => Nat.ne_of_lt (allLt_mem hdue p (.tail _ (.tail _ (List.mem_append_right _ hp))))
  have zback : Off1 back fz := off1_of fun p hp => Nat.ne_of_lt (Nat.lt_trans (allLt_mem hdue p (.tail _ (.tail _ (List.mem_append_right _ hp)))) hback)
  have hdue0 := allLt_left (l := (ll, lsOf vll cll) :: (leads, lsOf ys cl) :: baseOf pl taken spots row wl l vpl vtk vsp vrow wvs rvs c1 c2 c3 (cellsOf L o1 o2 o3 o4 o5 o6 o7 o8 o9 o10 o11)) hdue
  simp only [baseOf, cellsOf, List.cons_append, List.nil_append, AllLt] at N hoff hdue
  simp only [Off1] at hoff
  have hPv := hP.length
  have hrv := hrs.length
  have hlv := hll.length
  k_unmd
  try k_fold
  walk_at "m_steps"
  refine for_open ?_
  walk_at "m_steps"
  (rename Fr _ _ _ _ => F₄); (rename News _ _ _ _ => N₄); (rename IsRange _ _ _ _ _ _ _ _ => hrg)
  refine for_range (n := 9) (fun i m' news => ∃ (us1 us2 : List Value) (c1' c2' : Nat) (tz : List (Addr × Obj)) (o10' : Obj) (v0 : Option Value) (t1 t2 t3 : Tok), TripsAre tz us1 (dueL b P rs lens e i) ∧ TripsAre tz us2 (backL b P rs lens (lastRuns rs cars) e i) ∧
      (∀ p ∈ [(Str.ofString "back", Value.ref back), (Str.ofString "due", .ref due), (Str.ofString "leads", .ref leads), (Str.ofString "taken", .ref taken), (Str.ofString "spots", .ref spots), (Str.ofString "row", .ref row), (Str.ofString "more", .int more t1), (Str.ofString "cars", .int cars t2), (Str.ofString "total", .int tot t3), (Str.ofString "script", .ref al)], m' p.1 = some p.2) ∧ o10'.data = .cell v0 ∧
      Apart tz ((back, lsOf us2 c2') :: (due, lsOf us1 c1') :: (ll, lsOf vll cll) :: (leads, lsOf ys cl) :: baseOf pl taken spots row wl l vpl vtk vsp vrow wvs rvs c1 c2 c3 (cellsOf L o1 o2 o3 o4 o5 o6 o7 o8 o9 o10' o11)) ∧
      news = (back, lsOf us2 c2') :: (due, lsOf us1 c1') :: (ll, lsOf vll cll) :: (leads, lsOf ys cl) :: (baseOf pl taken spots row wl l vpl vtk vsp vrow wvs rvs c1 c2 c3 (cellsOf L o1 o2 o3 o4 o5 o6 o7 o8 o9 o10' o11) ++ (tz ++ fz))) rfl hrg
      (small_one (by omega) (by omega) (by omega) (by omega)) (by rw [rangeSize_nat]; omega) F₄ (Bk.drop N₄ (by kcf_all)) ⟨[], [], 0, 0, [], o10, _, _, _, _, .nil, .nil, by walk_at "m_frp", d10, (fun _ _ _ h => nomatch h), rfl⟩ ?_ ?_
  · clear F₄ N₄ hrg
    rintro i ti I oI m₁ _ h₃ tk₃ hi F₃ N₃ off ⟨us1, us2, c1', c2', tz, o10', v0, t1', t2', t3', hu1, hu2, hm, d10', hapz, rfl⟩
    have F₄ := fr_norm _ F₃ hm
    dsimp only [kstB] at F₄
    have hul1 := hu1.length
    have hul2 := hu2.length
    have hul3 := dueL_len b e P rs lens i
    have hul4 := backL_len b e P rs lens (lastRuns rs cars) i
    have a10 := off1_app (apart_off hapz (a := L + 1 + 1 + 1 + 1 + 1 + 1 + 1 + 1 + 1 + 1) (by k_mem)) z10
    have adue := off1_app (apart_off hapz (a := due) (by k_mem)) zdue
    have aback := off1_app (apart_off hapz (a := back) (by k_mem)) zback
    obtain ⟨fw, hfw⟩ : ∃ fw, tz ++ fz = fw := ⟨_, rfl⟩
    rw [hfw] at N₃ off a10 adue aback
    have off0 := off
    simp only [baseOf, cellsOf, List.cons_append, List.nil_append] at N₃ off
    simp only [Off1] at off
    clear F₃ hm
    have hg6 : ∀ g : Int, 0 ≤ (e + 1 + g).fmod 6 ∧ (e + 1 + g).fmod 6 < 6 := fun g => ⟨fmod_lo _ (by decide), fmod_hi _ (by decide)⟩
    show wpAny _ _ _ _ _ _
    k_fold
    walk_at "m_steps"
    rename_i oz _ _ dz
    walk_at "m_compA"
    walk_at "m_steps"
    (rename Fr _ _ _ _ => F₅); (rename News _ _ _ _ => N₅); (rename IsRange _ _ _ _ _ _ _ _ => hrg)
    refine CompSrc.range (n := 5) rfl F₅ N₅ hrg (small_one (by omega) (by omega) (by omega) (by omega)) (by rw [rangeSize_nat]; omega) (by rw [sizeLine_eq]; omega) fun g' => ?_
    refine comp_rest (fun j zs news => IntsAre zs (((rangeKs 1 5).take j).map (drv P rs e (1 + (i : Int)))) ∧ news = ((I, oI) :: dueLed back due ll leads us2 c2' us1 c1' vll cll ys cl (baseOf pl taken spots row wl l vpl vtk vsp vrow wvs rvs c1 c2 c3 (cellsOf L o1 o2 o3 o4 o5 o6 o7 o8 o9 oz o11) ++ fw))) (fun j v I' oI' C oC D m₂ zs news h tk E' hj hv hG hC hx F' N' off' ne => ?_) ?_ _ _ ⟨.nil, rfl⟩
    · obtain ⟨hzs, rfl⟩ := hG
      obtain ⟨t, rfl⟩ := hv
      have hk := range_at 1 5 j hj
      obtain ⟨g, hg⟩ : ∃ g : Int, 1 + (j : Int) = g := ⟨_, rfl⟩
      rw [hg] at hx hk
      have hg7 := hg6 g
      have hg8 := getD_bd hPb (by decide) ((e + 1 + g).fmod 6).toNat
      have off1 := off'
      simp only [LCg.Off3, dueLed, baseOf, cellsOf, List.cons_append, List.nil_append] at off' N'
      clear F₅ N₅ hrg
      k_unmd
      k_fold
      walk_at "m_steps"
      (rename Fr _ _ _ _ => F₅); (rename News _ _ _ _ => N₅)
      refine CompEnd.intro F₅ N₅ ((I, oI) :: dueLed back due ll leads us2 c2' us1 c1' vll cll ys cl (baseOf pl taken spots row wl l vpl vtk vsp vrow wvs rvs c1 c2 c3 (cellsOf L o1 o2 o3 o4 o5 o6 o7 o8 o9 oz o11) ++ fw)) (fun _ h => h) off1 trivial ⟨?_, rfl⟩
      rw [List.take_add_one, hk, List.map_append]
      exact IntsAre.append hzs (.cons _ _ .nil)
    · rintro zs news ⟨hzs, rfl⟩ D h₅ tk₅ F₅ N₅ off₅
      rw [List.take_of_length_le (by rw [rangeKs_length]; omega)] at hzs
      have hzl := hzs.length
      rw [List.length_map, rangeKs_length] at hzl
      simp only [dueLed, LCg.lst, baseOf, cellsOf, List.cons_append, List.nil_append] at N₅
      simp only [dueLed, baseOf, cellsOf, List.cons_append, List.nil_append, LCg.Off1] at off₅
      clear hrg
      k_unmd
      try k_fold
      walk_at "m_steps"
      walk_at "m_comp"
      walk_at "m_steps"
      (rename Fr _ _ _ _ => F₅); (rename News _ _ _ _ => N₅)
      refine CompSrc.ledger rfl F₅ N₅ (by k_mem) (by rw [List.size_toArray, sizeLine_eq]; omega) fun g' => ?_
      refine comp_rest (fun j zs2 news => IntsAre zs2 ((lens.take j).map fun x => x.fdiv (1 + (i : Int)) + 1) ∧ news = (D, lsOf zs zs.length) :: ((I, oI) :: dueLed back due ll leads us2 c2' us1 c1' vll cll ys cl (baseOf pl taken spots row wl l vpl vtk vsp vrow wvs rvs c1 c2 c3 (cellsOf L o1 o2 o3 o4 o5 o6 o7 o8 o9 oz o11) ++ fw))) (fun j v I' oI' C oC D' m₂ zs2 news h tk E' hj hv hG hC hx F' N' off' ne => ?_) ?_ _ _ ⟨.nil, rfl⟩
      · obtain ⟨hzs2, rfl⟩ := hG
        obtain ⟨k, t, rfl, hk⟩ := IntsAre.at hll j v (by simpa using hv)
        have off1 := off'
        simp only [LCg.Off3, dueLed, baseOf, cellsOf, List.cons_append, List.nil_append] at off' N'
        clear F₅ N₅
        k_unmd
        k_fold
        walk_at "m_steps"
        (rename Fr _ _ _ _ => F₅); (rename News _ _ _ _ => N₅)
        refine CompEnd.intro F₅ N₅ ((D, lsOf zs zs.length) :: ((I, oI) :: dueLed back due ll leads us2 c2' us1 c1' vll cll ys cl (baseOf pl taken spots row wl l vpl vtk vsp vrow wvs rvs c1 c2 c3 (cellsOf L o1 o2 o3 o4 o5 o6 o7 o8 o9 oz o11) ++ fw))) (fun _ h => h) off1 (.inr ⟨_, by k_mem, rfl, _, rfl⟩) ⟨?_, rfl⟩
        rw [List.take_add_one, hk, List.map_append]
        exact IntsAre.append hzs2 (.cons _ _ .nil)
      · rintro zs2 news ⟨hzs2, rfl⟩ D₂ h₆ tk₆ F₆ N₆ off₆
        rw [List.take_of_length_le (by rw [List.size_toArray]; omega)] at hzs2
        have hzl2 := hzs2.length
        rw [List.length_map] at hzl2
        simp only [dueLed, LCg.lst, baseOf, cellsOf, List.cons_append, List.nil_append] at N₆
        simp only [dueLed, baseOf, cellsOf, List.cons_append, List.nil_append, LCg.Off1] at off₆
        k_unmd
        try k_fold
        walk_at "m_stepsI"
        (rename Fr _ _ _ _ => F₇); (rename News _ _ _ _ => N₇)
        obtain ⟨FA, hFA⟩ : ∃ x, b + (1 + (i : Int)) * (List.map (fun x => x.fdiv (1 + (i : Int)) + 1) lens).sum = x := ⟨_, rfl⟩
        obtain ⟨NE, hNE⟩ : ∃ x, FA - (1 + (i : Int)) * (List.map (drv P rs e (1 + (i : Int))) (rangeKs 1 5)).sum = x := ⟨_, rfl⟩
        rw [hFA, hNE] at F₇
        have eFA : sumL b (1 + (i : Int)) lens = FA := hFA
        have eNE : nearL b P rs lens e (1 + (i : Int)) = NE := by rw [← hNE, ← hFA]; rfl
        clear hFA hNE
        replace N₇ := Bk.drop (b := (I, oI) :: dueLed back due ll leads us2 c2' us1 c1' vll cll ys cl (baseOf pl taken spots row wl l vpl vtk vsp vrow wvs rvs c1 c2 c3 (cellsOf L o1 o2 o3 o4 o5 o6 o7 o8 o9 oz o11) ++ fw)) N₇ (fun p hp => .tail _ (.tail _ hp))
        simp only [dueLed, baseOf, cellsOf, List.cons_append, List.nil_append] at N₇
        have hI1 : @Ne Nat I due := Ne.symm (off1_mem off0 (due, lsOf us1 c1') (by k_mem))
        have hI2 : @Ne Nat I back := Ne.symm (off1_mem off0 (back, lsOf us2 c2') (by k_mem))
        clear off off₅ off₆ hoff hg6 hzs hzs2 hzl hzl2 hPv hlv hPb hPl
        refine st_cut (fun s' => ∃ (h' : Heap) (tk' : Nat) (m' : Str → Option Value) (us1' : List Value) (c1'' : Nat) (tz' : List (Addr × Obj)) (tn tf : Tok), s' = { s with heap := h', toks := tk' } ∧ TripsAre tz' us1' (dueL b P rs lens e (i + 1)) ∧ TripsAre tz' us2 (backL b P rs lens (lastRuns rs cars) e i) ∧
          Fr h₀ L h' (kstB m' [(Str.ofString "near", Value.int NE tn), (Str.ofString "far", .int FA tf), (Str.ofString "back", .ref back), (Str.ofString "due", .ref due), (Str.ofString "leads", .ref leads), (Str.ofString "taken", .ref taken), (Str.ofString "spots", .ref spots), (Str.ofString "row", .ref row), (Str.ofString "more", .int more t1'), (Str.ofString "cars", .int cars t2'), (Str.ofString "total", .int tot t3'), (Str.ofString "script", .ref al)]) ∧
          News h₀ L h' ((I, oI) :: dueLed back due ll leads us2 c2' us1' c1'' vll cll ys cl (baseOf pl taken spots row wl l vpl vtk vsp vrow wvs rvs c1 c2 c3 (cellsOf L o1 o2 o3 o4 o5 o6 o7 o8 o9 oz o11) ++ (tz' ++ fz))) ∧
          Apart tz' (dueLed back due ll leads us2 c2' us1' c1'' vll cll ys cl (baseOf pl taken spots row wl l vpl vtk vsp vrow wvs rvs c1 c2 c3 (cellsOf L o1 o2 o3 o4 o5 o6 o7 o8 o9 oz o11))) ∧ Off1 I (dueLed back due ll leads us2 c2' us1' c1'' vll cll ys cl (baseOf pl taken spots row wl l vpl vtk vsp vrow wvs rvs c1 c2 c3 (cellsOf L o1 o2 o3 o4 o5 o6 o7 o8 o9 oz o11) ++ (tz' ++ fz)))) ?_ ?_
        · have hod : Off1 due (((ll, lsOf vll cll) :: (leads, lsOf ys cl) :: baseOf pl taken spots row wl l vpl vtk vsp vrow wvs rvs c1 c2 c3 (cellsOf L o1 o2 o3 o4 o5 o6 o7 o8 o9 oz o11)) ++ fw) := off1_app (off1_lt' (show AllLt due ((ll, lsOf vll cll) :: (leads, lsOf ys cl) :: baseOf pl taken spots row wl l vpl vtk vsp vrow wvs rvs c1 c2 c3 (cellsOf L o1 o2 o3 o4 o5 o6 o7 o8 o9 oz o11)) from hdue0)) adue
          simp only [baseOf, cellsOf, List.cons_append, List.nil_append] at hod
          walk_at "m_steps"
          · (rename Fr _ _ _ _ => F₉); (rename News _ _ _ _ => N₉); (rename NE < FA => hlt); (rename @LT.lt Nat _ I _ ∧ _ => lt₉)
            rw [List.push_toArray] at N₉
            refine ⟨rfl, _, _, _, us1 ++ [.ref ?T], c1' + 1, (?T, tupOf [.int (1 + (i : Int)) ?ta, .int FA ?tb, .int NE ?tc]) :: tz, _, _, rfl, ?g1, hu2.mono fun _ h => .tail _ h, fr_norm _ F₉ (by walk_at "m_frp"), ?g2, apart_cons ?g3 (apart_addr (B := dueLed back due ll leads us2 c2' us1 c1' vll cll ys cl (baseOf pl taken spots row wl l vpl vtk vsp vrow wvs rvs c1 c2 c3 (cellsOf L o1 o2 o3 o4 o5 o6 o7 o8 o9 o10' o11))) rfl hapz), ?g4⟩
            case g2 =>
              rw [List.cons_append, hfw]
              simp only [dueLed, baseOf, cellsOf, List.cons_append, List.nil_append]
              exact Bk.drop N₉ (by kcf_all)
            case g3 =>
              exact allLt_left lt₉.2
            case g4 =>
              rw [List.cons_append, hfw]
              exact off1_mid (A := dueLed back due ll leads us2 c2' us1 c1' vll cll ys cl (baseOf pl taken spots row wl l vpl vtk vsp vrow wvs rvs c1 c2 c3 (cellsOf L o1 o2 o3 o4 o5 o6 o7 o8 o9 o10' o11))) (A' := dueLed back due ll leads us2 c2' _ _ vll cll ys cl (baseOf pl taken spots row wl l vpl vtk vsp vrow wvs rvs c1 c2 c3 (cellsOf L o1 o2 o3 o4 o5 o6 o7 o8 o9 oz o11))) rfl off0 (Nat.ne_of_gt lt₉.1)
            case g1 =>
              rw [dueL_yes (by rw [eFA, eNE]; exact hlt), eFA, eNE]
              exact (hu1.mono fun _ h => .tail _ h).snoc (.head _)
          · (rename Fr _ _ _ _ => F₉); (rename News _ _ _ _ => N₉); (rename ¬ NE < FA => hlt)
            refine ⟨rfl, _, _, _, us1, c1', tz, _, _, rfl, ?_, hu2, fr_norm _ F₉ (by walk_at "m_frp"), ?_, apart_addr (B := dueLed back due ll leads us2 c2' us1 c1' vll cll ys cl (baseOf pl taken spots row wl l vpl vtk vsp vrow wvs rvs c1 c2 c3 (cellsOf L o1 o2 o3 o4 o5 o6 o7 o8 o9 o10' o11))) rfl hapz, ?_⟩
            · rw [dueL_no (by rw [eFA, eNE]; exact hlt)]
              exact hu1
            · rw [hfw]
              exact N₉
            · rw [hfw]
              exact off1_addr (A := dueLed back due ll leads us2 c2' us1 c1' vll cll ys cl (baseOf pl taken spots row wl l vpl vtk vsp vrow wvs rvs c1 c2 c3 (cellsOf L o1 o2 o3 o4 o5 o6 o7 o8 o9 o10' o11))) (A' := dueLed back due ll leads us2 c2' us1 c1' vll cll ys cl (baseOf pl taken spots row wl l vpl vtk vsp vrow wvs rvs c1 c2 c3 (cellsOf L o1 o2 o3 o4 o5 o6 o7 o8 o9 oz o11))) rfl off0
        · rintro s' ⟨h', tk', m', us1', c1'', tz', tn, tf, rfl, hu1', hu2', F₈, N₈, hapz', offz⟩
          show wpAny _ _ _ _ _ _
          refine law_F2b (A := ⟨none, dp, fr, gd, un⟩) rfl hdp hu (fw := tz' ++ fz) (F := F₈) (N := N₈) hrs hrl hc1 hc2 hi (by omega) d2 d3 dz n1 n2 n3 n4 n5 n6 n7 (allLt_left hdue) hback hI2 (off1_app (apart_off hapz' (a := back) (by k_mem)) zback) X T ?_
          intro h₉ tk₉ m₉ D₉ ta tb tc F₉ N₉ lt₉
          refine FEndN.intro (dueLed back due ll leads (us2 ++ [.ref D₉]) (c2' + 1) us1' c1'' vll cll ys cl (baseOf pl taken spots row wl l vpl vtk vsp vrow wvs rvs c1 c2 c3 (cellsOf L o1 o2 o3 o4 o5 o6 o7 o8 o9 oz o11) ++ (((D₉, tupOf [.int (1 + (i : Int)) ta, .int NE tb, .int (sumL (b + 1) (1 + (i : Int)) (lastRuns rs cars)) tc]) :: tz') ++ fz))) F₉ N₉ (fun _ h => h) ?_ trivial
            ⟨us1', us2 ++ [.ref D₉], c1'', c2' + 1, (D₉, tupOf [.int (1 + (i : Int)) ta, .int NE tb, .int (sumL (b + 1) (1 + (i : Int)) (lastRuns rs cars)) tc]) :: tz', oz, _, t1', t2', t3', hu1'.mono fun _ h => .tail _ h, ?_, by walk_at "m_frp", dz, apart_cons (allLt_addr (A := dueLed back due ll leads us2 c2' us1' c1'' vll cll ys cl (baseOf pl taken spots row wl l vpl vtk vsp vrow wvs rvs c1 c2 c3 (cellsOf L o1 o2 o3 o4 o5 o6 o7 o8 o9 oz o11))) rfl lt₉) (apart_addr (B := dueLed back due ll leads us2 c2' us1' c1'' vll cll ys cl (baseOf pl taken spots row wl l vpl vtk vsp vrow wvs rvs c1 c2 c3 (cellsOf L o1 o2 o3 o4 o5 o6 o7 o8 o9 oz o11))) rfl hapz'), rfl⟩
          · exact off1_mid (A := dueLed back due ll leads us2 c2' us1' c1'' vll cll ys cl (baseOf pl taken spots row wl l vpl vtk vsp vrow wvs rvs c1 c2 c3 (cellsOf L o1 o2 o3 o4 o5 o6 o7 o8 o9 oz o11))) (A' := dueLed back due ll leads (us2 ++ [.ref D₉]) (c2' + 1) us1' c1'' vll cll ys cl (baseOf pl taken spots row wl l vpl vtk vsp vrow wvs rvs c1 c2 c3 (cellsOf L o1 o2 o3 o4 o5 o6 o7 o8 o9 oz o11))) rfl offz (Nat.ne_of_gt lt₉.1)
          · rw [backL_succ, eNE]
            exact (hu2'.mono fun _ h => .tail _ h).snoc (.head _)
  · rintro m₁ _ h₃ tk₃ F₃ N₃ ⟨us1, us2, c1', c2', tz, o10', v0, t1', t2', t3', hu1, hu2, hm, d10', hapz, rfl⟩
    refine wpAny_execs_nil ?_
    refine wpAny_execs_nil ?_
    exact ret _ _ _ us1 us2 c1' c2' tz o10' t1' t2' t3' (fr_norm _ F₃ hm) hu1 hu2 N₃ hapz
end

noncomputable abbrev wisVars (m : Str → Option Value) (cars : Int) (row spots taken leads due back wished : Addr) (t2 : Tok) : Str → Option Value := kstB m [(Str.ofString "wished", .ref wished), (Str.ofString "back", .ref back), (Str.ofString "due", .ref due), (Str.ofString "leads", .ref leads), (Str.ofString "taken", .ref taken), (Str.ofString "spots", .ref spots), (Str.ofString "row", .ref row), (Str.ofString "cars", .int cars t2)]
local macro_rules | `(tactic| walk_at "subscriptTail") => `(tactic| (k_here; (with_reducible show wpAny _ _ (subscriptTail _ _ (Value.ref _) (Value.int _ _)) _ _ _); k_dflt (refine' bl_item ?k1 ?k2 ?k3 ?k4 ?k6 ?_; (case k1 => k_asm); (case k2 => k_mem); (case k3 => omega); (case k4 => assumption); (case k6 => omega); k_whole)))
theorem WsAre.idx {P : Params} {a : List (Addr × Obj)} : ∀ {ys : List Value} {Ws : List WS} {i : Nat} {W : WS}, WsAre P a ys Ws → Ws[i]? = some W → ∃ x, ys[i]? = some (.ref x) ∧ IsWs P a x W
  | _, _, i, W, .nil, h => by simp at h
  | _, _, 0, W, .cons hx _, h => by
    simp only [List.getElem?_cons_zero, Option.some.injEq] at h
    exact ⟨_, rfl, h ▸ hx⟩
  | _, _, i + 1, W, .cons _ r, h => by
    simp only [List.getElem?_cons_succ] at h ⊢
    exact r.idx h
theorem sub_G1 {B new fz : List (Addr × Obj)} : ∀ p ∈ B ++ (new ++ fz), p ∈ new ++ (B ++ fz) := by
  intro p hp
  simp only [List.mem_append] at hp ⊢
  rcases hp with h | h | h <;> simp [h]
section
variable {w : World} {mg mb : Str → Option Value} {A : Around} {s : Shared} {Q : Flow → Shared → Prop} {E : Value → Shared → Prop} {h₀ : Heap} {L fa : Addr} {cd : Value} {m : Str → Option Value} {news : List (Addr × Obj)}
theorem law_G1 (hA : A.handled = none) (hdp : A.depth + 60 < recursionLimit) (hu : A.units + 8000 < cLine) {al : Addr} {o1 o2 o3 o4 o5 o6 o7 o8 o9 o10 o11 : Obj} {tot cars more : Int} {t1 t2 t3 t5 t8 : Tok} {l wl row spots taken pl leads ll due back : Addr} {rvs wvs vrow vpl vsp vtk ys vll us1 us2 : List Value} {c1 c2 c3 cl cll c1' c2' : Nat} {fw : List (Addr × Obj)} {lens : List Int} {b e : Int} {Ws : List WS} {We : WS}
   (F : Fr h₀ L s.heap (dueVars m tot cars more al row spots taken leads due back t1 t2 t3))
   (N : News h₀ L s.heap (dueLed back due ll leads us2 c2' us1 c1' vll cll ys cl (baseOf pl taken spots row wl l vpl vtk vsp vrow wvs rvs c1 c2 c3 (cellsOf L o1 o2 o3 o4 o5 o6 o7 o8 o9 o10 o11) ++ fw)))
   (hll : IntsAre vll lens) (hlll : lens.length ≤ 6) (hlb : ∀ r ∈ lens, 0 ≤ r ∧ r < 2 ^ 4) (hb : 0 ≤ b ∧ b < 3) (he : 0 ≤ e) (hW : WsAre w.params fw ys Ws) (hWl : Ws.length = 6) (hWe : Ws[e.toNat]? = some We)
   (d3 : o3.data = .cell (some (.int b t5))) (d8 : o8.data = .cell (some (.int e t8))) (d9 : o9.data = .cell (some (.ref ll))) (d11 : o11.data = .cell none)
   (hap : Off1 (L + 1 + 1 + 1 + 1 + 1 + 1 + 1 + 1 + 1 + 1 + 1) fw) (n1 : @LT.lt Nat _ (L + 1 + 1 + 1 + 1 + 1 + 1 + 1 + 1 + 1 + 1 + 1) l) (n2 : @LT.lt Nat _ l wl) (n3 : @LT.lt Nat _ wl row) (n4 : @LT.lt Nat _ wl spots) (n5 : @LT.lt Nat _ wl taken) (n6 : @LT.lt Nat _ wl pl) (n7 : @Ne Nat leads (L + 1 + 1 + 1 + 1 + 1 + 1 + 1 + 1 + 1 + 1 + 1))
   (m1 : @LT.lt Nat _ (L + 1 + 1 + 1 + 1 + 1 + 1 + 1 + 1 + 1 + 1 + 1) due) (m2 : @LT.lt Nat _ due back) (m3 : @Ne Nat ll (L + 1 + 1 + 1 + 1 + 1 + 1 + 1 + 1 + 1 + 1 + 1))
   (X : (hd.heap_39 w.params).In h₀) (T : TopRead vw LO mg mb h₀)
   (ret : ∀ h' tk m' xp xw o11' new t2, Fr h₀ L h' (wisVars m' cars row spots taken leads due back xw t2) →
      News h₀ L h' (dueLed back due ll leads us2 c2' us1 c1' vll cll ys cl (baseOf pl taken spots row wl l vpl vtk vsp vrow wvs rvs c1 c2 c3 (cellsOf L o1 o2 o3 o4 o5 o6 o7 o8 o9 o10 o11') ++ (new ++ fw))) →
      IsWs w.params new xp (wsOf (leadStr lens b)) → IsWs w.params fw xw We → o11'.data = .cell (some (.ref xp)) → Q .next { s with heap := h', toks := tk }) :
   wpAny (model Challenge.rw_sn0041_01.row.prog w) (A.deeper (lawEnv L fa cd)) (execs ((lawBody.drop 26).take 2) (lawEnv L fa cd)) Q E s := by
  walk_at "m_fill"
  obtain ⟨_, dp, fr, gd, un⟩ := A; dsimp only at hA hdp hu; subst hA
  dsimp only [dueVars, kstB] at F
  dsimp only [lawBody, lawEnv, lawFd, fdOf, List.drop, List.take]
  simp only [dueLed, baseOf, cellsOf, List.cons_append, List.nil_append] at N
  obtain ⟨xw, hyw, hxw⟩ := hW.idx hWe
  have hyl := hW.length
  k_unmd
  try k_fold
  walk_at "m_steps"
  (rename Fr _ _ _ _ => F₅); (rename News _ _ _ _ => N₅)
  refine c_lead rfl (by walk_at "m_room") (by walk_at "m_units") F₅ N₅ (by k_in) T (by k_mem) hll (by omega) hlb _ _ ⟨by omega, by omega⟩ fun xp new h₆ tk₆ F₆ N₆ ap₆ hw₆ => ?_
  have a11 : Off1 (L + 1 + 1 + 1 + 1 + 1 + 1 + 1 + 1 + 1 + 1 + 1) (new ++ fw) := off1_app (apart_off ap₆ (by k_mem)) hap
  have N₇ := Bk.drop N₆ (sub_G1 (B := dueLed back due ll leads us2 c2' us1 c1' vll cll ys cl (baseOf pl taken spots row wl l vpl vtk vsp vrow wvs rvs c1 c2 c3 (cellsOf L o1 o2 o3 o4 o5 o6 o7 o8 o9 o10 o11))))
  clear N₆ F₅ N₅ ap₆
  obtain ⟨fv, hfv⟩ : ∃ fv, new ++ fw = fv := ⟨_, rfl⟩
  rw [hfv] at N₇ a11
  simp only [dueLed, baseOf, cellsOf, List.cons_append, List.nil_append] at N₇
  show wpAny _ _ _ _ _ _
  walk_at "m_steps"
  (rename Fr _ _ _ _ => F₈); (rename News _ _ _ _ => N₈)
  subst hfv
  exact ret _ _ _ xp xw _ new _ (fr_norm _ F₈ (by walk_at "m_frp")) N₈ hw₆ hxw (by assumption)
end

noncomputable def tripD (t : Int × Int × Int) : PyData := .tuple [.int t.1, .int t.2.1, .int t.2.2]
theorem trips_canLay : ∀ ts : List (Int × Int × Int), PyData.canLayAll0 (ts.map tripD) = true
  | [] => rfl
  | _ :: r => by simp [PyData.canLayAll0, PyData.canLay0, tripD, trips_canLay r]
theorem trips_depth : ∀ ts : List (Int × Int × Int), PyData.depthAll (ts.map tripD) ≤ 1
  | [] => Nat.zero_le _
  | _ :: r => by
    have := trips_depth r
    simp only [List.map_cons, PyData.depthAll]
    exact Nat.max_le.mpr ⟨by simp [tripD, PyData.depth, PyData.depthAll], this⟩
theorem trips_lay (ts : List (Int × Int × Int)) : PyData.canLay0 (.list (ts.map tripD)) = true := by
  simp only [PyData.canLay0]
  exact trips_canLay ts
theorem trips_shaped (ts : List (Int × Int × Int)) : SeqAt.shaped (.list (ts.map tripD)) = true := by
  have h := trips_depth ts
  have e : PyData.depth (.list (ts.map tripD)) = PyData.depthAll (ts.map tripD) + 1 := by simp only [PyData.depth]
  rw [SeqAt.shaped, trips_lay, Bool.true_and, decide_eq_true_eq, e]
  exact Nat.le_trans (Nat.succ_le_succ h) (by decide)
theorem TripsAre.reads {h₀ h : Heap} {L : Addr} {news : List (Addr × Obj)} {vs : List Value} {ts : List (Int × Int × Int)} (t : TripsAre news vs ts) (N : News h₀ L h news) : ∃ as, ReadsAll h vs (ts.map tripD) as := by
  induction t with
  | nil => exact ⟨[], .nil⟩
  | cons hm _ ih =>
    obtain ⟨as, ha⟩ := ih
    exact ⟨_, .cons (reads_tuple_at (N _ hm).1 rfl rfl (.cons (.int _ _) (.cons (.int _ _) (.cons (.int _ _) .nil)))) ha⟩
theorem trips_ne {prog : Program} {w : World} {A : Around} {E : Value → Shared → Prop} {s : Shared} {Q : Value → Shared → Prop} {h₀ : Heap} {L l1 l2 : Addr} {n1 n2 : List (Addr × Obj)} {us vs : List Value} {c d : Nat} {ts : List (Int × Int × Int)}
    (N1 : News h₀ L s.heap ((l1, lsOf us c) :: n1)) (N2 : News h₀ L s.heap ((l2, lsOf vs d) :: n2)) (t1 : TripsAre n1 us ts) (t2 : TripsAre n2 vs ts) (hu : A.units + 64 < cLine) (h : Q (.bool false) s) :
    wpAny (model prog w) A (compareOp .NotEq (.ref l1) (.ref l2)) Q E s := by
  obtain ⟨as, r1⟩ := t1.reads (Bk.drop N1 fun p hp => .tail _ hp)
  obtain ⟨bs, r2⟩ := t2.reads (Bk.drop N2 fun p hp => .tail _ hp)
  refine ne_dataH (da := .list (ts.map tripD)) (db := .list (ts.map tripD)) (reads_list_at (N1 _ (.head _)).1 rfl rfl r1) (reads_list_at (N2 _ (.head _)).1 rfl rfl r2) (trips_shaped ts) (trips_shaped ts) hu ?_
  rw [SeqAt.eqv_refl _ (trips_lay ts)]
  exact h
theorem due_sub {back due ll leads : Addr} {us2 us1 vll ys : List Value} {c2' c1' cll cl : Nat} {B fv : List (Addr × Obj)} : ∀ p ∈ (due, lsOf us1 c1') :: fv, p ∈ dueLed back due ll leads us2 c2' us1 c1' vll cll ys cl (B ++ fv) := fun p hp => by
  rcases List.mem_cons.mp hp with rfl | hp
  · exact .tail _ (.head _)
  · exact .tail _ (.tail _ (.tail _ (.tail _ (List.mem_append_right _ hp))))
theorem back_sub {back due ll leads : Addr} {us2 us1 vll ys : List Value} {c2' c1' cll cl : Nat} {B fv : List (Addr × Obj)} : ∀ p ∈ (back, lsOf us2 c2') :: fv, p ∈ dueLed back due ll leads us2 c2' us1 c1' vll cll ys cl (B ++ fv) := fun p hp => by
  rcases List.mem_cons.mp hp with rfl | hp
  · exact .head _
  · exact .tail _ (.tail _ (.tail _ (.tail _ (List.mem_append_right _ hp))))
theorem nw_sub {l1 : Addr × Obj} {w1 R : List (Addr × Obj)} : ∀ p ∈ l1 :: w1, p ∈ l1 :: (w1 ++ R) := fun p hp => by
  rcases List.mem_cons.mp hp with rfl | hp
  · exact .head _
  · exact .tail _ (List.mem_append_left _ hp)
local macro_rules | `(tactic| walk_at "call ref") => `(tactic| (k_here; k_dflt (refine' c_less ?hA ?hd ?hu ?F ?N ?X ?T ?hw ?ok ?hw' ?ok' ?_; (case hA => rfl); (case F => k_asm); (case N => k_asm); (case X => k_asm); (case T => k_asm); (case hw => walk_at "m_ws"); (case ok => assumption); (case hw' => walk_at "m_ws"); (case ok' => assumption); (case hd => walk_at "m_room"); (case hu => walk_at "m_units"); k_whole; intro h' tk' F' N'; (try ground_anew F'))))
section
variable {w : World} {mg mb : Str → Option Value} {A : Around} {s : Shared} {Q : Flow → Shared → Prop} {E : Value → Shared → Prop} {h₀ : Heap} {L fa : Addr} {cd : Value} {m : Str → Option Value} {news : List (Addr × Obj)}
theorem law_G2 (hA : A.handled = none) (hdp : A.depth + 60 < recursionLimit) (hu : A.units + 8000 < cLine) {o1 o2 o3 o4 o5 o6 o7 o8 o9 o10 o11 : Obj} {cars : Int} {t2 : Tok} {l wl row spots taken pl leads ll due back xp xw xl : Addr} {rvs wvs vrow vpl vsp vtk ys vll us1 us2 : List Value} {c1 c2 c3 cl cll c1' c2' : Nat} {fv : List (Addr × Obj)} {Wp We Wl : WS} {td tb : List (Int × Int × Int)}
   (F : Fr h₀ L s.heap (wisVars m cars row spots taken leads due back xw t2))
   (N : News h₀ L s.heap (dueLed back due ll leads us2 c2' us1 c1' vll cll ys cl (baseOf pl taken spots row wl l vpl vtk vsp vrow wvs rvs c1 c2 c3 (cellsOf L o1 o2 o3 o4 o5 o6 o7 o8 o9 o10 o11) ++ fv)))
   (hp : IsWs w.params fv xp Wp) (hw : IsWs w.params fv xw We) (hl : IsWs w.params fv xl Wl) (okp : Wp.Ok) (okw : We.Ok) (okl : Wl.Ok) (htd : TripsAre fv us1 td) (htb : TripsAre fv us2 tb)
   (e1 : Wp.trips We (WS.maxLong Wp We + 1) = td) (e2 : We.trips Wl (WS.maxLong We Wl + 1) = tb) (e3 : We.lessB Wp = false)
   (d6 : o6.data = .cell (some (.ref xl))) (d11 : o11.data = .cell (some (.ref xp)))
   (X : (hd.heap_39 w.params).In h₀) (T : TopRead vw LO mg mb h₀)
   (ret : ∀ h' tk m' t2, Fr h₀ L h' (wisVars m' cars row spots taken leads due back xw t2) →
      News h₀ L h' (dueLed back due ll leads us2 c2' us1 c1' vll cll ys cl (baseOf pl taken spots row wl l vpl vtk vsp vrow wvs rvs c1 c2 c3 (cellsOf L o1 o2 o3 o4 o5 o6 o7 o8 o9 o10 o11) ++ fv)) → Q .next { s with heap := h', toks := tk }) :
   wpAny (model Challenge.rw_sn0041_01.row.prog w) (A.deeper (lawEnv L fa cd)) (execs ((lawBody.drop 28).take 2) (lawEnv L fa cd)) Q E s := by
  walk_at "m_fill"
  obtain ⟨_, dp, fr, gd, un⟩ := A; dsimp only at hA hdp hu; subst hA
  dsimp only [wisVars, kstB] at F
  dsimp only [lawBody, lawEnv, lawFd, fdOf, List.drop, List.take]
  have N0 := N
  obtain ⟨dx, nm, ct, vs, k1, k2, k3, k4, k5, tr, tn, tnt, tz, hw1⟩ := hp
  obtain ⟨dx', nm', ct', vs', k1', k2', k3', k4', k5', tr', tn', tnt', tz', hw2⟩ := hw
  obtain ⟨dx'', nm'', ct'', vs'', k1'', k2'', k3'', k4'', k5'', tr'', tn'', tnt'', tz'', hw3⟩ := hl
  replace N := Bk.also N (b := wsNd w.params xp dx nm ct Wp vs k1 k2 k3 k4 k5 tr tn tnt tz ++ (wsNd w.params xw dx' nm' ct' We vs' k1' k2' k3' k4' k5' tr' tn' tnt' tz' ++ wsNd w.params xl dx'' nm'' ct'' Wl vs'' k1'' k2'' k3'' k4'' k5'' tr'' tn'' tnt'' tz'')) (by
      intro p hp
      have : p ∈ fv := by
        rcases List.mem_append.mp hp with hp | hp
        · exact hw1.sub p hp
        · rcases List.mem_append.mp hp with hp | hp
          · exact hw2.sub p hp
          · exact hw3.sub p hp
      exact .tail _ (.tail _ (.tail _ (.tail _ (List.mem_append_right _ this)))))
  have f1 := hw1.i5
  have f2 := hw2.i5
  have f3 := hw3.i5
  simp only [wsNd, dueLed, baseOf, cellsOf, List.cons_append, List.nil_append] at N
  k_unmd
  try k_fold
  walk_at "m_steps"
  (rename Fr _ _ _ _ => F₁); (rename News h₀ L s.heap _ => N₁)
  refine c_nw rfl (by walk_at "m_room") (by walk_at "m_units") F₁ N₁ (by k_in) T ⟨by k_mem, by k_mem, by k_mem, by k_mem, f1⟩ okp ⟨by k_mem, by k_mem, by k_mem, by k_mem, f2⟩ okw fun l1 v1 d1 w1 h₂ tk₂ F₂ N₂ ap₂ tr₂ => ?_
  rw [e1] at tr₂
  have N₃ := Bk.drop N₂ (fun p hp => .tail _ (List.mem_append_right _ hp))
  have N₄ := Bk.drop N₂ nw_sub
  have N₅ := Bk.drop (b := dueLed back due ll leads us2 c2' us1 c1' vll cll ys cl (baseOf pl taken spots row wl l vpl vtk vsp vrow wvs rvs c1 c2 c3 (cellsOf L o1 o2 o3 o4 o5 o6 o7 o8 o9 o10 o11) ++ fv)) N₃ (fun p hp => .tail _ (.tail _ (.tail _ (.tail _ (.tail _ (.tail _ (.tail _ (.tail _ (.tail _ (.tail _ (.tail _ (.tail _ hp))))))))))))
  clear N₂ F₁ N₁ ap₂
  walk1
  refine trips_ne N₄ (Bk.drop N₅ due_sub) tr₂ htd (by simp only [units_deeper]; omega) ?_
  clear N₄ N₅ tr₂
  walk_at "m_steps"
  (rename Fr _ _ _ _ => F₆); (rename News h₀ L h₂ _ => N₆)
  refine c_nw rfl (by walk_at "m_room") (by walk_at "m_units") F₆ N₆ (by k_in) T ⟨by k_mem, by k_mem, by k_mem, by k_mem, f2⟩ okw ⟨by k_mem, by k_mem, by k_mem, by k_mem, f3⟩ okl fun l3 v3 d3 w3 h₇ tk₇ F₇ N₇ ap₇ tr₇ => ?_
  rw [e2] at tr₇
  have N₈ := Bk.drop N₇ (fun p hp => .tail _ (List.mem_append_right _ hp))
  have N₉ := Bk.drop N₇ nw_sub
  have Nx := Bk.drop (b := dueLed back due ll leads us2 c2' us1 c1' vll cll ys cl (baseOf pl taken spots row wl l vpl vtk vsp vrow wvs rvs c1 c2 c3 (cellsOf L o1 o2 o3 o4 o5 o6 o7 o8 o9 o10 o11) ++ fv)) N₈ (fun p hp => .tail _ (.tail _ (.tail _ (.tail _ (.tail _ (.tail _ (.tail _ (.tail _ (.tail _ (.tail _ (.tail _ (.tail _ hp))))))))))))
  clear N₇ F₆ N₆ ap₇
  walk1
  refine trips_ne N₉ (Bk.drop Nx back_sub) tr₇ htb (by simp only [units_deeper]; omega) ?_
  clear N₉ Nx tr₇
  walk_at "m_steps"
  (rename Fr _ _ _ _ => Fz); (rename News h₀ L _ _ => Nz)
  exact ret _ _ _ _ (fr_norm _ Fz (by walk_at "m_frp")) (Bk.drop Nz (fun p hp => .tail _ (.tail _ (.tail _ (.tail _ (.tail _ (.tail _ (.tail _ (.tail _ (.tail _ (.tail _ (.tail _ (.tail _ hp)))))))))))))
end

local macro_rules | `(tactic| walk_at "call ref") => `(tactic| (k_here; k_dflt (refine' c_cut ?hA ?hd ?hu ?F ?N ?X ?T ?hs ?hr ?hsv ?hrv ?hsl ?hrl _ _ ?_; (case hA => rfl); (case F => k_asm); (case N => k_asm); (case X => k_asm); (case T => k_asm); (case hs => k_mem); (case hr => k_mem); (case hsv => assumption); (case hrv => assumption); (case hsl => (first | assumption | omega)); (case hrl => (first | assumption | omega)); (case hd => walk_at "m_room"); (case hu => walk_at "m_units"); k_whole; intro D' ys' c' h' tk' F' N' ap' hI'; (try ground_anew F'))))
theorem sorted_eq {a b a' b' : List Int} (pa : a'.Perm a) (pb : b'.Perm b) (oa : a'.Pairwise (· ≤ ·)) (ob : b'.Pairwise (· ≤ ·)) : a' = b' ↔ a.Perm b := by
  constructor
  · intro e
    subst e
    exact pa.symm.trans pb
  · intro p
    exact List.Perm.eq_of_pairwise (fun x y _ _ h1 h2 => Int.le_antisymm h1 h2) oa ob (pa.trans (p.trans pb.symm))
theorem alike_eq {f : Bool} {a b a' b' : List Int} (z : f = true ↔ a.Perm b) (pa : a'.Perm a) (oa : a'.Pairwise (· ≤ ·)) (pb : b'.Perm b) (ob : b'.Pairwise (· ≤ ·)) : f = decide (a' = b') := by
  rw [← sorted_eq pa pb oa ob] at z
  by_cases q : a' = b'
  · rw [decide_eq_true q]; exact z.mpr q
  · rw [decide_eq_false q]; exact Bool.eq_false_iff.mpr fun hh => q (z.mp hh)
theorem ints_eq {prog : Program} {w : World} {A : Around} {E : Value → Shared → Prop} {s : Shared} {Q : Value → Shared → Prop} {h₀ : Heap} {L l1 l2 : Addr} {news : List (Addr × Obj)} {us vs : List Value} {c d : Nat} {a b : List Int}
    (N : News h₀ L s.heap news) (m1 : (l1, lsOf us c) ∈ news) (m2 : (l2, lsOf vs d) ∈ news) (t1 : IntsAre us a) (t2 : IntsAre vs b) (hu : A.units + 64 < cLine) (h : Q (.bool (decide (a = b))) s) :
    wpAny (model prog w) A (compareOp .Eq (.ref l1) (.ref l2)) Q E s := by
  have sh : ∀ ns : List Int, SeqAt.shaped (.list (ns.map PyData.int)) = true := fun ns => by
    simp [SeqAt.shaped, PyData.canLay0, PyData.depth, ke_canLayAll0, ke_depthAll]
  refine eq_dataH (da := .list (a.map PyData.int)) (db := .list (b.map PyData.int)) (reads_list_at (N _ m1).1 rfl rfl (IntsAre.reads _ t1)) (reads_list_at (N _ m2).1 rfl rfl (IntsAre.reads _ t2)) (sh a) (sh b) hu ?_
  have e : PyData.eqv (.list (a.map PyData.int)) (.list (b.map PyData.int)) = decide (a = b) := by simp only [PyData.eqv, ked_eqvAll]
  rw [e]; exact h
theorem ldr_built {M : Model} {A : Around} {E : Value → Shared → Prop} {s : Shared} {h₀ : Heap} {L C : Addr} {m mg mb : Str → Option Value} {K : Frag} {p : Program} {loose : List Str} {x : Str} {v : Value} {pos : Pos} {env : Env} {scope : Scope} {cl : List (Str × Addr)} {Q : Value → Shared → Prop}
    (F : Fr h₀ L s.heap m) (X : K.In h₀) (T : TopRead p loose mg mb h₀) (e : nsIn K mainGlobals x = some none) (hv : bootBuiltins x = some v) (hn : x ≠ "__name__") (h : Q v s) (hg : env.globals = mainGlobals := by rfl) (hb : env.builtins = builtinsNs := by rfl)
    (hk : (compEnvC scope cl C env).scope.kind = .function := by rfl) (hx : (compEnvC scope cl C env).kindOf x = some .globalImplicit := by rfl) (hd : (x == ("__debug__" : Str)) = false := by decide) :
    wpAny M A (eval (.Name x pos) (compEnvC scope cl C env)) Q E s :=
  Name_function_global hk hx (loadGlobal_builtin (env := compEnvC scope cl C env) (show s.heap.Ns env.globals mg from hg ▸ T.g.keeps F.keep) (mg_none_of X T.g e) (show s.heap.Ns env.builtins mb from hb ▸ T.b.keeps F.keep) ((T.builtins x hn).trans hv) h) hd
local macro_rules | `(tactic| walk_at "eval Name") => `(tactic| (k_here; (with_reducible show wpAny _ _ (eval (Expr.Name _ _) (compEnvC _ _ _ _)) _ _ _); k_dflt (refine ldr_built (by k_asm) (by k_asm) (by k_asm) (by k_is) boot_sorted (by decide) ?_)))
noncomputable def boolsOf (f : Nat → Bool) : List Value := (List.range 6).map fun j => Value.bool (f j)
section
variable {w : World} {mg mb : Str → Option Value} {A : Around} {s : Shared} {Q : Flow → Shared → Prop} {E : Value → Shared → Prop} {h₀ : Heap} {L fa : Addr} {cd : Value} {m : Str → Option Value} {news : List (Addr × Obj)}
theorem law_G3 (hA : A.handled = none) (hdp : A.depth + 60 < recursionLimit) (hu : A.units + 8000 < cLine) {o1 o2 o3 o4 o5 o6 o7 o8 o9 o10 o11 : Obj} {cars : Int} {t2 : Tok} {l wl row spots taken pl leads ll due back xw : Addr} {rvs wvs vrow vpl vsp vtk ys vll us1 us2 : List Value} {c1 c2 c3 cl cll c1' c2' : Nat} {fv : List (Addr × Obj)} {ws rs lens : List Int} {f : Nat → Bool}
   (F : Fr h₀ L s.heap (wisVars m cars row spots taken leads due back xw t2))
   (N : News h₀ L s.heap (dueLed back due ll leads us2 c2' us1 c1' vll cll ys cl (baseOf pl taken spots row wl l vpl vtk vsp vrow wvs rvs c1 c2 c3 (cellsOf L o1 o2 o3 o4 o5 o6 o7 o8 o9 o10 o11) ++ fv)))
   (hvw : IntsAre wvs ws) (hwl : ws.length ≤ 5) (hvs : IntsAre rvs rs) (hrl : rs.length = 6) (hll : IntsAre vll lens) (hlll : lens.length ≤ 6) (hf : ∀ j : Nat, j < 6 → (f j = true ↔ (cutL ws (j : Nat) rs).Perm lens))
   (d2 : o2.data = .cell (some (.ref l))) (d4 : o4.data = .cell (some (.ref wl))) (d9 : o9.data = .cell (some (.ref ll)))
   (X : (hd.heap_39 w.params).In h₀) (T : TopRead vw LO mg mb h₀)
   (ret : ∀ h' tk m' ak, Fr h₀ L h' (kstB m' [(Str.ofString "alike", .ref ak), (Str.ofString "leads", .ref leads)]) →
      News h₀ L h' ((ak, lsOf (boolsOf f) 6) :: dueLed back due ll leads us2 c2' us1 c1' vll cll ys cl (baseOf pl taken spots row wl l vpl vtk vsp vrow wvs rvs c1 c2 c3 (cellsOf L o1 o2 o3 o4 o5 o6 o7 o8 o9 o10 o11) ++ fv)) → Q .next { s with heap := h', toks := tk }) :
   wpAny (model Challenge.rw_sn0041_01.row.prog w) (A.deeper (lawEnv L fa cd)) (execs ((lawBody.drop 30).take 1) (lawEnv L fa cd)) Q E s := by
  walk_at "m_fill"
  obtain ⟨_, dp, fr, gd, un⟩ := A; dsimp only at hA hdp hu; subst hA
  dsimp only [wisVars, kstB] at F
  dsimp only [lawBody, lawEnv, lawFd, fdOf, List.drop, List.take]
  simp only [dueLed, baseOf, cellsOf, List.cons_append, List.nil_append] at N
  have hwv := hvw.length
  have hlv := hll.length
  have hrv := hvs.length
  k_unmd
  try k_fold
  walk_at "m_steps"
  walk_at "m_compA"
  walk_at "m_steps"
  (rename Fr _ _ _ _ => F₄); (rename News _ _ _ _ => N₄); (rename IsRange _ _ _ _ _ _ _ _ => hrg)
  refine CompSrc.range (n := 6) rfl F₄ N₄ hrg (small_one (by omega) (by omega) (by omega) (by omega)) (by rw [rangeSize_nat]; omega) (by rw [sizeLine_eq]; omega) fun g' => ?_
  refine comp_rest (fun j zs news => zs = (List.range j).map (fun j => Value.bool (f j)) ∧ news = dueLed back due ll leads us2 c2' us1 c1' vll cll ys cl (baseOf pl taken spots row wl l vpl vtk vsp vrow wvs rvs c1 c2 c3 (cellsOf L o1 o2 o3 o4 o5 o6 o7 o8 o9 o10 o11) ++ fv)) (fun j v I oI C oC D m₂ zs news h tk E' hj hv hG hC hx F' N' off ne => ?_) ?_ _ _ ⟨rfl, rfl⟩
  · obtain ⟨tv, rfl⟩ := hv
    obtain ⟨rfl, rfl⟩ := hG
    simp only [dueLed, baseOf, cellsOf, List.cons_append, List.nil_append] at N'
    k_unmd
    k_fold
    walk_at "m_steps"
    (rename Fr _ _ _ _ => F₅); (rename News _ _ _ _ => N₅); (rename IntsAre _ (cutL _ _ _) => hcut)
    have hcl := cutL_len ws (0 + (j : Int)) rs
    refine kso_sorted F₅ N₅ (News.isList N₅ (.head _)) hcut (by omega) fun D₆ v₆ n₆ c₆ h₆ F₆ N₆ l₆ i₆ e₆ p₆ o₆ b₆ => ?_
    clear F₅ b₆ l₆
    walk_at "m_steps"
    (rename Fr _ _ _ _ => F₇); (rename News _ _ _ _ => N₇)
    (rename List.Perm _ lens => p₈); (rename List.Pairwise _ _ => o₈); (rename IntsAre _ _ => i₈)
    refine CompEnd.intro F₇ N₇ (dueLed back due ll leads us2 c2' us1 c1' vll cll ys cl (baseOf pl taken spots row wl l vpl vtk vsp vrow wvs rvs c1 c2 c3 (cellsOf L o1 o2 o3 o4 o5 o6 o7 o8 o9 o10 o11) ++ fv)) (fun p hp => ?_) off trivial ⟨?_, rfl⟩
    · rcases List.mem_cons.mp hp with rfl | hp
      · k_mem
      · rcases List.mem_cons.mp hp with rfl | hp
        · k_mem
        · exact List.mem_cons_of_mem _ (List.mem_cons_of_mem _ (List.mem_cons_of_mem _ (List.mem_cons_of_mem _ (List.mem_cons_of_mem _ hp))))
    · rw [List.range_succ, List.map_append]
      have z := hf j hj
      rw [show ((j : Nat) : Int) = 0 + (j : Int) by omega] at z
      rw [← alike_eq z p₆ o₆ p₈ o₈]
      rfl
  · rintro zs news ⟨rfl, rfl⟩
    intro D h₇ tk₇ F₇ N₇ off₇
    refine wpAny_execs_nil ?_
    have e6 : ((List.range 6).map fun j => Value.bool (f j)).length = 6 := by simp
    rw [LCg.lst, e6] at N₇
    exact ret _ _ _ D (fr_norm _ F₇ (by walk_at "m_frp")) N₇
end

local macro_rules | `(tactic| walk_at "call ref") => `(tactic| (k_here; k_dflt (refine' c_equal ?hA ?hd ?hu ?F ?N ?X ?T ?hw ?ok ?hw' ?ok' ?_; (case hA => rfl); (case F => k_asm); (case N => k_asm); (case X => k_asm); (case T => k_asm); (case hw => walk_at "m_ws"); (case ok => assumption); (case hw' => walk_at "m_ws"); (case ok' => assumption); (case hd => walk_at "m_room"); (case hu => walk_at "m_units"); k_whole; intro h' tk' F' N'; (try ground_anew F'))))
noncomputable def boolD (l : List Bool) : PyData := .list (l.map PyData.bool)
theorem bools_lay : ∀ l : List Bool, PyData.canLayAll0 (l.map PyData.bool) = true
  | [] => rfl
  | _ :: r => by simp [PyData.canLayAll0, PyData.canLay0, bools_lay r]
theorem bools_depth : ∀ l : List Bool, PyData.depthAll (l.map PyData.bool) = 0
  | [] => rfl
  | _ :: r => by simp [PyData.depthAll, PyData.depth, bools_depth r]
theorem bools_reads (h : Heap) : ∀ l : List Bool, ReadsAll h (l.map Value.bool) (l.map PyData.bool) []
  | [] => .nil
  | b :: r => .cons (as := []) (bs := []) (.bool b) (bools_reads h r)
theorem bools_eq {prog : Program} {w : World} {A : Around} {E : Value → Shared → Prop} {s : Shared} {Q : Value → Shared → Prop} {h₀ : Heap} {L l1 l2 : Addr} {news : List (Addr × Obj)} {c d : Nat} {l : List Bool}
    (N : News h₀ L s.heap news) (m1 : (l1, lsOf (l.map Value.bool) c) ∈ news) (m2 : (l2, lsOf (l.map Value.bool) d) ∈ news) (hu : A.units + 64 < cLine) (h : Q (.bool true) s) :
    wpAny (model prog w) A (compareOp .Eq (.ref l1) (.ref l2)) Q E s := by
  have sl : PyData.canLay0 (boolD l) = true := by simp only [boolD, PyData.canLay0]; exact bools_lay l
  have sh : SeqAt.shaped (boolD l) = true := by rw [SeqAt.shaped, sl]; simp [boolD, PyData.depth, bools_depth]
  refine eq_dataH (da := boolD l) (db := boolD l) (reads_list_at (N _ m1).1 rfl rfl (bools_reads _ l)) (reads_list_at (N _ m2).1 rfl rfl (bools_reads _ l)) sh sh hu ?_
  rw [SeqAt.eqv_refl _ sl]; exact h
section
variable {w : World} {mg mb : Str → Option Value} {A : Around} {s : Shared} {Q : Flow → Shared → Prop} {E : Value → Shared → Prop} {h₀ : Heap} {L fa : Addr} {cd : Value} {m : Str → Option Value} {news : List (Addr × Obj)}
theorem law_G4 (hA : A.handled = none) (hdp : A.depth + 60 < recursionLimit) (hu : A.units + 8000 < cLine) {o1 o2 o3 o4 o5 o6 o7 o8 o9 o10 o11 : Obj} {l wl row spots taken pl leads ll due back ak xp : Addr} {rvs wvs vrow vpl vsp vtk ys vll us1 us2 : List Value} {c1 c2 c3 cl cll c1' c2' : Nat} {fv : List (Addr × Obj)} {bl : List Bool} {Ws : List WS} {Wp : WS}
   (F : Fr h₀ L s.heap (kstB m [(Str.ofString "alike", .ref ak), (Str.ofString "leads", .ref leads)]))
   (N : News h₀ L s.heap ((ak, lsOf (bl.map Value.bool) 6) :: dueLed back due ll leads us2 c2' us1 c1' vll cll ys cl (baseOf pl taken spots row wl l vpl vtk vsp vrow wvs rvs c1 c2 c3 (cellsOf L o1 o2 o3 o4 o5 o6 o7 o8 o9 o10 o11) ++ fv)))
   (hW : WsAre w.params fv ys Ws) (hlen : Ws.length = 6) (hok : ∀ W ∈ Ws, W.Ok) (hp : IsWs w.params fv xp Wp) (hpok : Wp.Ok) (hb : bl = Ws.map fun W => Wp.eqs W) (d11 : o11.data = .cell (some (.ref xp)))
   (X : (hd.heap_39 w.params).In h₀) (T : TopRead vw LO mg mb h₀)
   (ret : ∀ h' tk m', Fr h₀ L h' m' → Q (.ret (.bool true)) { s with heap := h', toks := tk }) :
   wpAny (model Challenge.rw_sn0041_01.row.prog w) (A.deeper (lawEnv L fa cd)) (execs (lawBody.drop 31) (lawEnv L fa cd)) Q E s := by
  walk_at "m_fill"
  obtain ⟨_, dp, fr, gd, un⟩ := A; dsimp only at hA hdp hu; subst hA
  dsimp only [kstB] at F
  dsimp only [lawBody, lawEnv, lawFd, fdOf, List.drop]
  simp only [dueLed, baseOf, cellsOf, List.cons_append, List.nil_append] at N
  have hyl := hW.length
  have hbl : bl.length = 6 := by rw [hb, List.length_map, hlen]
  k_unmd
  try k_fold
  walk_at "m_steps"
  walk_at "m_compA"
  walk_at "m_steps"
  (rename Fr _ _ _ _ => F₄); (rename News _ _ _ _ => N₄)
  refine CompSrc.ledger rfl F₄ N₄ (by k_mem) (by rw [List.size_toArray, sizeLine_eq]; omega) fun g' => ?_
  refine comp_rest (fun i zs news => zs = (Ws.take i).map (fun W => Value.bool (Wp.eqs W)) ∧ news = (ak, lsOf (bl.map Value.bool) 6) :: dueLed back due ll leads us2 c2' us1 c1' vll cll ys cl (baseOf pl taken spots row wl l vpl vtk vsp vrow wvs rvs c1 c2 c3 (cellsOf L o1 o2 o3 o4 o5 o6 o7 o8 o9 o10 o11) ++ fv)) (fun i v I oI C oC D m₂ zs news h tk E' hi hv hG hC hx F' N' off ne => ?_) ?_ _ _ ⟨rfl, rfl⟩
  · obtain ⟨rfl, rfl⟩ := hG
    obtain ⟨x, W, rfl, hWi, hx'⟩ := hW.at (by simpa using hv)
    have okW := hok W (List.mem_of_getElem? hWi)
    obtain ⟨dx, nm, ct, vs, k1, k2, k3, k4, k5, tr, tn, tnt, tz, hw⟩ := hx'
    obtain ⟨dx', nm', ct', vs', k1', k2', k3', k4', k5', tr', tn', tnt', tz', hw'⟩ := hp
    have N'' := Bk.also N' (b := wsNd w.params x dx nm ct W vs k1 k2 k3 k4 k5 tr tn tnt tz ++ wsNd w.params xp dx' nm' ct' Wp vs' k1' k2' k3' k4' k5' tr' tn' tnt' tz') (by
      intro p hp
      have : p ∈ fv := by
        rcases List.mem_append.mp hp with hp | hp
        · exact hw.sub p hp
        · exact hw'.sub p hp
      exact .tail _ (.tail _ (.tail _ (.tail _ (.tail _ (.tail _ (.tail _ (.tail _ (List.mem_append_right _ this)))))))))
    simp only [wsNd, dueLed, baseOf, cellsOf, List.cons_append, List.nil_append] at N''
    have hi5 := hw.i5
    have hi5' := hw'.i5
    clear N' hw hw'
    k_unmd
    k_fold
    walk_at "m_steps"
    (rename Fr _ _ _ _ => F₅); (rename News _ _ _ _ => N₅)
    refine CompEnd.intro F₅ N₅ ((ak, lsOf (bl.map Value.bool) 6) :: dueLed back due ll leads us2 c2' us1 c1' vll cll ys cl (baseOf pl taken spots row wl l vpl vtk vsp vrow wvs rvs c1 c2 c3 (cellsOf L o1 o2 o3 o4 o5 o6 o7 o8 o9 o10 o11) ++ fv)) (fun p hp => .tail _ (.tail _ (.tail _ (.tail _ (.tail _ (.tail _ (.tail _ (.tail _ hp)))))))) off (.inr ⟨_, by k_mem, rfl, _, rfl⟩) ⟨?_, rfl⟩
    rw [List.take_add_one, hWi, List.map_append]
    rfl
  · rintro zs news ⟨rfl, rfl⟩ D h₅ tk₅ F₅ N₅ off₅
    have ez : (Ws.take ys.toArray.size).map (fun W => Value.bool (Wp.eqs W)) = bl.map Value.bool := by
      rw [List.take_of_length_le (by rw [List.size_toArray]; omega), hb, List.map_map]; rfl
    rw [ez] at N₅
    simp only [LCg.lst, dueLed, baseOf, cellsOf, List.cons_append, List.nil_append] at N₅
    clear F₄ N₄ off₅ ez
    k_unmd
    try k_fold
    walk_at "m_steps"
    walk_at "m_comp"
    walk_at "m_steps"
    (rename Fr _ _ _ _ => F₄); (rename News _ _ _ _ => N₄)
    refine CompSrc.ledger rfl F₄ N₄ (by k_mem) (by rw [List.size_toArray, sizeLine_eq, List.length_map]; omega) fun g' => ?_
    refine comp_rest (fun i zs news => zs = (bl.take i).map Value.bool ∧ news = (D, lsOf (bl.map Value.bool) (bl.map Value.bool).length) :: (ak, lsOf (bl.map Value.bool) 6) :: dueLed back due ll leads us2 c2' us1 c1' vll cll ys cl (baseOf pl taken spots row wl l vpl vtk vsp vrow wvs rvs c1 c2 c3 (cellsOf L o1 o2 o3 o4 o5 o6 o7 o8 o9 o10 o11) ++ fv)) (fun i v I oI C oC D' m₂ zs news h tk E' hi hv hG hC hx F' N' off ne => ?_) ?_ _ _ ⟨rfl, rfl⟩
    · obtain ⟨rfl, rfl⟩ := hG
      obtain ⟨b, hb1, rfl⟩ : ∃ b, bl[i]? = some b ∧ v = .bool b := by
        rw [List.getElem?_toArray, List.getElem?_map] at hv
        cases z : bl[i]? with
        | none => rw [z] at hv; cases hv
        | some b => rw [z] at hv; exact ⟨b, rfl, (Option.some.inj hv).symm⟩
      simp only [dueLed, baseOf, cellsOf, List.cons_append, List.nil_append] at N'
      clear F₄ N₄
      k_unmd
      k_fold
      walk_at "m_steps"
      (rename Fr _ _ _ _ => F₅); (rename News _ _ _ _ => N₅)
      refine CompEnd.intro F₅ N₅ ((D, lsOf (bl.map Value.bool) (bl.map Value.bool).length) :: (ak, lsOf (bl.map Value.bool) 6) :: dueLed back due ll leads us2 c2' us1 c1' vll cll ys cl (baseOf pl taken spots row wl l vpl vtk vsp vrow wvs rvs c1 c2 c3 (cellsOf L o1 o2 o3 o4 o5 o6 o7 o8 o9 o10 o11) ++ fv)) (fun _ h => h) off (.inr ⟨_, by k_mem, rfl, _, rfl⟩) ⟨?_, rfl⟩
      rw [List.take_add_one, hb1, List.map_append]
      cases b <;> rfl
    · rintro zs news ⟨rfl, rfl⟩ D₂ h₆ tk₆ F₆ N₆ off₆
      have ez : (bl.take (bl.map Value.bool).toArray.size).map Value.bool = bl.map Value.bool := by
        rw [List.take_of_length_le (by rw [List.size_toArray, List.length_map]; omega)]
      rw [ez] at N₆
      simp only [LCg.lst, dueLed, baseOf, cellsOf, List.cons_append, List.nil_append] at N₆
      clear F₄ N₄ off₆ ez
      k_unmd
      try k_fold
      walk1
      refine bools_eq N₆ (by k_mem) (by k_mem) (by simp only [units_deeper]; omega) ?_
      walk_at "m_steps"
      walk_at "m_comp"
      walk_at "m_steps"
      (rename Fr _ _ _ _ => F₄); (rename News _ _ _ _ => N₄)
      refine CompSrc.ledger rfl F₄ N₄ (by k_mem) (by rw [List.size_toArray, sizeLine_eq, List.length_map]; omega) fun g' => ?_
      refine comp_rest (fun i zs news => zs = (bl.take i).map Value.bool ∧ news = (D₂, lsOf (bl.map Value.bool) (bl.map Value.bool).length) :: (D, lsOf (bl.map Value.bool) (bl.map Value.bool).length) :: (ak, lsOf (bl.map Value.bool) 6) :: dueLed back due ll leads us2 c2' us1 c1' vll cll ys cl (baseOf pl taken spots row wl l vpl vtk vsp vrow wvs rvs c1 c2 c3 (cellsOf L o1 o2 o3 o4 o5 o6 o7 o8 o9 o10 o11) ++ fv)) (fun i v I oI C oC D' m₂ zs news h tk E' hi hv hG hC hx F' N' off ne => ?_) ?_ _ _ ⟨rfl, rfl⟩
      · obtain ⟨rfl, rfl⟩ := hG
        obtain ⟨b, hb1, rfl⟩ : ∃ b, bl[i]? = some b ∧ v = .bool b := by
          rw [List.getElem?_toArray, List.getElem?_map] at hv
          cases z : bl[i]? with
          | none => rw [z] at hv; cases hv
          | some b => rw [z] at hv; exact ⟨b, rfl, (Option.some.inj hv).symm⟩
        simp only [dueLed, baseOf, cellsOf, List.cons_append, List.nil_append] at N'
        clear F₄ N₄
        k_unmd
        k_fold
        walk_at "m_steps"
        (rename Fr _ _ _ _ => F₅); (rename News _ _ _ _ => N₅)
        refine CompEnd.intro F₅ N₅ ((D₂, lsOf (bl.map Value.bool) (bl.map Value.bool).length) :: (D, lsOf (bl.map Value.bool) (bl.map Value.bool).length) :: (ak, lsOf (bl.map Value.bool) 6) :: dueLed back due ll leads us2 c2' us1 c1' vll cll ys cl (baseOf pl taken spots row wl l vpl vtk vsp vrow wvs rvs c1 c2 c3 (cellsOf L o1 o2 o3 o4 o5 o6 o7 o8 o9 o10 o11) ++ fv)) (fun _ h => h) off (.inr ⟨_, by k_mem, rfl, _, rfl⟩) ⟨?_, rfl⟩
        rw [List.take_add_one, hb1, List.map_append]
        cases b <;> rfl
      · rintro zs news ⟨rfl, rfl⟩ D₂ h₆ tk₆ F₆ N₆ off₆
        have ez : (bl.take (bl.map Value.bool).toArray.size).map Value.bool = bl.map Value.bool := by
          rw [List.take_of_length_le (by rw [List.size_toArray, List.length_map]; omega)]
        rw [ez] at N₆
        simp only [LCg.lst, dueLed, baseOf, cellsOf, List.cons_append, List.nil_append] at N₆
        clear F₄ N₄ off₆ ez
        k_unmd
        try k_fold
        walk1
        refine bools_eq N₆ (by k_mem) (by k_mem) (by simp only [units_deeper]; omega) ?_
        walk_at "m_steps"
        (rename Fr _ _ _ _ => Fz)
        exact ret _ _ _ Fz
end

theorem go_sp (k : Nat) : ∀ (rest : List Nat) (n b nt : Nat) (cs : List Int), wsGo (List.replicate k 32 ++ rest) n b nt cs = wsGo rest (n + k) (b + k) nt cs := by
  induction k with
  | zero => intros; rfl
  | succ k ih =>
    intro rest n b nt cs
    rw [List.replicate_succ, List.cons_append, wsGo_sp rfl, ih]
    congr 1 <;> omega
noncomputable def csOf (rs : List Int) : List Int := rs.foldl (fun cs r => bump cs r.toNat) []
theorem go_runs : ∀ (rs : List Int) (rest : List Nat) (n nt : Nat) (cs : List Int), wsGo ((rs.flatMap fun k => List.replicate k.toNat 32 ++ [9]) ++ rest) n 0 nt cs = wsGo rest (n + ((rs.map fun r => r.toNat + 1).sum)) 0 (nt + rs.length) (rs.foldl (fun cs r => bump cs r.toNat) cs)
  | [], rest, n, nt, cs => by simp
  | r :: rs, rest, n, nt, cs => by
    rw [List.flatMap_cons, List.append_assoc, List.append_assoc, go_sp, List.cons_append, List.nil_append, wsGo_tab rfl, Nat.zero_add, go_runs rs]
    simp only [List.map_cons, List.sum_cons, List.length_cons, List.foldl_cons]
    congr 1 <;> omega
theorem wsOf_lead (rs : List Int) (b : Int) : wsOf (leadStr rs b) = ⟨leadStr rs b, ((rs.map fun r => r.toNat + 1).sum) + b.toNat, rs.length, b.toNat, csOf rs⟩ := by
  have e : wsGo (leadStr rs b).cps.toList 0 0 0 [] = (((rs.map fun r => r.toNat + 1).sum) + b.toNat, b.toNat, rs.length, csOf rs) := by
    rw [lead_cps, List.append_assoc, go_runs, go_sp, wsGo_else (by decide) (by decide), Nat.zero_add, Nat.zero_add, Nat.zero_add]
    rfl
  unfold wsOf
  rw [e]
theorem bump_getD (cs : List Int) (k i : Nat) : (bump cs k).getD i 0 = cs.getD i 0 + (if i = k then 1 else 0) := by
  unfold bump
  have key : ∀ c : List Int, k < c.length → (c.set k (c.getD k 0 + 1)).getD i 0 = c.getD i 0 + (if i = k then 1 else 0) := by
    intro c hk
    rw [List.getD_eq_getElem?_getD, List.getElem?_set]
    by_cases h : k = i
    · subst h; simp [hk]
    · rw [if_neg h, if_neg (Ne.symm h), Int.add_zero, List.getD_eq_getElem?_getD]
  by_cases h : cs.length ≤ k
  · simp only [if_pos h]
    rw [key _ (by rw [List.length_append, List.length_replicate]; omega)]
    congr 1
    rw [List.getD_eq_getElem?_getD, List.getD_eq_getElem?_getD]
    by_cases h2 : i < cs.length
    · rw [List.getElem?_append_left h2]
    · rw [List.getElem?_append_right (by omega), List.getElem?_eq_none (l := cs) (by omega), List.getElem?_replicate]
      split <;> rfl
  · simp only [if_neg h]
    exact key cs (by omega)
noncomputable def cntN (rs : List Int) (i : Nat) : Int := (rs.map fun r => if i = r.toNat then (1 : Int) else 0).sum
theorem cs_getD_go (i : Nat) : ∀ (rs cs : List Int), (rs.foldl (fun cs r => bump cs r.toNat) cs).getD i 0 = cs.getD i 0 + cntN rs i
  | [], cs => by simp [cntN]
  | r :: rs, cs => by
    rw [List.foldl_cons, cs_getD_go i rs, bump_getD]
    simp only [cntN, List.map_cons, List.sum_cons]
    omega
theorem cs_getD (rs : List Int) (i : Nat) : (csOf rs).getD i 0 = cntN rs i := by
  rw [csOf, cs_getD_go]; simp
theorem cs_len_go : ∀ (rs cs : List Int) (B : Nat), (rs.foldl (fun cs r => bump cs r.toNat) cs).length ≤ B ↔ cs.length ≤ B ∧ ∀ r ∈ rs, r.toNat + 1 ≤ B
  | [], cs, B => by simp
  | r :: rs, cs, B => by
    rw [List.foldl_cons, cs_len_go rs, bump_len, List.forall_mem_cons, Nat.max_le, and_assoc]
theorem cs_len (rs : List Int) (B : Nat) : (csOf rs).length ≤ B ↔ ∀ r ∈ rs, r.toNat + 1 ≤ B := by
  rw [csOf, cs_len_go]; simp
/-- Σ (i < K) (i / ts) * g i -/
noncomputable def wsm (ts : Nat) (g : Nat → Int) : Nat → Int
  | 0 => 0
  | K + 1 => wsm ts g K + ((K / ts : Nat) : Int) * g K
theorem wsm_low (ts : Nat) (g : Nat → Int) : ∀ K, K ≤ ts → wsm ts g K = 0
  | 0, _ => rfl
  | K + 1, h => by rw [wsm, wsm_low ts g K (by omega), Nat.div_eq_of_lt (by omega)]; simp
theorem wsm_lv (cs : List Int) (ts : Nat) : ∀ k, lvTo cs ts k = wsm ts (fun i => cs.getD i 0) (ts + k)
  | 0 => by rw [Nat.add_zero, wsm_low _ _ _ (Nat.le_refl _)]; rfl
  | k + 1 => by rw [← Nat.add_assoc, wsm, lvTo, wsm_lv cs ts k]
theorem wsm_add (ts : Nat) (g h : Nat → Int) : ∀ K, wsm ts (fun i => g i + h i) K = wsm ts g K + wsm ts h K
  | 0 => rfl
  | K + 1 => by simp only [wsm]; rw [wsm_add ts g h K, Int.mul_add]; omega
theorem wsm_one (ts k : Nat) : ∀ K, wsm ts (fun i => if i = k then 1 else 0) K = if k < K then ((k / ts : Nat) : Int) else 0
  | 0 => rfl
  | K + 1 => by
    rw [wsm, wsm_one ts k K]
    by_cases h : K = k
    · subst h; simp
    · rw [if_neg h]
      by_cases h2 : k < K
      · rw [if_pos h2, if_pos (by omega)]; simp
      · rw [if_neg h2, if_neg (by omega)]; simp
noncomputable def sdiv (rs : List Int) (ts : Nat) : Int := (rs.map fun r => ((r.toNat / ts : Nat) : Int)).sum
theorem wsm_cnt (ts K : Nat) : ∀ rs : List Int, (∀ r ∈ rs, r.toNat + 1 ≤ K) → wsm ts (cntN rs) K = sdiv rs ts
  | [], _ => by
    have : ∀ K, wsm ts (cntN []) K = 0 := fun K => by
      induction K with
      | zero => rfl
      | succ K ih => rw [wsm, ih]; simp [cntN]
    exact this K
  | r :: rs, h => by
    have e : cntN (r :: rs) = fun i => (if i = r.toNat then 1 else 0) + cntN rs i := by
      funext i; simp [cntN]
    rw [e, wsm_add, wsm_one, wsm_cnt ts K rs fun x hx => h x (.tail _ hx), if_pos (by have := h r (.head _); omega)]
    simp [sdiv]
theorem lead_lvl (rs : List Int) (b : Int) (ts : Nat) : (wsOf (leadStr rs b)).lvl ts = b.toNat + ts * (sdiv rs ts + rs.length) := by
  rw [wsOf_lead]
  show (b.toNat : Int) + ts * (lvTo (csOf rs) ts ((csOf rs).length - ts) + rs.length) = _
  rw [wsm_lv]
  have e : (fun i => (csOf rs).getD i 0) = cntN rs := funext fun i => cs_getD rs i
  rw [e, wsm_cnt ts _ rs ((cs_len rs _).mp (by omega))]
theorem cs_zero {rs : List Int} {M : Nat} (h : (csOf rs).length ≤ M) (ts : Nat) (ht : M ≤ ts) : sdiv rs ts = 0 := by
  have k := (cs_len rs M).mp h
  unfold sdiv
  have : ∀ l : List Int, (∀ r ∈ l, r.toNat + 1 ≤ M) → (l.map fun r => ((r.toNat / ts : Nat) : Int)).sum = 0 := by
    intro l
    induction l with
    | nil => intro _; rfl
    | cons r l ih =>
      intro hl
      have := hl r (.head _)
      rw [List.map_cons, List.sum_cons, ih fun x hx => hl x (.tail _ hx), Nat.div_eq_of_lt (by omega)]
      rfl
  exact this rs k
theorem lead_ok (rs : List Int) (b : Int) (hl : rs.length ≤ 6) (hr : ∀ r ∈ rs, 0 ≤ r ∧ r < 16) (hb : 0 ≤ b ∧ b < 16) : (wsOf (leadStr rs b)).Ok := by
  rw [wsOf_lead]
  have hs : ∀ l : List Int, (∀ r ∈ l, 0 ≤ r ∧ r < 16) → (l.map fun r => r.toNat + 1).sum ≤ 16 * l.length := by
    intro l
    induction l with
    | nil => intro _; simp
    | cons r l ih =>
      intro h
      have a := ih fun x hx => h x (.tail _ hx)
      have := h r (.head _)
      simp only [List.map_cons, List.sum_cons, List.length_cons]
      omega
  have hc : ∀ (i : Nat) (l : List Int), 0 ≤ cntN l i ∧ cntN l i ≤ l.length := by
    intro i l
    induction l with
    | nil => exact ⟨Int.le_refl _, Int.le_refl _⟩
    | cons r l ih =>
      simp only [cntN, List.map_cons, List.sum_cons, List.length_cons] at ih ⊢
      split <;> omega
  have hs' := hs rs hr
  refine ⟨?_, ?_, ?_, ?_, ?_⟩
  · show (csOf rs).length < 2 ^ 10
    have := (cs_len rs 16).mpr fun r h => by have := hr r h; omega
    omega
  · intro c h
    obtain ⟨i, hi, rfl⟩ := List.getElem_of_mem h
    have e := cs_getD rs i
    rw [List.getD_eq_getElem?_getD, List.getElem?_eq_getElem hi, Option.getD_some] at e
    have := hc i rs
    show 0 ≤ (csOf rs)[i] ∧ (csOf rs)[i] < 2 ^ 10
    rw [e]; omega
  · show b.toNat < 2 ^ 10; omega
  · show rs.length < 2 ^ 10; omega
  · show (rs.map fun r => r.toNat + 1).sum + b.toNat < 2 ^ 12; omega

noncomputable def tOf (q s : Nat) : Int := if q.testBit s then 0 else 1
noncomputable def cOf (ws : List Int) (s : Nat) : Int := (ws.map fun w => if w = (s : Int) then (1 : Int) else 0).sum
set_option synthInstance.maxSize 10000 in
set_option synthInstance.maxHeartbeats 1000000 in
theorem step_tab : ∀ q, q < 64 → 0 < q → ∀ w : Nat, w < 6 → ((pick (frees q) w - w).fmod 6).toNat < 6 ∧ pick (frees q) w = (((w + ((pick (frees q) w - w).fmod 6).toNat) % 6 : Nat) : Int) ∧ tOf q ((w + ((pick (frees q) w - w).fmod 6).toNat) % 6) = 0 ∧
    (∀ a, a < 6 → a < ((pick (frees q) w - w).fmod 6).toNat → tOf q ((w + a) % 6) = 1) ∧ ∀ s, s < 6 → tOf (offBit q (pick (frees q) w)) s = tOf q s + (if s = (w + ((pick (frees q) w - w).fmod 6).toNat) % 6 then 1 else 0) := by decide +kernel
theorem ring_tab : ∀ s, s < 6 → ∀ w, w < 6 → ∀ d, d < 6 → (if 0 < ((s + 1) % 6 + 6 - w) % 6 ∧ ((s + 1) % 6 + 6 - w) % 6 ≤ d then (1 : Int) else 0) + (if s = (w + d) % 6 then 1 else 0) = (if s = w then 1 else 0) + (if 0 < (s + 6 - w) % 6 ∧ (s + 6 - w) % 6 ≤ d then 1 else 0) := by decide +kernel
theorem lin_ring {a b c d e f g h : Int} (r : a + e = c + d) (q : b + f = g + h) : a + b + (e + f) = c + g + (d + h) := by omega
theorem mods_tab : ∀ w, w < 6 → ∀ s, s < 6 → ∀ a, a < 6 → ((w + a + 1) % 6 = s ↔ (s + 6 - w) % 6 = (a + 1) % 6) := by decide +kernel
theorem passAdd_getD (P : List Int) (hP : P.length = 6) (w s : Nat) (hw : w < 6) (hs : s < 6) : ∀ d, d ≤ 5 → (passAdd P (w : Int) d).getD s 0 = P.getD s 0 + (if 0 < (s + 6 - w) % 6 ∧ (s + 6 - w) % 6 ≤ d then 1 else 0)
  | 0, _ => by rw [if_neg (by omega)]; simp [passAdd]
  | a + 1, h => by
    have ih := passAdd_getD P hP w s hw hs a (by omega)
    have e : (((w : Int) + (a : Int) + 1).fmod 6).toNat = (w + a + 1) % 6 := by
      rw [Int.fmod_eq_emod_of_nonneg _ (by decide)]; omega
    rw [passAdd, e, List.getD_eq_getElem?_getD, List.getElem?_set]
    have hm := mods_tab w hw s hs a (by omega)
    rw [Nat.mod_eq_of_lt (show a + 1 < 6 by omega)] at hm
    clear e
    by_cases q : (w + a + 1) % 6 = s
    · rw [if_pos q, if_pos (by rw [passAdd_len, hP]; exact Nat.mod_lt _ (by decide)), Option.getD_some, q, ih, hm.mp q, if_neg (fun x => Nat.not_succ_le_self _ x.2), if_pos ⟨Nat.succ_pos _, Nat.le_refl _⟩, Int.add_zero]
    · rw [if_neg q, ← List.getD_eq_getElem?_getD, ih]
      have hn := fun x => q (hm.mpr x)
      clear hm q ih
      generalize (s + 6 - w) % 6 = v at *
      congr 1
      by_cases z : 0 < v ∧ v ≤ a
      · rw [if_pos z, if_pos ⟨z.1, Nat.le_succ_of_le z.2⟩]
      · rw [if_neg z, if_neg fun x => z ⟨x.1, Nat.le_of_lt_succ (Nat.lt_of_le_of_ne x.2 hn)⟩]
theorem cOf_snoc (ws : List Int) (w s : Nat) : cOf (ws ++ [(w : Int)]) s = cOf ws s + (if s = w then 1 else 0) := by
  simp only [cOf, List.map_append, List.map_cons, List.map_nil, List.sum_append, List.sum_cons, List.sum_nil]
  congr 1
  rw [Int.add_zero]
  by_cases h : s = w
  · rw [if_pos h, if_pos (by omega)]
  · rw [if_neg h, if_neg (by omega)]
structure Inv (ws : List Int) (p : PS) : Prop where
  q : p.q < 64
  pl : p.P.length = 6
  rel : ∀ s, s < 6 → p.P.getD ((s + 1) % 6) 0 + tOf p.q s = cOf ws s + p.P.getD s 0
  cn : ∀ s, s < 6 → 0 ≤ cOf ws s ∧ 0 ≤ p.P.getD s 0 ∧ (tOf p.q s = 1 ∨ (tOf p.q s = 0 ∧ cOf ws s = 0 ∧ p.P.getD s 0 = 0))
  sp : ∀ s, s < 6 → cOf p.spots s = tOf p.q s
  sb : ∀ x ∈ p.spots, 0 ≤ x ∧ x < 6
  pb : ∀ s, s < 6 → p.P.getD s 0 ≤ ws.length
  sl : p.spots.length = ws.length
  fl : (frees p.q).length + ws.length = 6
theorem inv_nil : Inv [] (parkAll []) := ⟨by decide, by decide, by decide, by decide, by decide, by decide, by decide, by decide, by decide⟩
theorem inv_snoc {ws : List Int} {p : PS} (I : Inv ws p) (w : Nat) (hw : w < 6) (hl : ws.length < 6) : Inv (ws ++ [(w : Int)]) (p.step w) := by
  have hpos : 0 < p.q := by
    rcases Nat.eq_zero_or_pos p.q with e | e
    · have := I.fl; rw [e, frees_zero] at this; omega
    · exact e
  obtain ⟨t1, t2, t3, t4, t5⟩ := step_tab p.q I.q hpos w hw
  have ok := pick_ok p.q I.q hpos w hw
  obtain ⟨d, hd⟩ : ∃ d, ((pick (frees p.q) w - w).fmod 6).toNat = d := ⟨_, rfl⟩
  have eP : ∀ s, s < 6 → (p.step w).P.getD s 0 = p.P.getD s 0 + (if 0 < (s + 6 - w) % 6 ∧ (s + 6 - w) % 6 ≤ d then 1 else 0) := fun s hs => by
    show (passAdd p.P w ((pick (frees p.q) w - w).fmod 6).toNat).getD s 0 = _
    rw [hd]
    exact passAdd_getD p.P I.pl w s hw hs d (by omega)
  rw [hd] at t1 t2 t3 t4 t5
  have eQ : ∀ s, s < 6 → tOf (p.step w).q s = tOf p.q s + (if s = (w + d) % 6 then 1 else 0) := t5
  refine ⟨ok.2.2.2.1, by show (passAdd _ _ _).length = 6; rw [passAdd_len, I.pl], ?_, ?_, ?_, ?_, ?_, ?_, ?_⟩
  · intro s hs
    rw [eP _ (Nat.mod_lt _ (by decide)), eP s hs, eQ s hs, cOf_snoc]
    have r := I.rel s hs
    exact lin_ring r (ring_tab s hs w hw d t1)
  · intro s hs
    have c := I.cn s hs
    have t4' := t4 ((s + 6 - w) % 6) (Nat.mod_lt _ (by decide))
    rw [show (w + (s + 6 - w) % 6) % 6 = s by omega] at t4'
    rw [eP s hs, eQ s hs, cOf_snoc]
    by_cases a3 : s = (w + d) % 6
    · rw [← a3] at t3
      rw [if_pos a3]
      refine ⟨by split <;> omega, by split <;> omega, .inl (by omega)⟩
    · rw [if_neg a3]
      by_cases a5 : (s + 6 - w) % 6 < d
      · have := t4' a5
        refine ⟨by split <;> omega, by split <;> omega, .inl (by omega)⟩
      · rw [if_neg (show ¬ (0 < (s + 6 - w) % 6 ∧ (s + 6 - w) % 6 ≤ d) by omega), if_neg (show ¬ s = w by omega)]
        omega
  · intro s hs
    show cOf (p.spots ++ [pick (frees p.q) w]) s = _
    rw [t2, cOf_snoc, I.sp s hs, eQ s hs]
  · intro x hx
    rcases List.mem_append.mp (show x ∈ p.spots ++ [pick (frees p.q) w] from hx) with h | h
    · exact I.sb x h
    · rw [List.mem_singleton.mp h]; exact ⟨ok.2.1, ok.2.2.1⟩
  · intro s hs
    have := I.pb s hs
    rw [eP s hs, List.length_append, List.length_singleton]
    split <;> omega
  · show (p.spots ++ [pick (frees p.q) w]).length = _
    rw [List.length_append, List.length_append, I.sl]; rfl
  · have := I.fl
    have := ok.2.2.2.2.2
    rw [List.length_append, List.length_singleton]
    show (frees (offBit p.q (pick (frees p.q) w))).length + (ws.length + 1) = 6
    omega
theorem inv_take (ws : List Int) (hws : ∀ x ∈ ws, 0 ≤ x ∧ x < 6) (h6 : ws.length ≤ 6) : ∀ i, i ≤ ws.length → Inv (ws.take i) (parkAll (ws.take i))
  | 0, _ => by rw [List.take_zero]; exact inv_nil
  | i + 1, h => by
    have hlt : i < ws.length := h
    have hx := hws _ (List.getElem_mem hlt)
    rw [List.take_succ_eq_append_getElem hlt, parkAll_snoc]
    have z := inv_snoc (inv_take ws hws h6 i (by omega)) (ws[i]).toNat (by omega) (by rw [List.length_take]; omega)
    rw [show (((ws[i]).toNat : Nat) : Int) = ws[i] by omega] at z
    exact z
theorem inv_all (ws : List Int) (hws : ∀ x ∈ ws, 0 ≤ x ∧ x < 6) (h6 : ws.length ≤ 6) : Inv ws (parkAll ws) := by
  have z := inv_take ws hws h6 ws.length (Nat.le_refl _)
  rwa [List.take_length] at z

theorem sum_cnt (g : Int → Int) : ∀ l : List Int, (∀ x ∈ l, 0 ≤ x ∧ x < 6) → (l.map g).sum = cOf l 0 * g 0 + cOf l 1 * g 1 + cOf l 2 * g 2 + cOf l 3 * g 3 + cOf l 4 * g 4 + cOf l 5 * g 5
  | [], _ => by simp [cOf]
  | x :: l, h => by
    have ih := sum_cnt g l fun y hy => h y (.tail _ hy)
    have hx := h x (.head _)
    have e : ∀ s : Nat, cOf (x :: l) s = (if x = (s : Int) then 1 else 0) + cOf l s := fun s => by simp [cOf]
    rw [List.map_cons, List.sum_cons, ih, e, e, e, e, e, e]
    rcases (by omega : x = 0 ∨ x = 1 ∨ x = 2 ∨ x = 3 ∨ x = 4 ∨ x = 5) with rfl | rfl | rfl | rfl | rfl | rfl <;> simp [Int.add_mul] <;> omega
noncomputable def tb (q s : Nat) : Nat := if q.testBit s then 0 else 1
noncomputable def flN (q B : Nat) : Nat := tb q 0 * 2 ^ B + tb q 1 * 2 ^ (B + 1) + tb q 2 * 2 ^ (B + 2) + tb q 3 * 2 ^ (B + 3) + tb q 4 * 2 ^ (B + 4) + tb q 5 * 2 ^ (B + 5)
set_option synthInstance.maxSize 10000 in
set_option synthInstance.maxHeartbeats 1000000 in
theorem fl_tab : ∀ q, q < 64 → ∀ B, B < 27 → flN q B < 2 ^ 32 ∧ ((takes q).length = 0 ∨ flN q B ≠ 0) ∧ (List.range 32).filter (fun i => decide (flN q B / 2 ^ i % 2 = 1)) = (takes q).map (fun x => B + x.toNat) := by decide +kernel
theorem fWords_filter (f : Nat) : ∀ n, fWords f n = ((List.range n).filter fun i => decide (f / 2 ^ i % 2 = 1)).map fun i => lawWord (i : Nat)
  | 0 => rfl
  | n + 1 => by
    rw [List.range_succ, List.filter_append, List.map_append, ← fWords_filter f n, fWords]
    by_cases h : f / 2 ^ n % 2 = 1 <;> simp [h]
theorem fWords_congr (a b : Nat) : ∀ n, (∀ i, i < n → a / 2 ^ i % 2 = b / 2 ^ i % 2) → fWords a n = fWords b n
  | 0, _ => rfl
  | n + 1, h => by
    rw [fWords, fWords, h n (Nat.lt_succ_self n), fWords_congr a b n fun i hi => h i (Nat.lt_succ_of_lt hi)]
theorem bit_add (a M n m : Nat) : (a + M * 2 ^ (n + 1 + m)) / 2 ^ n % 2 = a / 2 ^ n % 2 := by
  have k : M * 2 ^ (n + 1 + m) = M * 2 ^ m * 2 * 2 ^ n := by
    rw [Nat.pow_add, Nat.pow_add, Nat.pow_one]
    simp only [Nat.mul_assoc, Nat.mul_comm, Nat.mul_left_comm]
  rw [k, Nat.add_mul_div_right _ _ (Nat.two_pow_pos n), Nat.add_mul_mod_self_right]
theorem fWords_add (a M N : Nat) (hN : N = 2 ^ 32) : fWords (a + M * N) 32 = fWords a 32 := by
  refine fWords_congr _ _ _ fun i hi => ?_
  have e := bit_add a M i (31 - i)
  rw [show i + 1 + (31 - i) = 32 by omega, ← hN] at e
  exact e
theorem hexS_W : ∀ M, M < 16 → 0 < M → hexS (M * 2 ^ 32) = hexW (M : Nat) := by decide +kernel
theorem plain_flags {ws : List Int} {p : PS} (I : Inv ws p) (h3 : 3 ≤ ws.length) {bs more : Int} (hbs : 0 ≤ bs ∧ bs < 27) (hm : 0 ≤ more ∧ more < 16) :
    ∃ f : Nat, f < 2 ^ 36 ∧ (p.spots.map fun x => (2 : Int) ^ (bs + x).toNat).sum + more * 2 ^ Int.toNat 32 = (f : Int) ∧ pfOut f = wordsL p.q bs more := by
  obtain ⟨B, rfl⟩ : ∃ B : Nat, bs = (B : Int) := ⟨bs.toNat, by omega⟩
  obtain ⟨M, rfl⟩ : ∃ M : Nat, more = (M : Int) := ⟨more.toNat, by omega⟩
  obtain ⟨f1, f2, f3⟩ := fl_tab p.q I.q B (by omega)
  have hq := split_len p.q I.q
  have hfl := I.fl
  refine ⟨flN p.q B + M * 2 ^ 32, by omega, ?_, ?_⟩
  · rw [sum_cnt _ _ I.sb]
    have hs : ∀ s, s < 6 → cOf p.spots s = (tb p.q s : Int) := fun s h => by rw [I.sp s h]; unfold tOf tb; split <;> rfl
    rw [hs 0 (by decide), hs 1 (by decide), hs 2 (by decide), hs 3 (by decide), hs 4 (by decide), hs 5 (by decide)]
    have e : ∀ (k : Nat) (z : Int), z = (k : Int) → (2 : Int) ^ ((B : Int) + z).toNat = ((2 ^ (B + k) : Nat) : Int) := fun k z hz => by
      rw [show ((B : Int) + z).toNat = B + k by omega]; simp
    rw [e 0 0 rfl, e 1 1 rfl, e 2 2 rfl, e 3 3 rfl, e 4 4 rfl, e 5 5 rfl]
    unfold flN
    have g : ∀ k : Nat, (2 : Int) ^ k = ((2 ^ k : Nat) : Int) := fun k => by simp
    rw [show Int.toNat 32 = 32 from rfl, g 32]
    generalize (2 ^ 32 : Nat) = N
    simp only [Int.natCast_add, Int.natCast_mul, Nat.add_zero]
  · have hd : (flN p.q B + M * 2 ^ 32) / 2 ^ 32 = M := by omega
    have hw : fWords (flN p.q B + M * 2 ^ 32) 32 = (takes p.q).map fun x => lawWord ((B : Int) + x) := by
      rw [fWords_add _ _ _ rfl, fWords_filter, f3, List.map_map]
      apply List.map_congr_left
      intro x hx
      have := takes_mem p.q I.q x hx
      show lawWord (((B + x.toNat : Nat)) : Int) = lawWord _
      congr 1; omega
    unfold pfOut wordsL
    rw [hd, hw]
    by_cases h : M = 0
    · rw [if_pos ⟨h, by omega⟩, if_neg (by omega), List.append_nil]
    · rw [if_neg (by omega), if_pos (by omega), hexS_W M (by omega) (by omega)]

noncomputable def U (rs : List Int) (ts k : Nat) : Int := (((rs.getD k 0).toNat / ts : Nat) : Int)
theorem cut_idx (s j : Nat) (hs : s < 6) (hj : j < 6) : (((s : Int) - (j : Int) - 1).fmod 6).toNat = (s + 5 - j) % 6 := by
  rw [Int.fmod_eq_emod_of_nonneg _ (by decide)]; omega
theorem S_rot (rs : List Int) (l : List Int) (hl : ∀ x ∈ l, 0 ≤ x ∧ x < 6) (j : Nat) (hj : j < 6) (ts : Nat) : sdiv (cutL l (j : Nat) rs) ts =
    cOf l ((j + 1) % 6) * U rs ts 0 + cOf l ((j + 2) % 6) * U rs ts 1 + cOf l ((j + 3) % 6) * U rs ts 2 + cOf l ((j + 4) % 6) * U rs ts 3 + cOf l ((j + 5) % 6) * U rs ts 4 + cOf l ((j + 6) % 6) * U rs ts 5 := by
  have e : sdiv (cutL l (j : Nat) rs) ts = (l.map fun k => U rs ts ((k - (j : Nat) - 1).fmod 6).toNat).sum := by
    unfold sdiv cutL U
    rw [List.map_map]; rfl
  rw [e, sum_cnt _ l hl]
  have g : ∀ (s : Nat) (z : Int), z = (s : Int) → s < 6 → ((z - (j : Int) - 1).fmod 6).toNat = (s + 5 - j) % 6 := fun s z hz hs => by rw [hz]; exact cut_idx s j hs hj
  rw [g 0 0 rfl (by decide), g 1 1 rfl (by decide), g 2 2 rfl (by decide), g 3 3 rfl (by decide), g 4 4 rfl (by decide), g 5 5 rfl (by decide)]
  rcases (by omega : j = 0 ∨ j = 1 ∨ j = 2 ∨ j = 3 ∨ j = 4 ∨ j = 5) with rfl | rfl | rfl | rfl | rfl | rfl <;> simp only [Nat.reduceAdd, Nat.reduceSub, Nat.reduceMod] <;> omega
structure Rot (n x0 x1 x2 x3 x4 x5 y0 y1 y2 y3 y4 y5 z0 z1 z2 z3 z4 z5 : Int) : Prop where
  r0 : y1 + z0 = x0 + y0
  r1 : y2 + z1 = x1 + y1
  r2 : y3 + z2 = x2 + y2
  r3 : y4 + z3 = x3 + y3
  r4 : y5 + z4 = x4 + y4
  r5 : y0 + z5 = x5 + y5
  c0 : 0 ≤ x0 ∧ 0 ≤ y0 ∧ (z0 = 1 ∨ (z0 = 0 ∧ x0 = 0 ∧ y0 = 0))
  c1 : 0 ≤ x1 ∧ 0 ≤ y1 ∧ (z1 = 1 ∨ (z1 = 0 ∧ x1 = 0 ∧ y1 = 0))
  c2 : 0 ≤ x2 ∧ 0 ≤ y2 ∧ (z2 = 1 ∨ (z2 = 0 ∧ x2 = 0 ∧ y2 = 0))
  c3 : 0 ≤ x3 ∧ 0 ≤ y3 ∧ (z3 = 1 ∨ (z3 = 0 ∧ x3 = 0 ∧ y3 = 0))
  c4 : 0 ≤ x4 ∧ 0 ≤ y4 ∧ (z4 = 1 ∨ (z4 = 0 ∧ x4 = 0 ∧ y4 = 0))
  c5 : 0 ≤ x5 ∧ 0 ≤ y5 ∧ (z5 = 1 ∨ (z5 = 0 ∧ x5 = 0 ∧ y5 = 0))
  sx : x0 + x1 + x2 + x3 + x4 + x5 = n
theorem cOf_sum (l : List Int) (hl : ∀ x ∈ l, 0 ≤ x ∧ x < 6) : cOf l 0 + cOf l 1 + cOf l 2 + cOf l 3 + cOf l 4 + cOf l 5 = l.length := by
  have h := sum_cnt (fun _ => 1) l hl
  have e : (l.map fun _ => (1 : Int)).sum = l.length := by
    induction l with
    | nil => rfl
    | cons x l ih => rw [List.map_cons, List.sum_cons, List.length_cons, ih (fun y hy => hl y (.tail _ hy)) (sum_cnt (fun _ => 1) l fun y hy => hl y (.tail _ hy))]; omega
  rw [e] at h
  omega
theorem Inv.rot {ws : List Int} {p : PS} (I : Inv ws p) (hws : ∀ x ∈ ws, 0 ≤ x ∧ x < 6) (j : Nat) (hj : j < 6) :
    Rot ws.length (cOf ws ((j + 1) % 6)) (cOf ws ((j + 2) % 6)) (cOf ws ((j + 3) % 6)) (cOf ws ((j + 4) % 6)) (cOf ws ((j + 5) % 6)) (cOf ws ((j + 6) % 6))
      (p.P.getD ((j + 1) % 6) 0) (p.P.getD ((j + 2) % 6) 0) (p.P.getD ((j + 3) % 6) 0) (p.P.getD ((j + 4) % 6) 0) (p.P.getD ((j + 5) % 6) 0) (p.P.getD ((j + 6) % 6) 0)
      (tOf p.q ((j + 1) % 6)) (tOf p.q ((j + 2) % 6)) (tOf p.q ((j + 3) % 6)) (tOf p.q ((j + 4) % 6)) (tOf p.q ((j + 5) % 6)) (tOf p.q ((j + 6) % 6)) := by
  have s := cOf_sum ws hws
  rcases (by omega : j = 0 ∨ j = 1 ∨ j = 2 ∨ j = 3 ∨ j = 4 ∨ j = 5) with rfl | rfl | rfl | rfl | rfl | rfl
  · exact ⟨I.rel 1 (by decide), I.rel 2 (by decide), I.rel 3 (by decide), I.rel 4 (by decide), I.rel 5 (by decide), I.rel 0 (by decide), I.cn 1 (by decide), I.cn 2 (by decide), I.cn 3 (by decide), I.cn 4 (by decide), I.cn 5 (by decide), I.cn 0 (by decide), by simp only [Nat.reduceAdd, Nat.reduceMod]; omega⟩
  · exact ⟨I.rel 2 (by decide), I.rel 3 (by decide), I.rel 4 (by decide), I.rel 5 (by decide), I.rel 0 (by decide), I.rel 1 (by decide), I.cn 2 (by decide), I.cn 3 (by decide), I.cn 4 (by decide), I.cn 5 (by decide), I.cn 0 (by decide), I.cn 1 (by decide), by simp only [Nat.reduceAdd, Nat.reduceMod]; omega⟩
  · exact ⟨I.rel 3 (by decide), I.rel 4 (by decide), I.rel 5 (by decide), I.rel 0 (by decide), I.rel 1 (by decide), I.rel 2 (by decide), I.cn 3 (by decide), I.cn 4 (by decide), I.cn 5 (by decide), I.cn 0 (by decide), I.cn 1 (by decide), I.cn 2 (by decide), by simp only [Nat.reduceAdd, Nat.reduceMod]; omega⟩
  · exact ⟨I.rel 4 (by decide), I.rel 5 (by decide), I.rel 0 (by decide), I.rel 1 (by decide), I.rel 2 (by decide), I.rel 3 (by decide), I.cn 4 (by decide), I.cn 5 (by decide), I.cn 0 (by decide), I.cn 1 (by decide), I.cn 2 (by decide), I.cn 3 (by decide), by simp only [Nat.reduceAdd, Nat.reduceMod]; omega⟩
  · exact ⟨I.rel 5 (by decide), I.rel 0 (by decide), I.rel 1 (by decide), I.rel 2 (by decide), I.rel 3 (by decide), I.rel 4 (by decide), I.cn 5 (by decide), I.cn 0 (by decide), I.cn 1 (by decide), I.cn 2 (by decide), I.cn 3 (by decide), I.cn 4 (by decide), by simp only [Nat.reduceAdd, Nat.reduceMod]; omega⟩
  · exact ⟨I.rel 0 (by decide), I.rel 1 (by decide), I.rel 2 (by decide), I.rel 3 (by decide), I.rel 4 (by decide), I.rel 5 (by decide), I.cn 0 (by decide), I.cn 1 (by decide), I.cn 2 (by decide), I.cn 3 (by decide), I.cn 4 (by decide), I.cn 5 (by decide), by simp only [Nat.reduceAdd, Nat.reduceMod]; omega⟩
theorem abel (x0 x1 x2 x3 x4 x5 u0 u1 u2 u3 u4 u5 : Int) : x0 * u0 + x1 * u1 + x2 * u2 + x3 * u3 + x4 * u4 + x5 * u5 =
    (x0 + x1 + x2 + x3 + x4 + x5) * u0 + (x1 + x2 + x3 + x4 + x5) * (u1 - u0) + (x2 + x3 + x4 + x5) * (u2 - u1) + (x3 + x4 + x5) * (u3 - u2) + (x4 + x5) * (u4 - u3) + x5 * (u5 - u4) := by grind
section
variable {n x0 x1 x2 x3 x4 x5 y0 y1 y2 y3 y4 y5 z0 z1 z2 z3 z4 z5 u0 u1 u2 u3 u4 u5 : Int}
theorem Rot.free (R : Rot n x0 x1 x2 x3 x4 x5 y0 y1 y2 y3 y4 y5 z0 z1 z2 z3 z4 z5) (hz : z5 = 0) : x5 = 0 ∧ y5 = 0 ∧ y0 = 0 ∧ x4 + x5 ≤ 1 ∧ x3 + x4 + x5 ≤ 2 ∧ x2 + x3 + x4 + x5 ≤ 3 ∧ x1 + x2 + x3 + x4 + x5 ≤ 4 := by
  have one : ∀ {x y z : Int}, 0 ≤ x ∧ 0 ≤ y ∧ (z = 1 ∨ (z = 0 ∧ x = 0 ∧ y = 0)) → 0 ≤ y ∧ z ≤ 1 := by omega
  have nil : ∀ {x y z : Int}, 0 ≤ x ∧ 0 ≤ y ∧ (z = 1 ∨ (z = 0 ∧ x = 0 ∧ y = 0)) → z = 0 → x = 0 ∧ y = 0 := by omega
  have e5 := nil R.c5 hz
  have a0 := (one R.c0).1
  have a1 := one R.c1; have a2 := one R.c2; have a3 := one R.c3; have a4 := one R.c4
  have r1 := R.r1; have r2 := R.r2; have r3 := R.r3; have r4 := R.r4; have r5 := R.r5
  clear R one nil
  rw [e5.1, e5.2] at *
  clear e5
  exact ⟨rfl, rfl, by omega, by omega, by omega, by omega, by omega⟩
theorem Rot.full (R : Rot n x0 x1 x2 x3 x4 x5 y0 y1 y2 y3 y4 y5 z0 z1 z2 z3 z4 z5) (hz : z5 = 1) (hn : n ≤ 5) : 1 ≤ x5 ∨ 2 ≤ x4 + x5 ∨ 3 ≤ x3 + x4 + x5 ∨ 4 ≤ x2 + x3 + x4 + x5 ∨ 5 ≤ x1 + x2 + x3 + x4 + x5 := by
  obtain ⟨r0, r1, r2, r3, r4, r5, c0, c1, c2, c3, c4, c5, sx⟩ := R
  omega
/-- the dominated sum -/
theorem Rot.dom (R : Rot n x0 x1 x2 x3 x4 x5 y0 y1 y2 y3 y4 y5 z0 z1 z2 z3 z4 z5) (hz : z5 = 0) (h01 : u0 ≤ u1) (h12 : u1 ≤ u2) (h23 : u2 ≤ u3) (h34 : u3 ≤ u4) (h45 : u4 ≤ u5) :
    (n = 5 → x0 * u0 + x1 * u1 + x2 * u2 + x3 * u3 + x4 * u4 + x5 * u5 ≤ u0 + u1 + u2 + u3 + u4) ∧ (n = 4 → x0 * u0 + x1 * u1 + x2 * u2 + x3 * u3 + x4 * u4 + x5 * u5 ≤ u1 + u2 + u3 + u4) ∧ (n = 3 → x0 * u0 + x1 * u1 + x2 * u2 + x3 * u3 + x4 * u4 + x5 * u5 ≤ u2 + u3 + u4) := by
  obtain ⟨f1, f2, f3, f4, f5, f6, f7⟩ := R.free hz
  have c0 := R.c0.1; have c1 := R.c1.1; have c2 := R.c2.1; have c3 := R.c3.1; have c4 := R.c4.1
  have sx := R.sx
  rw [abel, sx]
  have m : ∀ {a c d : Int}, a ≤ c → 0 ≤ d → a * d ≤ c * d := fun h1 h2 => Int.mul_le_mul_of_nonneg_right h1 h2
  have k5 := m (show x5 ≤ 0 by omega) (show 0 ≤ u5 - u4 by omega)
  have k4 := m f4 (show 0 ≤ u4 - u3 by omega)
  have k3 := m f5 (show 0 ≤ u3 - u2 by omega)
  refine ⟨fun e => ?_, fun e => ?_, fun e => ?_⟩
  · have k2 := m f6 (show 0 ≤ u2 - u1 by omega)
    have k1 := m f7 (show 0 ≤ u1 - u0 by omega)
    rw [e]; omega
  · have k2 := m f6 (show 0 ≤ u2 - u1 by omega)
    have k1 := m (show x1 + x2 + x3 + x4 + x5 ≤ 4 by omega) (show 0 ≤ u1 - u0 by omega)
    rw [e]; omega
  · have k2 := m (show x2 + x3 + x4 + x5 ≤ 3 by omega) (show 0 ≤ u2 - u1 by omega)
    have k1 := m (show x1 + x2 + x3 + x4 + x5 ≤ 3 by omega) (show 0 ≤ u1 - u0 by omega)
    rw [e]; omega
/-- what the drives through the gates tell -/
theorem Rot.drives (R : Rot n x0 x1 x2 x3 x4 x5 y0 y1 y2 y3 y4 y5 z0 z1 z2 z3 z4 z5) (hz : z5 = 0) :
    x0 * u0 + x1 * u1 + x2 * u2 + x3 * u3 + x4 * u4 + x5 * u5 = (z0 * u0 + z1 * u1 + z2 * u2 + z3 * u3 + z4 * u4 + z5 * u5) - (y1 * (u1 - u0) + y2 * (u2 - u1) + y3 * (u3 - u2) + y4 * (u4 - u3) + y5 * (u5 - u4)) := by
  obtain ⟨f1, f2, f3, _⟩ := R.free hz
  obtain ⟨r0, r1, r2, r3, r4, r5, _⟩ := R
  rw [show x0 = y1 + z0 - y0 by omega, show x1 = y2 + z1 - y1 by omega, show x2 = y3 + z2 - y2 by omega, show x3 = y4 + z3 - y3 by omega, show x4 = y5 + z4 - y4 by omega, f1, f2, f3, hz]
  grind
end

noncomputable abbrev R6 (r0 : Int) : List Int := [r0, 5, 6, 7, 8, 9]
theorem U_mono (r0 : Int) (h0 : 0 ≤ r0 ∧ r0 < 5) (ts : Nat) : U (R6 r0) ts 0 ≤ U (R6 r0) ts 1 ∧ U (R6 r0) ts 1 ≤ U (R6 r0) ts 2 ∧ U (R6 r0) ts 2 ≤ U (R6 r0) ts 3 ∧ U (R6 r0) ts 3 ≤ U (R6 r0) ts 4 ∧ U (R6 r0) ts 4 ≤ U (R6 r0) ts 5 := by
  have m : ∀ {a b : Nat}, a ≤ b → ((a / ts : Nat) : Int) ≤ ((b / ts : Nat) : Int) := fun h => Int.ofNat_le.mpr (Nat.div_le_div_right h)
  exact ⟨m (show r0.toNat ≤ 5 by omega), m (show 5 ≤ 6 by decide), m (show 6 ≤ 7 by decide), m (show 7 ≤ 8 by decide), m (show 8 ≤ 9 by decide)⟩
theorem last_eq (r0 : Int) (n : Nat) (h3 : 3 ≤ n) (h5 : n ≤ 5) : lastRuns (R6 r0) (n : Int) = (if n = 3 then [6, 7, 8] else if n = 4 then [5, 6, 7, 8] else [r0, 5, 6, 7, 8]) := by
  rcases (by omega : n = 3 ∨ n = 4 ∨ n = 5) with rfl | rfl | rfl <;> rfl
theorem sdiv_last (r0 : Int) (n ts : Nat) (h3 : 3 ≤ n) (h5 : n ≤ 5) : (n = 5 → sdiv (lastRuns (R6 r0) (n : Int)) ts = U (R6 r0) ts 0 + U (R6 r0) ts 1 + U (R6 r0) ts 2 + U (R6 r0) ts 3 + U (R6 r0) ts 4) ∧
    (n = 4 → sdiv (lastRuns (R6 r0) (n : Int)) ts = U (R6 r0) ts 1 + U (R6 r0) ts 2 + U (R6 r0) ts 3 + U (R6 r0) ts 4) ∧ (n = 3 → sdiv (lastRuns (R6 r0) (n : Int)) ts = U (R6 r0) ts 2 + U (R6 r0) ts 3 + U (R6 r0) ts 4) := by
  rw [last_eq r0 n h3 h5]
  refine ⟨fun e => ?_, fun e => ?_, fun e => ?_⟩
  · subst e
    show U (R6 r0) ts 0 + (U (R6 r0) ts 1 + (U (R6 r0) ts 2 + (U (R6 r0) ts 3 + (U (R6 r0) ts 4 + 0)))) = _
    omega
  · subst e
    show U (R6 r0) ts 1 + (U (R6 r0) ts 2 + (U (R6 r0) ts 3 + (U (R6 r0) ts 4 + 0))) = _
    omega
  · subst e
    show U (R6 r0) ts 2 + (U (R6 r0) ts 3 + (U (R6 r0) ts 4 + 0)) = _
    omega
theorem last_mem (r0 : Int) (h0 : 0 ≤ r0 ∧ r0 < 5) (n : Nat) (h3 : 3 ≤ n) (h5 : n ≤ 5) : (8 : Int) ∈ lastRuns (R6 r0) (n : Int) ∧ (∀ r ∈ lastRuns (R6 r0) (n : Int), 0 ≤ r ∧ r ≤ 8) ∧ (lastRuns (R6 r0) (n : Int)).length = n := by
  rw [last_eq r0 n h3 h5]
  rcases (by omega : n = 3 ∨ n = 4 ∨ n = 5) with rfl | rfl | rfl <;> simp <;> omega
theorem lead_n (rs : List Int) (b : Int) (hb : 0 ≤ b) : ((wsOf (leadStr rs b)).n : Int) = sdiv rs 1 + rs.length + b := by
  rw [wsOf_lead]
  show (((rs.map fun r => r.toNat + 1).sum + b.toNat : Nat) : Int) = _
  have e : ∀ l : List Int, (((l.map fun r => r.toNat + 1).sum : Nat) : Int) = sdiv l 1 + l.length := by
    intro l
    induction l with
    | nil => rfl
    | cons r l ih =>
      simp only [sdiv, List.map_cons, List.sum_cons, List.length_cons, Nat.div_one] at ih ⊢
      omega
  rw [Int.natCast_add, e]
  omega
theorem lead_cs (rs : List Int) (b : Int) : (wsOf (leadStr rs b)).cs = csOf rs := by rw [wsOf_lead]
theorem lead_b (rs : List Int) (b : Int) : (wsOf (leadStr rs b)).b = b.toNat := by rw [wsOf_lead]
theorem less_false {W W' : WS} (hs : ¬ (W.cs.length ≤ 1 ∧ W'.cs.length ≤ 1)) {ts : Nat} (h2 : 2 ≤ ts) (hm : ts ≤ WS.maxLong W W' + 1) (hl : ¬ W.lvl ts < W'.lvl ts) : W.lessB W' = false := by
  by_cases h : W'.n ≤ W.n
  · unfold WS.lessB; rw [if_pos h]
  · exact WS.less_no h hs (i := ts - 2) (by omega) (by rwa [show 2 + (ts - 2) = ts by omega])
theorem maxLong_ge (W W' : WS) : W.cs.length ≤ WS.maxLong W W' + 1 ∧ W'.cs.length ≤ WS.maxLong W W' + 1 ∧ W.b ≤ WS.maxLong W W' ∧ W'.b ≤ WS.maxLong W W' := by
  have t1 : ∀ {a : Nat} {x : Int}, (a : Int) - 1 ≤ x → a ≤ x.toNat + 1 := by omega
  have t2 : ∀ {a : Nat} {x : Int}, (a : Int) ≤ x → a ≤ x.toNat := by omega
  exact ⟨t1 (Int.le_trans (Int.le_max_left _ _) (Int.le_max_left _ _)), t1 (Int.le_trans (Int.le_max_left _ _) (Int.le_max_right _ _)), t2 (Int.le_trans (Int.le_max_right _ _) (Int.le_max_left _ _)), t2 (Int.le_trans (Int.le_max_right _ _) (Int.le_max_right _ _))⟩
theorem maxLong_le {W W' : WS} {m : Nat} (h1 : W.cs.length ≤ m + 1) (h2 : W'.cs.length ≤ m + 1) (h3 : W.b ≤ m) (h4 : W'.b ≤ m) : WS.maxLong W W' ≤ m := by
  unfold WS.maxLong WS.long
  omega
theorem last_cs (r0 : Int) (h0 : 0 ≤ r0 ∧ r0 < 5) (n : Nat) (h3 : 3 ≤ n) (h5 : n ≤ 5) : (csOf (lastRuns (R6 r0) (n : Int))).length = 9 := by
  obtain ⟨a, b, _⟩ := last_mem r0 h0 n h3 h5
  have h1 := (cs_len (lastRuns (R6 r0) (n : Int)) 9).mpr fun r hr => by have := b r hr; omega
  have h2 : ¬ (csOf (lastRuns (R6 r0) (n : Int))).length ≤ 8 := fun h => by
    have := (cs_len _ 8).mp h 8 a
    omega
  omega
theorem tOf_bit {q j : Nat} : (tOf q j = 0 ↔ q.testBit j = true) ∧ (tOf q j = 1 ↔ q.testBit j = false) := by
  unfold tOf
  cases q.testBit j <;> decide
theorem lvl_lt {b n SA SB : Int} {ts : Nat} (h : SA ≤ SB) (hb : 0 ≤ b) : (b.toNat : Int) + ts * (SA + n) < ((b + 1).toNat : Int) + ts * (SB + n) := by
  have := Int.mul_le_mul_of_nonneg_left (show SA + n ≤ SB + n by omega) (show (0 : Int) ≤ ts by omega)
  omega
theorem lvl_ge {b n SA SB : Int} {ts : Nat} (h : SB + 1 ≤ SA) (hb : 0 ≤ b) (ht : 1 ≤ ts) : ¬ (b.toNat : Int) + ts * (SA + n) < ((b + 1).toNat : Int) + ts * (SB + n) := by
  have := Int.mul_le_mul_of_nonneg_left (show SB + n + 1 ≤ SA + n by omega) (show (0 : Int) ≤ ts by omega)
  rw [Int.mul_add ts (SB + n) 1] at this
  omega
section
variable {ws : List Int} {p : PS} {r0 b : Int}
theorem dom_le (I : Inv ws p) (hws : ∀ x ∈ ws, 0 ≤ x ∧ x < 6) (h3 : 3 ≤ ws.length) (h5 : ws.length ≤ 5) (h0 : 0 ≤ r0 ∧ r0 < 5) (j : Nat) (hj : j < 6) (hz : tOf p.q j = 0) (ts : Nat) :
    sdiv (cutL ws (j : Nat) (R6 r0)) ts ≤ sdiv (lastRuns (R6 r0) (ws.length : Int)) ts := by
  rw [S_rot _ ws hws j hj ts]
  have R := I.rot hws j hj
  have e : (j + 6) % 6 = j := by omega
  obtain ⟨m1, m2, m3, m4, m5⟩ := U_mono r0 h0 ts
  obtain ⟨a, c, d⟩ := R.dom (by rw [e]; exact hz) m1 m2 m3 m4 m5
  obtain ⟨a', c', d'⟩ := sdiv_last r0 ws.length ts h3 h5
  rcases (by omega : ws.length = 5 ∨ ws.length = 4 ∨ ws.length = 3) with q | q | q
  · rw [a' q]; exact a (by omega)
  · rw [c' q]; exact c (by omega)
  · rw [d' q]; exact d (by omega)
theorem plain_less (I : Inv ws p) (hws : ∀ x ∈ ws, 0 ≤ x ∧ x < 6) (h3 : 3 ≤ ws.length) (h5 : ws.length ≤ 5) (h0 : 0 ≤ r0 ∧ r0 < 5) (hb : 0 ≤ b ∧ b < 3) (j : Nat) (hj : j < 6) :
    (leadW ws (R6 r0) b (j : Nat)).lessB (wsOf (leadStr (lastRuns (R6 r0) (ws.length : Int)) (b + 1))) = p.q.testBit j := by
  have hlen : (cutL ws (j : Nat) (R6 r0)).length = ws.length := cutL_len _ _ _
  obtain ⟨l1, l2, l3⟩ := last_mem r0 h0 ws.length h3 h5
  have lc := last_cs r0 h0 ws.length h3 h5
  have hs : ¬ ((leadW ws (R6 r0) b (j : Nat)).cs.length ≤ 1 ∧ (wsOf (leadStr (lastRuns (R6 r0) (ws.length : Int)) (b + 1))).cs.length ≤ 1) := by
    rw [lead_cs (lastRuns _ _), lc]; omega
  have hm := (maxLong_ge (leadW ws (R6 r0) b (j : Nat)) (wsOf (leadStr (lastRuns (R6 r0) (ws.length : Int)) (b + 1)))).2.1
  rw [lead_cs (lastRuns _ _), lc] at hm
  cases hq : p.q.testBit j with
  | true =>
    have hz := tOf_bit.1.mpr hq
    have dm := dom_le I hws h3 h5 h0 j hj hz
    refine WS.less_yes ?_ hs fun k _ => ?_
    · have n1 := lead_n (cutL ws (j : Nat) (R6 r0)) b hb.1
      have n2 := lead_n (lastRuns (R6 r0) (ws.length : Int)) (b + 1) (by omega)
      have d1 := dm 1
      unfold leadW
      omega
    · unfold leadW
      rw [lead_lvl, lead_lvl, hlen, l3]
      exact lvl_lt (dm _) hb.1
  | false =>
    have hz := tOf_bit.2.mpr hq
    have R := I.rot hws j hj
    have e : (j + 6) % 6 = j := by omega
    have F := R.full (by rw [e]; exact hz) (by omega)
    have key : ∀ ts, 5 ≤ ts → ts ≤ 9 → sdiv (lastRuns (R6 r0) (ws.length : Int)) ts + 1 ≤ sdiv (cutL ws (j : Nat) (R6 r0)) ts → (leadW ws (R6 r0) b (j : Nat)).lessB (wsOf (leadStr (lastRuns (R6 r0) (ws.length : Int)) (b + 1))) = false := by
      intro ts t5 t9 h
      refine less_false hs (ts := ts) (by omega) (by omega) ?_
      unfold leadW
      rw [lead_lvl, lead_lvl, hlen, l3]
      exact lvl_ge h hb.1 (by omega)
    have u0 : ∀ ts, 5 ≤ ts → U (R6 r0) ts 0 = 0 := fun ts h => by
      show ((r0.toNat / ts : Nat) : Int) = 0
      rw [Nat.div_eq_of_lt (by omega)]; rfl
    have sx := R.sx
    have c0 := R.c0.1; have c1 := R.c1.1; have c2 := R.c2.1; have c3 := R.c3.1; have c4 := R.c4.1; have c5 := R.c5.1
    have use : ∀ ts, 5 ≤ ts → ts ≤ 9 → ∀ a1 a2 a3 a4 a5 : Int, ((5 / ts : Nat) : Int) = a1 → ((6 / ts : Nat) : Int) = a2 → ((7 / ts : Nat) : Int) = a3 → ((8 / ts : Nat) : Int) = a4 → ((9 / ts : Nat) : Int) = a5 →
        a1 + a2 + a3 + a4 + 1 ≤ cOf ws ((j + 2) % 6) * a1 + cOf ws ((j + 3) % 6) * a2 + cOf ws ((j + 4) % 6) * a3 + cOf ws ((j + 5) % 6) * a4 + cOf ws ((j + 6) % 6) * a5 → 0 ≤ a1 →
        (leadW ws (R6 r0) b (j : Nat)).lessB (wsOf (leadStr (lastRuns (R6 r0) (ws.length : Int)) (b + 1))) = false := by
      intro ts t5 t9 a1 a2 a3 a4 a5 e1 e2 e3 e4 e5 h hp
      refine key ts t5 t9 ?_
      replace e1 : U (R6 r0) ts 1 = a1 := e1
      replace e2 : U (R6 r0) ts 2 = a2 := e2
      replace e3 : U (R6 r0) ts 3 = a3 := e3
      replace e4 : U (R6 r0) ts 4 = a4 := e4
      replace e5 : U (R6 r0) ts 5 = a5 := e5
      rw [S_rot _ ws hws j hj ts, u0 ts t5, e1, e2, e3, e4, e5]
      obtain ⟨a', c', d'⟩ := sdiv_last r0 ws.length ts h3 h5
      rw [u0 ts t5, e1, e2, e3, e4] at a'
      rw [e1, e2, e3, e4] at c'
      rw [e2, e3, e4] at d'
      omega
    rcases F with f | f | f | f | f
    · exact use 9 (by decide) (by decide) 0 0 0 0 1 (by decide) (by decide) (by decide) (by decide) (by decide) (by omega) (by decide)
    · exact use 8 (by decide) (by decide) 0 0 0 1 1 (by decide) (by decide) (by decide) (by decide) (by decide) (by omega) (by decide)
    · exact use 7 (by decide) (by decide) 0 0 1 1 1 (by decide) (by decide) (by decide) (by decide) (by decide) (by omega) (by decide)
    · exact use 6 (by decide) (by decide) 0 1 1 1 1 (by decide) (by decide) (by decide) (by decide) (by decide) (by omega) (by decide)
    · exact use 5 (by decide) (by decide) 1 1 1 1 1 (by decide) (by decide) (by decide) (by decide) (by decide) (by omega) (by decide)
end

theorem cOf_nonneg (l : List Int) (s : Nat) : 0 ≤ cOf l s := by
  unfold cOf
  induction l with
  | nil => exact Int.le_refl _
  | cons x l ih => rw [List.map_cons, List.sum_cons]; split <;> omega
theorem cOf_mem : ∀ {l : List Int} {s : Nat}, (s : Int) ∈ l → 1 ≤ cOf l s
  | x :: l, s, h => by
    have k := cOf_nonneg l s
    have e : cOf (x :: l) s = (if x = (s : Int) then 1 else 0) + cOf l s := by simp [cOf]
    rw [e]
    rcases List.mem_cons.mp h with h | h
    · rw [if_pos h.symm]; omega
    · have := cOf_mem h; split <;> omega
theorem cut_tab : ∀ k, k < 6 → ∀ j, j < 6 → (((k : Nat) : Int) - (j : Nat) - 1).fmod 6 = (((k + 5 - j) % 6 : Nat) : Int) ∧ (k ≠ j → (k + 5 - j) % 6 < 5) := by decide +kernel
theorem cut_le8 {l : List Int} {r0 : Int} (h0 : 0 ≤ r0 ∧ r0 < 5) (hl : ∀ x ∈ l, 0 ≤ x ∧ x < 6) (j : Nat) (hj : j < 6) (hc : cOf l j = 0) : ∀ r ∈ cutL l (j : Nat) (R6 r0), 0 ≤ r ∧ r ≤ 8 := by
  intro r hr
  obtain ⟨k, hk, rfl⟩ := List.mem_map.mp hr
  have hb := hl k hk
  have hne : k ≠ (j : Int) := fun e => by
    have := cOf_mem (l := l) (s := j) (e ▸ hk)
    omega
  obtain ⟨n, rfl⟩ := Int.eq_ofNat_of_zero_le hb.1
  have t := cut_tab n (Int.ofNat_lt.mp hb.2) j hj
  rw [t.1, Int.toNat_natCast]
  have := t.2 fun e => hne (e ▸ rfl)
  generalize (n + 5 - j) % 6 = v at this
  clear t hne hb hk hl hc
  match v, this with
  | 0, _ => exact ⟨h0.1, Int.le_of_lt (Int.lt_trans h0.2 (by decide))⟩
  | 1, _ => exact ⟨show (0 : Int) ≤ 5 by decide, show (5 : Int) ≤ 8 by decide⟩
  | 2, _ => exact ⟨show (0 : Int) ≤ 6 by decide, show (6 : Int) ≤ 8 by decide⟩
  | 3, _ => exact ⟨show (0 : Int) ≤ 7 by decide, show (7 : Int) ≤ 8 by decide⟩
  | 4, _ => exact ⟨show (0 : Int) ≤ 8 by decide, show (8 : Int) ≤ 8 by decide⟩
theorem cut_nonneg {l : List Int} {r0 : Int} (h0 : 0 ≤ r0 ∧ r0 < 5) (e : Int) : ∀ r ∈ cutL l e (R6 r0), 0 ≤ r ∧ r < 16 := cutL_mem (rs := R6 r0) (by intro r hr; simp only [R6, List.mem_cons, List.not_mem_nil, or_false] at hr; omega)
theorem sumL_lvl {xs : List Int} {b : Int} (hx : ∀ x ∈ xs, 0 ≤ x) (hb : 0 ≤ b) (ts : Nat) : sumL b (ts : Nat) xs = (wsOf (leadStr xs b)).lvl ts := by
  rw [lead_lvl]
  have e : (xs.map fun x => x.fdiv (ts : Nat) + 1).sum = sdiv xs ts + xs.length := by
    clear hb
    induction xs with
    | nil => rfl
    | cons x l ih =>
      have h := hx x (.head _)
      simp only [sdiv, List.map_cons, List.sum_cons, List.length_cons] at ih ⊢
      rw [ih fun y hy => hx y (.tail _ hy)]
      have ed : x.fdiv (ts : Nat) = ((x.toNat / ts : Nat) : Int) := by
        obtain ⟨k, rfl⟩ : ∃ k : Nat, x = (k : Int) := ⟨x.toNat, by omega⟩
        rw [← Int.ofNat_fdiv]; rfl
      rw [ed]
      omega
  unfold sumL
  rw [e]
  congr 1
  omega
theorem trips_ext {W W' : WS} {i : Nat} : ∀ m, i ≤ m → (∀ k, i ≤ k → k < m → W.lvl (1 + k) = W'.lvl (1 + k)) → W.trips W' m = W.trips W' i
  | 0, h, _ => by rw [show i = 0 by omega]
  | m + 1, h, hk => by
    by_cases e : i = m + 1
    · rw [e]
    · rw [WS.trips_eq (hk m (by omega) (by omega)), trips_ext m (by omega) fun k a b => hk k a (by omega)]
section
variable {ws : List Int} {p : PS} {r0 b : Int}
theorem near_lvl (I : Inv ws p) (hws : ∀ x ∈ ws, 0 ≤ x ∧ x < 6) (h0 : 0 ≤ r0 ∧ r0 < 5) (hb : 0 ≤ b) (j : Nat) (hj : j < 6) (hz : tOf p.q j = 0) (ts : Nat) :
    nearL b p.P (R6 r0) (cutL p.spots (j : Nat) (R6 r0)) (j : Nat) (ts : Nat) = (leadW ws (R6 r0) b (j : Nat)).lvl ts ∧ (leadW ws (R6 r0) b (j : Nat)).lvl ts ≤ (wsOf (leadStr (cutL p.spots (j : Nat) (R6 r0)) b)).lvl ts := by
  have R := I.rot hws j hj
  have e : (j + 6) % 6 = j := by omega
  rw [← e] at hz
  have D := R.drives (u0 := U (R6 r0) ts 0) (u1 := U (R6 r0) ts 1) (u2 := U (R6 r0) ts 2) (u3 := U (R6 r0) ts 3) (u4 := U (R6 r0) ts 4) (u5 := U (R6 r0) ts 5) hz
  have s1 := S_rot (R6 r0) ws hws j hj ts
  have s2 := S_rot (R6 r0) p.spots I.sb j hj ts
  rw [I.sp _ (Nat.mod_lt _ (by decide)), I.sp _ (Nat.mod_lt _ (by decide)), I.sp _ (Nat.mod_lt _ (by decide)), I.sp _ (Nat.mod_lt _ (by decide)), I.sp _ (Nat.mod_lt _ (by decide)), I.sp _ (Nat.mod_lt _ (by decide))] at s2
  rw [← s1, ← s2] at D
  have fd : ∀ k, ((R6 r0).getD k 0).fdiv (ts : Nat) = U (R6 r0) ts k := fun k => by
    have : 0 ≤ (R6 r0).getD k 0 := (getD_bd (B := 16) (by intro r hr; simp only [R6, List.mem_cons, List.not_mem_nil, or_false] at hr; omega) (by decide) k).1
    obtain ⟨n, hn⟩ : ∃ n : Nat, (R6 r0).getD k 0 = (n : Int) := ⟨((R6 r0).getD k 0).toNat, by omega⟩
    unfold U
    rw [hn, ← Int.ofNat_fdiv]; rfl
  have dv : ∀ g : Nat, drv p.P (R6 r0) (j : Nat) (ts : Nat) ((g + 1 : Nat) : Int) = p.P.getD ((j + (g + 2)) % 6) 0 * (U (R6 r0) ts (g + 1) - U (R6 r0) ts g) := fun g => by
    unfold drv
    have e1 : (((j : Int) + 1 + ((g + 1 : Nat) : Int)).fmod 6).toNat = (j + (g + 2)) % 6 := by
      rw [Int.fmod_eq_emod_of_nonneg _ (by decide)]; omega
    rw [e1, show (((g + 1 : Nat) : Int)).toNat = g + 1 by omega, show (((g + 1 : Nat) : Int) - 1).toNat = g by omega, fd, fd]
  have ds : (drvs p.P (R6 r0) (j : Nat) (ts : Nat)).sum = p.P.getD ((j + 2) % 6) 0 * (U (R6 r0) ts 1 - U (R6 r0) ts 0) + p.P.getD ((j + 3) % 6) 0 * (U (R6 r0) ts 2 - U (R6 r0) ts 1) + p.P.getD ((j + 4) % 6) 0 * (U (R6 r0) ts 3 - U (R6 r0) ts 2) + p.P.getD ((j + 5) % 6) 0 * (U (R6 r0) ts 4 - U (R6 r0) ts 3) + p.P.getD ((j + 6) % 6) 0 * (U (R6 r0) ts 5 - U (R6 r0) ts 4) := by
    show drv p.P (R6 r0) (j : Nat) (ts : Nat) ((0 + 1 : Nat) : Int) + (drv p.P (R6 r0) (j : Nat) (ts : Nat) ((1 + 1 : Nat) : Int) + (drv p.P (R6 r0) (j : Nat) (ts : Nat) ((2 + 1 : Nat) : Int) + (drv p.P (R6 r0) (j : Nat) (ts : Nat) ((3 + 1 : Nat) : Int) + (drv p.P (R6 r0) (j : Nat) (ts : Nat) ((4 + 1 : Nat) : Int) + 0)))) = _
    rw [dv, dv, dv, dv, dv]
    simp only [Nat.reduceAdd]
    omega
  obtain ⟨m1, m2, m3, m4, m5⟩ := U_mono r0 h0 ts
  have nn : ∀ {a d : Int}, 0 ≤ a → 0 ≤ d → 0 ≤ a * d := fun h1 h2 => Int.mul_nonneg h1 h2
  have k1 := nn R.c1.2.1 (show 0 ≤ U (R6 r0) ts 1 - U (R6 r0) ts 0 by omega)
  have k2 := nn R.c2.2.1 (show 0 ≤ U (R6 r0) ts 2 - U (R6 r0) ts 1 by omega)
  have k3 := nn R.c3.2.1 (show 0 ≤ U (R6 r0) ts 3 - U (R6 r0) ts 2 by omega)
  have k4 := nn R.c4.2.1 (show 0 ≤ U (R6 r0) ts 4 - U (R6 r0) ts 3 by omega)
  have k5 := nn R.c5.2.1 (show 0 ≤ U (R6 r0) ts 5 - U (R6 r0) ts 4 by omega)
  rw [← ds] at D
  unfold nearL leadW
  rw [sumL_lvl (fun x hx => (cut_nonneg h0 _ x hx).1) hb, lead_lvl, lead_lvl, cutL_len, cutL_len, I.sl, D]
  refine ⟨?_, ?_⟩
  · generalize sdiv (cutL p.spots (j : Nat) (R6 r0)) ts = S
    generalize (drvs p.P (R6 r0) (j : Nat) (ts : Nat)).sum = V
    grind
  · have hV : 0 ≤ (drvs p.P (R6 r0) (j : Nat) (ts : Nat)).sum := by rw [ds]; omega
    have := Int.mul_le_mul_of_nonneg_left (show sdiv (cutL p.spots (j : Nat) (R6 r0)) ts - (drvs p.P (R6 r0) (j : Nat) (ts : Nat)).sum + ws.length ≤ sdiv (cutL p.spots (j : Nat) (R6 r0)) ts + ws.length by omega) (show (0 : Int) ≤ ts by omega)
    omega
end

theorem fm_congr {α β : Type} {f g : α → Option β} : ∀ {l : List α}, (∀ x ∈ l, f x = g x) → l.filterMap f = l.filterMap g
  | [], _ => rfl
  | x :: l, h => by
    rw [List.filterMap_cons, List.filterMap_cons, h x (.head _), fm_congr fun y hy => h y (.tail _ hy)]
section
variable {ws : List Int} {p : PS} {r0 b : Int}
theorem edge_zero (I : Inv ws p) (hws : ∀ x ∈ ws, 0 ≤ x ∧ x < 6) (j : Nat) (hj : j < 6) (hz : tOf p.q j = 0) : cOf ws j = 0 ∧ cOf p.spots j = 0 := by
  have c := I.cn j hj
  have s := I.sp j hj
  omega
theorem lead_len9 {l : List Int} (h0 : 0 ≤ r0 ∧ r0 < 5) (hl : ∀ x ∈ l, 0 ≤ x ∧ x < 6) (j : Nat) (hj : j < 6) (hc : cOf l j = 0) : (csOf (cutL l (j : Nat) (R6 r0))).length ≤ 9 :=
  (cs_len _ 9).mpr fun r hr => by have := cut_le8 h0 hl j hj hc r hr; omega
theorem lvl_far {A B : List Int} (hAB : A.length = B.length) {M ts : Nat} (h1 : (csOf A).length ≤ M) (h2 : (csOf B).length ≤ M) (h : M ≤ ts) : (wsOf (leadStr A b)).lvl ts = (wsOf (leadStr B b)).lvl ts := by
  rw [lead_lvl, lead_lvl, cs_zero h1 ts h, cs_zero h2 ts h, hAB]
theorem plain_due (I : Inv ws p) (hws : ∀ x ∈ ws, 0 ≤ x ∧ x < 6) (h0 : 0 ≤ r0 ∧ r0 < 5) (hb : 0 ≤ b ∧ b < 3) (j : Nat) (hj : j < 6) (hz : tOf p.q j = 0) :
    (wsOf (leadStr (cutL p.spots (j : Nat) (R6 r0)) b)).trips (leadW ws (R6 r0) b (j : Nat)) (WS.maxLong (wsOf (leadStr (cutL p.spots (j : Nat) (R6 r0)) b)) (leadW ws (R6 r0) b (j : Nat)) + 1) = dueL b p.P (R6 r0) (cutL p.spots (j : Nat) (R6 r0)) (j : Nat) 9 := by
  obtain ⟨z1, z2⟩ := edge_zero I hws j hj hz
  have l1 := lead_len9 h0 hws j hj z1
  have l2 := lead_len9 h0 I.sb j hj z2
  have hlen : (cutL p.spots (j : Nat) (R6 r0)).length = (cutL ws (j : Nat) (R6 r0)).length := by rw [cutL_len, cutL_len, I.sl]
  have hle : WS.maxLong (wsOf (leadStr (cutL p.spots (j : Nat) (R6 r0)) b)) (leadW ws (R6 r0) b (j : Nat)) ≤ 8 :=
    maxLong_le (by rw [lead_cs]; exact l2) (by unfold leadW; rw [lead_cs]; exact l1) (by rw [lead_b]; omega) (by unfold leadW; rw [lead_b]; omega)
  have hge := maxLong_ge (wsOf (leadStr (cutL p.spots (j : Nat) (R6 r0)) b)) (leadW ws (R6 r0) b (j : Nat))
  obtain ⟨M, hM⟩ : ∃ M, WS.maxLong (wsOf (leadStr (cutL p.spots (j : Nat) (R6 r0)) b)) (leadW ws (R6 r0) b (j : Nat)) = M := ⟨_, rfl⟩
  rw [hM] at hle hge ⊢
  rw [lead_cs] at hge
  unfold leadW at hge
  rw [lead_cs] at hge
  rw [← trips_ext 9 (show M + 1 ≤ 9 by omega) fun k h1 h2 => by
    unfold leadW
    exact lvl_far hlen (M := M + 1) hge.1 hge.2.1 (by omega)]
  unfold WS.trips dueL
  apply fm_congr
  intro k hk
  obtain ⟨n1, n2⟩ := near_lvl I hws h0 hb.1 j hj hz (1 + k)
  have f1 := sumL_lvl (xs := cutL p.spots (j : Nat) (R6 r0)) (fun x hx => (cut_nonneg h0 _ x hx).1) hb.1 (1 + k)
  rw [show (1 + (k : Int)) = ((1 + k : Nat) : Int) by omega, n1, f1]
  by_cases h : (wsOf (leadStr (cutL p.spots (j : Nat) (R6 r0)) b)).lvl (1 + k) = (leadW ws (R6 r0) b (j : Nat)).lvl (1 + k)
  · rw [if_pos h, if_neg (by omega)]
  · rw [if_neg h, if_pos (by omega)]
theorem plain_back (I : Inv ws p) (hws : ∀ x ∈ ws, 0 ≤ x ∧ x < 6) (h3 : 3 ≤ ws.length) (h5 : ws.length ≤ 5) (h0 : 0 ≤ r0 ∧ r0 < 5) (hb : 0 ≤ b ∧ b < 3) (j : Nat) (hj : j < 6) (hz : tOf p.q j = 0) :
    (leadW ws (R6 r0) b (j : Nat)).trips (wsOf (leadStr (lastRuns (R6 r0) (ws.length : Int)) (b + 1))) (WS.maxLong (leadW ws (R6 r0) b (j : Nat)) (wsOf (leadStr (lastRuns (R6 r0) (ws.length : Int)) (b + 1))) + 1) = backL b p.P (R6 r0) (cutL p.spots (j : Nat) (R6 r0)) (lastRuns (R6 r0) (ws.length : Int)) (j : Nat) 9 := by
  obtain ⟨z1, z2⟩ := edge_zero I hws j hj hz
  have l1 := lead_len9 h0 hws j hj z1
  have l2 := last_cs r0 h0 ws.length h3 h5
  obtain ⟨_, q2, q3⟩ := last_mem r0 h0 ws.length h3 h5
  have hle : WS.maxLong (leadW ws (R6 r0) b (j : Nat)) (wsOf (leadStr (lastRuns (R6 r0) (ws.length : Int)) (b + 1))) ≤ 8 :=
    maxLong_le (by unfold leadW; rw [lead_cs]; exact l1) (by rw [lead_cs, l2]; decide) (by unfold leadW; rw [lead_b]; omega) (by rw [lead_b]; omega)
  have hge := (maxLong_ge (leadW ws (R6 r0) b (j : Nat)) (wsOf (leadStr (lastRuns (R6 r0) (ws.length : Int)) (b + 1)))).2.1
  rw [lead_cs, l2] at hge
  rw [show WS.maxLong (leadW ws (R6 r0) b (j : Nat)) (wsOf (leadStr (lastRuns (R6 r0) (ws.length : Int)) (b + 1))) = 8 by omega]
  unfold WS.trips backL
  rw [← List.filterMap_eq_map]
  apply fm_congr
  intro k hk
  obtain ⟨n1, _⟩ := near_lvl I hws h0 hb.1 j hj hz (1 + k)
  have f1 := sumL_lvl (xs := lastRuns (R6 r0) (ws.length : Int)) (fun x hx => (q2 x hx).1) (show 0 ≤ b + 1 by omega) (1 + k)
  have lt : (leadW ws (R6 r0) b (j : Nat)).lvl (1 + k) < (wsOf (leadStr (lastRuns (R6 r0) (ws.length : Int)) (b + 1))).lvl (1 + k) := by
    unfold leadW
    rw [lead_lvl, lead_lvl, cutL_len, q3]
    exact lvl_lt (dom_le I hws h3 h5 h0 j hj hz _) hb.1
  rw [if_neg (by omega)]
  dsimp only [Function.comp]
  rw [show (1 + (k : Int)) = ((1 + k : Nat) : Int) by omega, n1, f1]
theorem plain_notless (I : Inv ws p) (hws : ∀ x ∈ ws, 0 ≤ x ∧ x < 6) (h0 : 0 ≤ r0 ∧ r0 < 5) (hb : 0 ≤ b ∧ b < 3) (j : Nat) (hj : j < 6) :
    (leadW ws (R6 r0) b (j : Nat)).lessB (wsOf (leadStr (cutL p.spots (j : Nat) (R6 r0)) b)) = false := by
  have hlen : (cutL ws (j : Nat) (R6 r0)).length = (cutL p.spots (j : Nat) (R6 r0)).length := by rw [cutL_len, cutL_len, I.sl]
  have hge := maxLong_ge (leadW ws (R6 r0) b (j : Nat)) (wsOf (leadStr (cutL p.spots (j : Nat) (R6 r0)) b))
  have e1 : (leadW ws (R6 r0) b (j : Nat)).cs = csOf (cutL ws (j : Nat) (R6 r0)) := lead_cs _ _
  have e2 : (wsOf (leadStr (cutL p.spots (j : Nat) (R6 r0)) b)).cs = csOf (cutL p.spots (j : Nat) (R6 r0)) := lead_cs _ _
  by_cases h : (wsOf (leadStr (cutL p.spots (j : Nat) (R6 r0)) b)).n ≤ (leadW ws (R6 r0) b (j : Nat)).n
  · unfold WS.lessB; rw [if_pos h]
  · have hs : ¬ ((leadW ws (R6 r0) b (j : Nat)).cs.length ≤ 1 ∧ (wsOf (leadStr (cutL p.spots (j : Nat) (R6 r0)) b)).cs.length ≤ 1) := fun hh => by
      rw [e1, e2] at hh
      have n1 : ((leadW ws (R6 r0) b (j : Nat)).n : Int) = _ := lead_n (cutL ws (j : Nat) (R6 r0)) b hb.1
      have n2 := lead_n (cutL p.spots (j : Nat) (R6 r0)) b hb.1
      rw [cs_zero hh.1 1 (Nat.le_refl _)] at n1
      rw [cs_zero hh.2 1 (Nat.le_refl _)] at n2
      omega
    refine less_false hs (ts := WS.maxLong (leadW ws (R6 r0) b (j : Nat)) (wsOf (leadStr (cutL p.spots (j : Nat) (R6 r0)) b)) + 1) (by omega) (Nat.le_refl _) ?_
    rw [e1, e2] at hge
    have := lvl_far (b := b) hlen hge.1 hge.2.1 (Nat.le_refl _)
    show ¬ (wsOf (leadStr (cutL ws (j : Nat) (R6 r0)) b)).lvl _ < _
    omega
end
theorem cntN_count : ∀ {l : List Int}, (∀ r ∈ l, 0 ≤ r) → ∀ i : Nat, cntN l i = ((l.count (i : Int) : Nat) : Int)
  | [], _, i => rfl
  | r :: l, h, i => by
    have ih := cntN_count (l := l) (fun x hx => h x (.tail _ hx)) i
    have hr := h r (.head _)
    have e : cntN (r :: l) i = (if i = r.toNat then 1 else 0) + cntN l i := by simp [cntN]
    rw [e, ih, List.count_cons]
    by_cases q : i = r.toNat
    · rw [if_pos q, if_pos (by rw [beq_iff_eq]; omega)]; omega
    · rw [if_neg q, if_neg (by rw [beq_iff_eq]; omega)]; omega
theorem cs_perm {a b : List Int} (ha : ∀ r ∈ a, 0 ≤ r) (hb : ∀ r ∈ b, 0 ≤ r) : csOf a = csOf b ↔ a.Perm b := by
  constructor
  · intro e
    refine List.perm_iff_count.mpr fun x => ?_
    by_cases hx : 0 ≤ x
    · have h1 := cntN_count ha x.toNat
      have h2 := cntN_count hb x.toNat
      rw [← cs_getD, e, cs_getD, h2, show ((x.toNat : Nat) : Int) = x by omega] at h1
      omega
    · rw [List.count_eq_zero.mpr fun h => hx (ha x h), List.count_eq_zero.mpr fun h => hx (hb x h)]
  · intro pm
    have hl : (csOf a).length = (csOf b).length := by
      have k : ∀ B, (csOf a).length ≤ B ↔ (csOf b).length ≤ B := fun B => by
        rw [cs_len, cs_len]
        exact ⟨fun h r hr => h r (pm.mem_iff.mpr hr), fun h r hr => h r (pm.mem_iff.mp hr)⟩
      exact Nat.le_antisymm ((k _).mpr (Nat.le_refl _)) ((k _).mp (Nat.le_refl _))
    refine List.ext_getElem hl fun i h1 h2 => ?_
    have e1 := cs_getD a i
    have e2 := cs_getD b i
    rw [List.getD_eq_getElem?_getD, List.getElem?_eq_getElem h1, Option.getD_some] at e1
    rw [List.getD_eq_getElem?_getD, List.getElem?_eq_getElem h2, Option.getD_some] at e2
    rw [e1, e2, cntN_count ha, cntN_count hb, pm.count_eq]
theorem plain_eqs {ws sp : List Int} {r0 b : Int} (h0 : 0 ≤ r0 ∧ r0 < 5) (e : Int) (j : Nat) : (wsOf (leadStr (cutL sp e (R6 r0)) b)).eqs (leadW ws (R6 r0) b (j : Nat)) = true ↔ (cutL ws (j : Nat) (R6 r0)).Perm (cutL sp e (R6 r0)) := by
  unfold WS.eqs leadW
  rw [lead_cs, lead_cs, lead_b, lead_b, decide_eq_true rfl, Bool.and_true, decide_eq_true_eq, cs_perm (fun r hr => (cut_nonneg h0 _ r hr).1) (fun r hr => (cut_nonneg h0 _ r hr).1)]
  exact ⟨List.Perm.symm, List.Perm.symm⟩

theorem cut_at {M : Model} {A : Around} {env : Env} {Q : Flow → Shared → Prop} {E : Value → Shared → Prop} {s : Shared} (i n k : Nat) (hk : k = i + n) (h : wpAny M A (execs ((lawBody.drop i).take n) env) (fun f s' => match f with | .next => wpAny M A (execs (lawBody.drop k) env) Q E s' | f => Q f s') E s) : wpAny M A (execs (lawBody.drop i) env) Q E s := by
  have e : (lawBody.drop i).take n ++ lawBody.drop k = lawBody.drop i := by rw [hk, ← List.drop_drop, List.take_append_drop]
  have z := cut_app ((lawBody.drop i).take n) (lawBody.drop k) s h
  rwa [e] at z
theorem apart_lead {fz B B' : List (Addr × Obj)} {d : Addr} {o : Obj} (h : Apart fz B) (off : Off1 d (B' ++ fz)) : Apart fz ((d, o) :: B) := fun p hp q hq => by
  rcases List.mem_cons.mp hp with rfl | hp
  · exact Ne.symm (off1_mem off q (List.mem_append_right _ hq))
  · exact h p hp q hq
theorem P_bound {P : List Int} (hl : P.length = 6) (h : ∀ s, s < 6 → 0 ≤ P.getD s 0 ∧ P.getD s 0 < 1000) : ∀ p ∈ P, 0 ≤ p ∧ p < 1000 := fun p hp => by
  obtain ⟨i, hi, rfl⟩ := List.getElem_of_mem hp
  have z := h i (by omega)
  rwa [List.getD_eq_getElem?_getD, List.getElem?_eq_getElem hi, Option.getD_some] at z
theorem edge_ok {q : Nat} {k : Int} (h0 : 0 ≤ k) (h1 : k < (frees q).length) : ∃ j : Nat, j < 6 ∧ (rowOf (frees q)).getD (1 + k).toNat 0 = (j : Int) ∧ tOf q j = 0 := by
  have e : (rowOf (frees q)).getD (1 + k).toNat 0 = (frees q).getD k.toNat 0 := by
    rw [show (1 + k).toNat = k.toNat + 1 by omega, rowOf, List.getD_cons_succ, List.getD_eq_getElem?_getD, List.getElem?_append_left (by omega), ← List.getD_eq_getElem?_getD]
  have hm : (frees q).getD k.toNat 0 ∈ frees q := by
    rw [List.getD_eq_getElem?_getD, List.getElem?_eq_getElem (by omega), Option.getD_some]
    exact List.getElem_mem _
  obtain ⟨a, b⟩ := List.mem_filter.mp hm
  simp only [ring, List.mem_cons, List.not_mem_nil, or_false] at a
  rw [e]
  exact ⟨((frees q).getD k.toNat 0).toNat, by omega, by omega, tOf_bit.1.mpr b⟩
section
variable {w : World} {mg mb : Str → Option Value} {A : Around} {s : Shared} {Q : Flow → Shared → Prop} {E : Value → Shared → Prop} {h₀ : Heap} {L fa : Addr} {cd : Value} {m : Str → Option Value} {news : List (Addr × Obj)}
theorem law_rest (hA : A.handled = none) (hdp : A.depth + 60 < recursionLimit) (hu : A.units + 8000 < cLine) {al : Addr} {o1 o2 o3 o4 o5 o6 o7 o8 o9 o10 o11 : Obj} {tot cars more bs b r0 : Int} {t1 t2 t3 t4 t5 : Tok} {l wl row spots taken pl : Addr} {rvs wvs vrow vpl : List Value} {ws : List Int}
   (F : Fr h₀ L s.heap (parkVars m tot cars more al row spots taken t1 t2 t3)) (N : News h₀ L s.heap ((pl, lsOf vpl 0) :: (taken, lsOf [] 0) :: (spots, lsOf [] 0) :: (row, lsOf vrow 0) :: (wl, lsOf wvs 0) :: (l, lsOf rvs 0) :: cellsOf L o1 o2 o3 o4 o5 o6 o7 o8 o9 o10 o11))
   (hoff : AllLt l (cellsOf L o1 o2 o3 o4 o5 o6 o7 o8 o9 o10 o11)) (hoff2 : AllLt wl ((l, lsOf rvs 0) :: cellsOf L o1 o2 o3 o4 o5 o6 o7 o8 o9 o10 o11))
   (n1 : @LT.lt Nat _ wl row) (n2 : @LT.lt Nat _ row spots) (n3 : @LT.lt Nat _ spots taken) (n4 : @LT.lt Nat _ taken pl)
   (hvr : IntsAre vrow [6, 0, 1, 2, 3, 4, 5, -1]) (hvp : IntsAre vpl [0, 0, 0, 0, 0, 0]) (hvw : IntsAre wvs ws) (hvs : IntsAre rvs (R6 r0)) (hc1 : 3 ≤ cars) (hc2 : cars ≤ 5) (hcw : (ws.length : Int) = cars) (hws : ∀ x ∈ ws, 0 ≤ x ∧ x < 6)
   (h0 : 0 ≤ r0 ∧ r0 < 5) (hb : 0 ≤ b ∧ b < 3) (hbs : 0 ≤ bs ∧ bs < 27) (hm : 0 ≤ more ∧ more < 16)
   (d1 : o1.data = .cell (some (.int bs t4))) (d2 : o2.data = .cell (some (.ref l))) (d3 : o3.data = .cell (some (.int b t5))) (d4 : o4.data = .cell (some (.ref wl))) (d5 : o5.data = .cell (some (.ref pl))) (d6 : o6.data = .cell none) (d7 : o7.data = .cell none) (d8 : o8.data = .cell none) (d9 : o9.data = .cell none) (d10 : o10.data = .cell none) (d11 : o11.data = .cell none)
   (X : (hd.heap_39 w.params).In h₀) (T : TopRead vw LO mg mb h₀)
   (ret : ∀ h' tk m', Fr h₀ L h' m' → Q (.ret (.bool true)) { s with heap := h', toks := tk }) :
   wpAny (model Challenge.rw_sn0041_01.row.prog w) (A.deeper (lawEnv L fa cd)) (execs (lawBody.drop 12) (lawEnv L fa cd)) Q E s := by
  subst hcw
  have h5 : ws.length ≤ 5 := by omega
  have h3 : 3 ≤ ws.length := by omega
  have I := inv_all ws hws (by omega)
  have hrb : ∀ r ∈ R6 r0, 0 ≤ r ∧ r < 16 := by intro r hr; simp only [R6, List.mem_cons, List.not_mem_nil, or_false] at hr; omega
  have k1 : @LT.lt Nat _ (L + 1 + 1 + 1 + 1 + 1 + 1 + 1 + 1 + 1 + 1 + 1) l := hoff.1
  have k2 : @LT.lt Nat _ l wl := hoff2.1
  refine cut_at 12 1 13 rfl ?_
  refine law_C hA (by omega) (by omega) F N hoff hoff2 n1 n2 n3 n4 hvr hvp hvw h5 hws d4 d5 X T ?_
  intro h₁ tk₁ m₁ row' vrow' vsp' vtk' vpl' c1 c2 c3 t1' t2' t3' F₁ N₁ hr₁ hs₁ ht₁ hp₁ e1 e2 e3 e4
  show wpAny _ _ (execs (lawBody.drop 13) _) _ _ _
  generalize hp : parkAll ws = p at *
  refine cut_at 13 1 14 rfl ?_
  refine law_D1 hA hdp hu F₁ N₁ hvw h5 hvs rfl hrb hb d2 d3 d4 X T ?_
  intro h₂ tk₂ m₂ leads ys fz F₂ N₂ offl hW hap
  show wpAny _ _ (execs (lawBody.drop 14) _) _ _ _
  have hap₁ := apart_lead (o := lsOf ys ys.length) hap offl
  have offn : ∀ {a : Addr} {o : Obj}, (a, o) ∈ cellsOf L o1 o2 o3 o4 o5 o6 o7 o8 o9 o10 o11 → @Ne Nat leads a := fun h => Ne.symm (off1_mem offl _ (List.mem_append_left _ (.tail _ (.tail _ (.tail _ (.tail _ (.tail _ (.tail _ h))))))))
  have q6 : @Ne Nat leads (L + 1 + 1 + 1 + 1 + 1 + 1) := offn (o := o6) (by k_mem)
  have q7 : @Ne Nat leads (L + 1 + 1 + 1 + 1 + 1 + 1 + 1) := offn (o := o7) (by k_mem)
  have q8 : @Ne Nat leads (L + 1 + 1 + 1 + 1 + 1 + 1 + 1 + 1) := offn (o := o8) (by k_mem)
  have q9 : @Ne Nat leads (L + 1 + 1 + 1 + 1 + 1 + 1 + 1 + 1 + 1) := offn (o := o9) (by k_mem)
  have q10 : @Ne Nat leads (L + 1 + 1 + 1 + 1 + 1 + 1 + 1 + 1 + 1 + 1) := offn (o := o10) (by k_mem)
  have q11 : @Ne Nat leads (L + 1 + 1 + 1 + 1 + 1 + 1 + 1 + 1 + 1 + 1 + 1) := offn (o := o11) (by k_mem)
  clear offn
  refine cut_at 14 1 15 rfl ?_
  refine law_D2 hA hdp hu F₂ N₂ hvs rfl hrb hb hc1 hc2 d2 d3 d6 hap₁ k1 k2 e1 (by omega) (by omega) (by omega) q6 X T ?_
  intro h₃ tk₃ m₃ xl o6' new t1a t2a t3a F₃ N₃ hap₂ hl d6'
  show wpAny _ _ (execs (lawBody.drop 15) _) _ _ _
  have hapA : ∀ {a6 a7 a8 a9 a10 : Obj}, Apart (new ++ fz) ((leads, lsOf ys ys.length) :: baseOf pl taken spots row' wl l vpl' vtk' vsp' vrow' wvs rvs c1 c2 c3 (cellsOf L o1 o2 o3 o4 o5 a6 a7 a8 a9 a10 o11)) := fun {_ _ _ _ _} => apart_addr (B := (leads, lsOf ys ys.length) :: baseOf pl taken spots row' wl l vpl' vtk' vsp' vrow' wvs rvs c1 c2 c3 (cellsOf L o1 o2 o3 o4 o5 o6 o7 o8 o9 o10 o11)) rfl hap₂
  have hok : ∀ W ∈ ((List.range 6).map fun j => leadW ws (R6 r0) b (j : Nat)), W.Ok := fun W h => by
    obtain ⟨k, _, rfl⟩ := List.mem_map.mp h
    exact lead_ok _ _ (by rw [cutL_len]; omega) (cut_nonneg h0 _) ⟨by omega, by omega⟩
  obtain ⟨_, lm2, lm3⟩ := last_mem r0 h0 ws.length h3 h5
  have hlok : (wsOf (leadStr (lastRuns (R6 r0) (ws.length : Int)) (b + 1))).Ok := lead_ok _ _ (by omega) (fun r h => by have := lm2 r h; omega) ⟨by omega, by omega⟩
  have hW₁ := hW.mono (b := new ++ fz) fun p h => List.mem_append_right _ h
  have hl₁ := hl.mono (b := new ++ fz) fun p h => List.mem_append_left _ h
  refine cut_at 15 1 16 rfl ?_
  refine law_D3 hA hdp hu F₃ N₃ hW₁ (by simp) hok hl₁ hlok d6' d7 hapA k1 k2 e1 (by omega) (by omega) (by omega) q7 X T ?_
  intro h₄ tk₄ m₄ an o7' t1b t2b t3b F₄ N₄ offan d7'
  show wpAny _ _ (execs (lawBody.drop 16) _) _ _ _
  have eb : (((List.range 6).map fun j => leadW ws (R6 r0) b (j : Nat)).map fun W => Value.bool (W.lessB (wsOf (leadStr (lastRuns (R6 r0) (ws.length : Int)) (b + 1))))) = bitsOf p.q := by
    unfold bitsOf
    rw [List.map_map]
    apply List.map_congr_left
    intro j hj
    show Value.bool _ = _
    rw [plain_less I hws h3 h5 h0 hb j (by simpa using hj)]
  rw [eb] at N₄
  clear offan eb
  refine cut_at 16 2 18 rfl ?_
  refine law_D4 hA hdp hu F₄ N₄ I.q hr₁ ht₁ d7' hapA X T ?_
  intro h₅ tk₅ m₅ t1c t2c t3c F₅ N₅
  show wpAny _ _ (execs (lawBody.drop 18) _) _ _ _
  refine cut_at 18 2 20 rfl ?_
  refine law_E1 hA hdp hu F₅ N₅ I.q ht₁ d1 hbs hm X T ?_
  intro h₆ tk₆ m₆ words us cw t1d t2d t3d F₆ hstr N₆
  show wpAny _ _ (execs (lawBody.drop 20) _) _ _ _
  obtain ⟨f, hf1, hf2, hf3⟩ := plain_flags I h3 hbs hm
  have hspl : p.spots.length ≤ 6 := by rw [I.sl]; omega
  refine cut_at 20 1 21 rfl ?_
  refine law_E2 (f := f) hA hdp hu F₆ N₆ hs₁ hspl I.sb d1 hbs hm hstr hf1 hf2 hf3 X T ?_
  intro h₇ tk₇ m₇ t1e t2e t3e F₇ N₇
  show wpAny _ _ (execs (lawBody.drop 21) _) _ _ _
  clear hf1 hf2 hf3 hstr
  have F₇' : Fr h₀ L h₇ (leadVars (wordVars m₇ tot (ws.length : Int) more al row' spots taken leads words t1e t2e t3e) tot (ws.length : Int) more al row' spots taken leads t1e t2e t3e) := fr_norm _ F₇ (by walk_at "m_frp")
  have hfl := I.fl
  refine cut_at 21 4 25 rfl ?_
  refine law_F1 hA hdp hu F₇' N₇ I.q hr₁ hs₁ hspl hvs rfl hc1 hc2 (by omega) d2 d8 d9 hapA k1 k2 e1 (by omega) (by omega) (by omega) q8 q9 X T ?_
  intro h₈ tk₈ m₈ ll vll cll due back o8' o9' t1f t2f t3f t8 F₈ hll N₈ d8' d9' apl hdue hbk
  show wpAny _ _ (execs (lawBody.drop 25) _) _ _ _
  obtain ⟨j, hj, ej, hz⟩ := edge_ok (q := p.q) (k := (tot.fdiv 19440).fmod (6 - (ws.length : Int))) (fmod_lo _ (by omega)) (by have := fmod_hi (tot.fdiv 19440) (n := 6 - (ws.length : Int)) (by omega); omega)
  have ee : edgeOf p.q tot (ws.length : Int) = (j : Int) := ej
  rw [ee] at hll d8'
  clear ej ee
  have hPb := P_bound I.pl fun s hs => by have a := I.cn s hs; have c := I.pb s hs; omega
  have hlll : (cutL p.spots (j : Int) (R6 r0)).length ≤ 6 := by rw [cutL_len]; exact hspl
  have off₈ := off_of_apart apl
  refine cut_at 25 1 26 rfl ?_
  refine law_F2 hA hdp hu F₈ N₈ hp₁ I.pl hPb hvs rfl hll hlll hc1 hc2 d2 d3 d5 d8' d9' d10 hapA k1 k2 e1 (by omega) (by omega) (by omega) q10 (off1_addr (A := _ :: baseOf pl taken spots row' wl l vpl' vtk' vsp' vrow' wvs rvs c1 c2 c3 (cellsOf L o1 o2 o3 o4 o5 o6' o7' o8' o9 o10 o11)) (A' := _ :: baseOf pl taken spots row' wl l vpl' vtk' vsp' vrow' wvs rvs c1 c2 c3 (cellsOf L o1 o2 o3 o4 o5 o6' o7' o8' o9' o10 o11)) rfl off₈) hdue hbk X T ?_
  intro h₉ tk₉ m₉ us1 us2 c1' c2' tz o10' t1g t2g t3g F₉ td₉ tb₉ N₉ hapz
  show wpAny _ _ (execs (lawBody.drop 26) _) _ _ _
  have m11 : @LT.lt Nat _ (L + 1 + 1 + 1 + 1 + 1 + 1 + 1 + 1 + 1 + 1 + 1) due := allLt_mem hdue (L + 1 + 1 + 1 + 1 + 1 + 1 + 1 + 1 + 1 + 1 + 1, o11) (by k_mem)
  have m12 : @Ne Nat ll (L + 1 + 1 + 1 + 1 + 1 + 1 + 1 + 1 + 1 + 1 + 1) := Ne.symm (off1_mem off₈ (L + 1 + 1 + 1 + 1 + 1 + 1 + 1 + 1 + 1 + 1 + 1, o11) (by k_mem))
  have a11 : Off1 (L + 1 + 1 + 1 + 1 + 1 + 1 + 1 + 1 + 1 + 1 + 1) (tz ++ (new ++ fz)) := off1_app (apart_off hapz (a := L + 1 + 1 + 1 + 1 + 1 + 1 + 1 + 1 + 1 + 1 + 1) (o := o11) (by k_mem)) (apart_off (hapA (a6 := o6) (a7 := o7) (a8 := o8) (a9 := o9) (a10 := o10)) (a := L + 1 + 1 + 1 + 1 + 1 + 1 + 1 + 1 + 1 + 1 + 1) (o := o11) (by k_mem))
  have hW₂ := hW₁.mono (b := tz ++ (new ++ fz)) fun p h => List.mem_append_right _ h
  have hlb := cut_nonneg (l := p.spots) h0 (j : Int)
  have hWe : ((List.range 6).map fun j => leadW ws (R6 r0) b (j : Nat))[((j : Nat) : Int).toNat]? = some (leadW ws (R6 r0) b (j : Nat)) := by
    rw [Int.toNat_natCast, List.getElem?_map, List.getElem?_range hj]; rfl
  refine cut_at 26 2 28 rfl ?_
  refine law_G1 hA hdp hu F₉ N₉ hll hlll hlb hb (by omega) hW₂ (by simp) hWe d3 d8' d9' d11 a11 k1 k2 e1 (by omega) (by omega) (by omega) q11 m11 hbk m12 X T ?_
  intro hx₁ tkx₁ mx₁ xp xw o11' new2 t2h Fx₁ Nx₁ hxp hxw d11'
  show wpAny _ _ (execs (lawBody.drop 28) _) _ _ _
  have okp : (wsOf (leadStr (cutL p.spots (j : Int) (R6 r0)) b)).Ok := lead_ok _ _ hlll hlb ⟨by omega, by omega⟩
  have okw : (leadW ws (R6 r0) b (j : Nat)).Ok := hok _ (List.mem_map_of_mem (List.mem_range.mpr hj))
  have hxp₂ := hxp.mono (b := new2 ++ (tz ++ (new ++ fz))) fun p h => List.mem_append_left _ h
  have hxw₂ := hxw.mono (b := new2 ++ (tz ++ (new ++ fz))) fun p h => List.mem_append_right _ h
  have hl₂ := hl₁.mono (b := new2 ++ (tz ++ (new ++ fz))) fun p h => List.mem_append_right _ (List.mem_append_right _ h)
  have hW₃ := hW₂.mono (b := new2 ++ (tz ++ (new ++ fz))) fun p h => List.mem_append_right _ h
  have td₂ := td₉.mono (b := new2 ++ (tz ++ (new ++ fz))) fun p h => List.mem_append_right _ (List.mem_append_left _ h)
  have tb₂ := tb₉.mono (b := new2 ++ (tz ++ (new ++ fz))) fun p h => List.mem_append_right _ (List.mem_append_left _ h)
  refine cut_at 28 2 30 rfl ?_
  refine law_G2 hA hdp hu Fx₁ Nx₁ hxp₂ hxw₂ hl₂ okp okw hlok td₂ tb₂ (plain_due I hws h0 hb j hj hz) (plain_back I hws h3 h5 h0 hb j hj hz) (plain_notless I hws h0 hb j hj) d6' d11' X T ?_
  intro hx₂ tkx₂ mx₂ t2i Fx₂ Nx₂
  show wpAny _ _ (execs (lawBody.drop 30) _) _ _ _
  clear Nx₁ Fx₁ N₉ F₉ td₂ tb₂ hxw₂ hl₂
  refine cut_at 30 1 31 rfl ?_
  refine law_G3 (f := fun k => (wsOf (leadStr (cutL p.spots (j : Int) (R6 r0)) b)).eqs (leadW ws (R6 r0) b (k : Nat))) hA hdp hu Fx₂ Nx₂ hvw h5 hvs rfl hll hlll (fun k _ => plain_eqs h0 _ k) d2 d4 d9' X T ?_
  intro hx₃ tkx₃ mx₃ ak Fx₃ Nx₃
  show wpAny _ _ (execs (lawBody.drop 31) _) _ _ _
  have ebl : boolsOf (fun k => (wsOf (leadStr (cutL p.spots (j : Int) (R6 r0)) b)).eqs (leadW ws (R6 r0) b (k : Nat))) = (((List.range 6).map fun j => leadW ws (R6 r0) b (j : Nat)).map fun W => (wsOf (leadStr (cutL p.spots (j : Int) (R6 r0)) b)).eqs W).map Value.bool := by
    rw [List.map_map, List.map_map]; rfl
  rw [ebl] at Nx₃
  refine law_G4 hA hdp hu Fx₃ Nx₃ hW₃ (by simp) hok hxp₂ okp rfl d11' X T ?_
  intro hx₄ tkx₄ mx₄ Fx₄
  exact ret _ _ _ Fx₄
end

section
variable {w : World} {mg mb : Str → Option Value} {A : Around} {s : Shared} {Q : Flow → Shared → Prop} {E : Value → Shared → Prop} {h₀ : Heap} {L fa : Addr} {cd : Value} {m : Str → Option Value} {news : List (Addr × Obj)}
noncomputable def wishL (ns : List Int) (cars : Int) : List Int := (((ns.take 5).map fun (k : Int) => k.fmod 6) ++ [4, 1, 4, 2, 4].drop (ns.take 5).length).take cars.toNat
theorem wish_len (ns : List Int) (cars : Int) (h3 : 3 ≤ cars) (h5 : cars ≤ 5) : ((wishL ns cars).length : Int) = cars := by
  unfold wishL
  rw [List.length_take, List.length_append, List.length_map, List.length_drop]
  have : (ns.take 5).length ≤ 5 := by rw [List.length_take]; omega
  simp only [List.length_cons, List.length_nil]
  omega
theorem wish_bd (ns : List Int) (cars : Int) : ∀ x ∈ wishL ns cars, 0 ≤ x ∧ x < 6 := by
  intro x hx
  rcases List.mem_append.mp (List.mem_of_mem_take hx) with h | h
  · obtain ⟨k, _, rfl⟩ := List.mem_map.mp h
    exact ⟨fmod_lo _ (by decide), fmod_hi _ (by decide)⟩
  · have := List.mem_of_mem_drop h
    simp only [List.mem_cons, List.not_mem_nil, or_false] at this
    omega
theorem cut_zero {M : Model} {A : Around} {env : Env} {Q : Flow → Shared → Prop} {E : Value → Shared → Prop} {s : Shared} (n : Nat) (h : wpAny M A (execs (lawBody.take n) env) (fun f s' => match f with | .next => wpAny M A (execs (lawBody.drop n) env) Q E s' | f => Q f s') E s) : wpAny M A (execs lawBody env) Q E s := by
  have e : lawBody.take n ++ lawBody.drop n = lawBody := List.take_append_drop n _
  have z := cut_app (lawBody.take n) (lawBody.drop n) s h
  rwa [e] at z
theorem allLt_same {D : Addr} {A A' : List (Addr × Obj)} (h : AllLt D A) (e : A'.map (·.1) = A.map (·.1) := by rfl) : AllLt D A' := allLt_of fun p hp => by
  have z : p.1 ∈ A.map (·.1) := e ▸ List.mem_map_of_mem hp
  obtain ⟨p', hp', e'⟩ := List.mem_map.mp z
  rw [← e']; exact allLt_mem h p' hp'
theorem law_all (hA : A.handled = none) (hdp : A.depth + 60 < recursionLimit) (hu : A.units + 8000 < cLine) {al : Addr} {vals : List Value} {ns : List Int} {o1 o2 o3 o4 o5 o6 o7 o8 o9 o10 o11 : Obj}
   (F : Fr h₀ L s.heap (kstB m [(Str.ofString "script", .ref al)])) (N : News h₀ L s.heap (cellsOf L o1 o2 o3 o4 o5 o6 o7 o8 o9 o10 o11))
   (d1 : o1.data = .cell none) (d2 : o2.data = .cell none) (d3 : o3.data = .cell none) (d4 : o4.data = .cell none) (d5 : o5.data = .cell none) (d6 : o6.data = .cell none) (d7 : o7.data = .cell none) (d8 : o8.data = .cell none) (d9 : o9.data = .cell none) (d10 : o10.data = .cell none) (d11 : o11.data = .cell none)
   (hl : h₀.IsList al vals.toArray) (hI : IntsAre vals ns) (hn : ns.length ≤ 63)
   (X : (hd.heap_39 w.params).In h₀) (T : TopRead vw LO mg mb h₀)
   (ret : ∀ h' tk m', Fr h₀ L h' m' → Q (.ret (.bool true)) { s with heap := h', toks := tk }) :
   wpAny (model Challenge.rw_sn0041_01.row.prog w) (A.deeper (lawEnv L fa cd)) (execs lawBody (lawEnv L fa cd)) Q E s := by
  refine cut_zero 6 ?_
  refine law_A hA (by omega) (by omega) F N d1 d2 d3 hl hI hn X T ?_
  intro h₁ tk₁ m₁ l rvs o1' o2' o3' t1 t2 t3 t4 t5 F₁ N₁ hvs hoff d1' d2' d3'
  show wpAny _ _ (execs (lawBody.drop 6) _) _ _ _
  have c1 := fmod_lo (590 + ns.sum) (n := 3) (by decide)
  have c2 := fmod_hi (590 + ns.sum) (n := 3) (by decide)
  obtain ⟨cars, hcars⟩ : ∃ c, 3 + (590 + ns.sum).fmod 3 = c := ⟨_, rfl⟩
  rw [hcars] at F₁
  have hc1 : 3 ≤ cars := by omega
  have hc2 : cars ≤ 5 := by omega
  clear c1 c2 hcars
  have hdp' : A.depth + 40 < recursionLimit := by omega
  have hu' : A.units + 4000 < cLine := by omega
  refine cut_at 6 2 8 rfl ?_
  refine law_B hA hdp' hu' F₁ N₁ hoff d4 hl hI hn hc1 hc2 X T ?_
  intro h₂ tk₂ m₂ wl wvs o4' t1a t2a t3a F₂ N₂ hvw hoff2 d4'
  show wpAny _ _ (execs (lawBody.drop 8) _) _ _ _
  have hoffB : AllLt l (cellsOf L o1' o2' o3' o4' o5 o6 o7 o8 o9 o10 o11) := allLt_same hoff
  with_reducible refine cut_at 8 4 12 (by decide) ?_
  with_reducible refine law_B2 hA hdp' hu' F₂ N₂ hoffB hoff2 d5 X T ?_
  intro h₃ tk₃ m₃ row spots taken pl vrow vpl o5' t1b t2b t3b F₃ N₃ hvr hvp e1 e2 e3 e4 d5'
  show wpAny _ _ (execs (lawBody.drop 12) _) _ _ _
  have hoffC : AllLt l (cellsOf L o1' o2' o3' o4' o5' o6 o7 o8 o9 o10 o11) := allLt_same hoff
  have hoffD : AllLt wl ((l, lsOf rvs 0) :: cellsOf L o1' o2' o3' o4' o5' o6 o7 o8 o9 o10 o11) := allLt_same hoff2
  have hvw' : IntsAre wvs (wishL ns cars) := hvw
  have w1 := wish_len ns cars hc1 hc2
  have w2 := wish_bd ns cars
  have v1 : 0 ≤ ((590 + ns.sum).fdiv 81).fmod 5 ∧ ((590 + ns.sum).fdiv 81).fmod 5 < 5 := ⟨fmod_lo _ (by decide), fmod_hi _ (by decide)⟩
  have v2 : 0 ≤ ((590 + ns.sum).fdiv 405).fmod 3 ∧ ((590 + ns.sum).fdiv 405).fmod 3 < 3 := ⟨fmod_lo _ (by decide), fmod_hi _ (by decide)⟩
  have v3 : 0 ≤ ((590 + ns.sum).fdiv 3).fmod 27 ∧ ((590 + ns.sum).fdiv 3).fmod 27 < 27 := ⟨fmod_lo _ (by decide), fmod_hi _ (by decide)⟩
  have v4 : 0 ≤ ((590 + ns.sum).fdiv 1215).fmod 16 ∧ ((590 + ns.sum).fdiv 1215).fmod 16 < 16 := ⟨fmod_lo _ (by decide), fmod_hi _ (by decide)⟩
  with_reducible refine law_rest hA hdp hu F₃ N₃ hoffC hoffD e1 e2 e3 e4 hvr hvp hvw' hvs hc1 hc2 w1 w2 v1 v2 v3 v4 d1' d2' d3' d4' d5' d6 d7 d8 d9 d10 d11 X T ?_
  intro h₄ tk₄ m₄ F₄
  exact ret _ _ _ F₄
end

theorem kc_cons {cm : Str → Option Value} {n : Str} {c : Addr} {r : List (Str × Addr)} {cells : List (Addr × Obj)} (x : CellsAre cm ((n, c) :: r) cells) : ∃ o t, cells = (c, o) :: t ∧ o.data = .cell (cm n) ∧ CellsAre cm r t := by
  cases x with | cons h y => exact ⟨_, _, rfl, h, y⟩
theorem kc_nil {cm : Str → Option Value} {cells : List (Addr × Obj)} (x : CellsAre cm [] cells) : cells = [] := by cases x; rfl
theorem kc_elevenP {P : List (Addr × Obj) → Prop} {cm : Str → Option Value} {n₁ n₂ n₃ n₄ n₅ n₆ n₇ n₈ n₉ n₁₀ n₁₁ : Str} {c₁ c₂ c₃ c₄ c₅ c₆ c₇ c₈ c₉ c₁₀ c₁₁ : Addr} {cells : List (Addr × Obj)} (x : CellsAre cm [(n₁, c₁), (n₂, c₂), (n₃, c₃), (n₄, c₄), (n₅, c₅), (n₆, c₆), (n₇, c₇), (n₈, c₈), (n₉, c₉), (n₁₀, c₁₀), (n₁₁, c₁₁)] cells)
    (h : ∀ o₁ o₂ o₃ o₄ o₅ o₆ o₇ o₈ o₉ o₁₀ o₁₁ : Obj, o₁.data = .cell (cm n₁) → o₂.data = .cell (cm n₂) → o₃.data = .cell (cm n₃) → o₄.data = .cell (cm n₄) → o₅.data = .cell (cm n₅) → o₆.data = .cell (cm n₆) → o₇.data = .cell (cm n₇) → o₈.data = .cell (cm n₈) → o₉.data = .cell (cm n₉) → o₁₀.data = .cell (cm n₁₀) → o₁₁.data = .cell (cm n₁₁) → P [(c₁, o₁), (c₂, o₂), (c₃, o₃), (c₄, o₄), (c₅, o₅), (c₆, o₆), (c₇, o₇), (c₈, o₈), (c₉, o₉), (c₁₀, o₁₀), (c₁₁, o₁₁)]) : P cells := by
  obtain ⟨p1, r1, rfl, e1, x1⟩ := kc_cons x
  obtain ⟨p2, r2, rfl, e2, x2⟩ := kc_cons x1
  obtain ⟨p3, r3, rfl, e3, x3⟩ := kc_cons x2
  obtain ⟨p4, r4, rfl, e4, x4⟩ := kc_cons x3
  obtain ⟨p5, r5, rfl, e5, x5⟩ := kc_cons x4
  obtain ⟨p6, r6, rfl, e6, x6⟩ := kc_cons x5
  obtain ⟨p7, r7, rfl, e7, x7⟩ := kc_cons x6
  obtain ⟨p8, r8, rfl, e8, x8⟩ := kc_cons x7
  obtain ⟨p9, r9, rfl, e9, x9⟩ := kc_cons x8
  obtain ⟨p10, r10, rfl, e10, x10⟩ := kc_cons x9
  obtain ⟨p11, r11, rfl, e11, x11⟩ := kc_cons x10
  cases kc_nil x11
  exact h _ _ _ _ _ _ _ _ _ _ _ e1 e2 e3 e4 e5 e6 e7 e8 e9 e10 e11
theorem kc_eleven {cm : Str → Option Value} {n₁ n₂ n₃ n₄ n₅ n₆ n₇ n₈ n₉ n₁₀ n₁₁ : Str} {c₁ c₂ c₃ c₄ c₅ c₆ c₇ c₈ c₉ c₁₀ c₁₁ : Addr} {cells : List (Addr × Obj)} (x : CellsAre cm [(n₁, c₁), (n₂, c₂), (n₃, c₃), (n₄, c₄), (n₅, c₅), (n₆, c₆), (n₇, c₇), (n₈, c₈), (n₉, c₉), (n₁₀, c₁₀), (n₁₁, c₁₁)] cells) :
    ∃ o₁ o₂ o₃ o₄ o₅ o₆ o₇ o₈ o₉ o₁₀ o₁₁, cells = [(c₁, o₁), (c₂, o₂), (c₃, o₃), (c₄, o₄), (c₅, o₅), (c₆, o₆), (c₇, o₇), (c₈, o₈), (c₉, o₉), (c₁₀, o₁₀), (c₁₁, o₁₁)] ∧ o₁.data = .cell (cm n₁) ∧ o₂.data = .cell (cm n₂) ∧ o₃.data = .cell (cm n₃) ∧ o₄.data = .cell (cm n₄) ∧ o₅.data = .cell (cm n₅) ∧ o₆.data = .cell (cm n₆) ∧ o₇.data = .cell (cm n₇) ∧ o₈.data = .cell (cm n₈) ∧ o₉.data = .cell (cm n₉) ∧ o₁₀.data = .cell (cm n₁₀) ∧ o₁₁.data = .cell (cm n₁₁) :=
  kc_elevenP (P := fun cells => ∃ o₁ o₂ o₃ o₄ o₅ o₆ o₇ o₈ o₉ o₁₀ o₁₁, cells = [(c₁, o₁), (c₂, o₂), (c₃, o₃), (c₄, o₄), (c₅, o₅), (c₆, o₆), (c₇, o₇), (c₈, o₈), (c₉, o₉), (c₁₀, o₁₀), (c₁₁, o₁₁)] ∧ o₁.data = .cell (cm n₁) ∧ o₂.data = .cell (cm n₂) ∧ o₃.data = .cell (cm n₃) ∧ o₄.data = .cell (cm n₄) ∧ o₅.data = .cell (cm n₅) ∧ o₆.data = .cell (cm n₆) ∧ o₇.data = .cell (cm n₇) ∧ o₈.data = .cell (cm n₈) ∧ o₉.data = .cell (cm n₉) ∧ o₁₀.data = .cell (cm n₁₀) ∧ o₁₁.data = .cell (cm n₁₁)) x fun p1 p2 p3 p4 p5 p6 p7 p8 p9 p10 p11 e1 e2 e3 e4 e5 e6 e7 e8 e9 e10 e11 => ⟨p1, p2, p3, p4, p5, p6, p7, p8, p9, p10, p11, rfl, e1, e2, e3, e4, e5, e6, e7, e8, e9, e10, e11⟩
local macro_rules | `(tactic| cells_open $x:ident) => `(tactic| (obtain ⟨_, _, _, _, _, _, _, _, _, _, _, he, _, _, _, _, _, _, _, _, _, _, _⟩ := Mine.kc_eleven $x; subst he))
theorem law_T {p : Program} {mg mb : Str → Option Value} {h : Heap} {lo : List Str} {mean : ExcName → Option Value} (T : Top p lo mean mg mb h) (e : lo = LO) : TopRead p LO mg mb h := e ▸ topRead_of T
theorem t0 : PySem.Challenge.rw_sn0041_01.Holds := by
  refine Mine.hd ⟨⟨hl_f, hl_t⟩, ?_⟩
  k_go0
  (rename Fr _ _ _ _ => F); (rename News _ _ _ _ => N); (rename Top _ _ _ _ _ _ => T); (rename Frag.In _ _ => X); (rename Heap.IsList _ _ _ => hl); (rename IntsAre _ _ => hI)
  have T' : TopRead vw LO _ _ _ := law_T T rfl
  have F' := fr_norm [(Str.ofString "script", Value.ref _)] F (by walk_at "m_frp")
  have hdp : callerA.depth + 60 < recursionLimit := by decide
  have hu : callerA.units + 8000 < cLine := by decide
  have hn : List.length _ ≤ 63 := Nat.le_of_not_lt fun h => absurd (Int.ofNat_lt.mpr h) (by assumption)
  clear F
  show wpAny _ (callerA.deeper (lawEnv _ _ _)) (execs lawBody (lawEnv _ _ _)) _ _ _
  with_reducible refine law_all (A := callerA) rfl hdp hu F' N ?_ ?_ ?_ ?_ ?_ ?_ ?_ ?_ ?_ ?_ ?_ hl hI hn X T' ?_
  all_goals (try (show _ = Data.cell none; assumption))
  intro h' tk m' Fz
  refine goodW_bool Fz (by assumption) (raisesW_false ?_) ?_
  · wrow_none_raised
  · wrow_post

end Mine
theorem PySem.Challenge.cw_sn0041_01_holds : PySem.Challenge.rw_sn0041_01.Holds :=
  Mine.t0
