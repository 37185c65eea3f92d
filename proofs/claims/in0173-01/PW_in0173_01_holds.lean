import PyProof.Rows.All
import Wide.All
import OpenK.AllK
import Wide.FinOn
import PySem.Challenge.RW_in0173_01
set_option Elab.async false
section
open PySem PySem.W PyProof.Rows PySem.Calls
set_option Elab.async false
namespace Mine
noncomputable abbrev prog : Program := PySem.Challenge.rw_in0173_01.row.toRowW.prog
/- the view: the statements of the top that are kept -/
noncomputable abbrev bodyIs {l : List Stmt} (_ : PySem.Challenge.pw_in0173_01.main.body = l) (q : Program) : Program := q
noncomputable abbrev withBody (l : List Stmt) : Program := { PySem.Challenge.pw_in0173_01 with main := { PySem.Challenge.pw_in0173_01.main with body := l } }
noncomputable def view : Program := by
  refine bodyIs (l := ?s0 :: ?s1 :: ?s2 :: ?s3 :: ?s4 :: ?s5 :: ?s6 :: ?s7 :: ?s8 :: ?s9 :: ?s10 :: ?s11 :: ?s12 :: ?s13 :: ?s14 :: ?s15 :: ?s16 :: ?s17 :: ?s18 :: ?s19 :: ?s20 :: ?s21 :: ?s22 :: ?s23 :: ?s24 :: ?s25 :: ?s26 :: ?s27 :: ?s28 :: ?s29 :: ?s30 :: ?s31 :: ?s32 :: ?s33 :: ?s34 :: ?s35 :: ?s36 :: ?s37 :: ?s38 :: []) ?h (withBody (?s0 :: ?s1 :: ?s3 :: ?s5 :: ?s6 :: ?s8 :: ?s9 :: ?s11 :: ?s12 :: ?s14 :: ?s16 :: ?s18 :: ?s19 :: ?s21 :: ?s23 :: ?s25 :: ?s26 :: ?s27 :: ?s28 :: ?s29 :: ?s31 :: ?s32 :: ?s33 :: ?s34 :: ?s35 :: ?s36 :: ?s37 :: ?s38 :: []))
  case h => rfl
noncomputable abbrev loose : List Str := [Str.ofString "_twin_re_1", Str.ofString "_special_chars_map"]
/- the objects of the top, written out by the line's own opening: h0 says nothing else -/
theorem first_part (_ : Hook) {r : OpenRow} (_ : r.toRowW.promised) (hc : r.Holds) : r.Holds := hc
local macro_rules | `(tactic| o_head $H) => `(tactic| refine first_part $H ?hw ?hc)
theorem law_said : PySem.Challenge.rw_in0173_01.wellSaid = true := by
  rw [PySem.W.Fast.te9446332074065402090]
  kernel_rfl
local macro_rules | `(tactic| o_law) => `(tactic| refine holds_law law_said fun said => ?_)
set_option maxRecDepth 100000 in
set_option maxHeartbeats 8000000 in
open_top h0 for PySem.Challenge.rw_in0173_01
/- the run of the top, with the library's quick twins of the model's own functions -/
noncomputable def topQ (p : Program) (w : World) (N : Nat) (s₀ : Shared) : Option Shared :=
  match s₀.heap.isNs mainGlobals && s₀.gens.size == 0 with
  | true => (PySem.W.Fast.tw14082659384304107361 PySem.W.Fast.tw14364793385576792824 p w s₀.heap.objs.size (s₀.heap.nsMap mainGlobals "__annotations__") N s₀ (topStub p)).bind fun s₁ => match staticsOk (importedModules p.main.body) s₀.heap s₁.heap && namesBound p s₁.heap && gensDone s₁ && laidKept s₀.heap s₁.heap with
      | true => some s₁
      | false => none
  | false => none
noncomputable def fencedQ (p : Program) (w : World) (N : Nat) : Option Shared :=
  (PySem.W.Fast.tw10274390034422433532 PySem.W.Fast.tw14364793385576792824 (opening p) w N (PySem.W.Fast.tw1435165496053646825 (opening p)).1 (PySem.W.Fast.tw1435165496053646825 (opening p)).2).bind (PySem.W.Fast.tw14289696077712309145 p)
theorem fenced_eq (p : Program) (w : World) (N : Nat) : fencedOpening treeTable p w N = fencedQ p w N := by
  unfold fencedOpening fencedQ
  rw [← PySem.W.Fast.te10274390034422433532, ← PySem.W.Fast.te14364793385576792824, ← PySem.W.Fast.te1435165496053646825, ← PySem.W.Fast.te14289696077712309145]
theorem top_eq (p : Program) (w : World) (N : Nat) (s : Shared) : topFrom treeTable p w N s = topQ p w N s := by
  unfold topFrom topQ
  rw [← PySem.W.Fast.te14082659384304107361, ← PySem.W.Fast.te14364793385576792824]
  rfl
theorem open_eq (p : Program) (w : World) (N : Nat) : openEnds treeTable p w N = (fencedQ p w N).bind (topQ p w N) := by
  unfold openEnds
  rw [fenced_eq, funext (top_eq p w N)]
noncomputable abbrev places : List Addr := [2, 3, 32, 34, 35, 37, 38, 39, 41, 42, 44, 45, 49, 50, 51, 53, 54, 56, 57, 59, 63, 65, 66, 68, 69, 70, 72, 73, 75, 76, 77, 79, 80, 82, 83, 84, 86, 87, 89, 90, 91, 98, 100, 101, 103, 104, 105, 106, 107, 110, 117, 119, 120, 122, 123, 124, 126, 127, 129, 130, 131, 133, 134, 136, 137, 138, 139, 140, 143, 145, 146, 148, 149, 150, 152, 153, 155, 156, 157, 159, 160, 162, 163, 164, 166, 167, 169, 170, 171, 173, 174, 176, 177, 178, 180, 181, 183, 184, 185, 187, 188, 190, 191, 192, 195, 196, 197, 199, 200, 202, 203, 204, 207, 208, 209, 211, 212, 214, 215, 216, 219, 220, 221, 223, 224, 226, 227, 228, 231, 232, 233, 235, 236, 238, 239, 240, 243, 244]
noncomputable abbrev hook : Hook := kmHook Mine.h0.heap_1 places (fun _ => by kernel_rfl) [71]
noncomputable abbrev left_at (w : World) : Prop := ((fencedQ PySem.Challenge.pw_in0173_01 w 5446).bind (topQ PySem.Challenge.pw_in0173_01 w 5446)).map (fun s => (PySem.W.Fast.tw4187177175401517315 view loose (importedModules PySem.Challenge.pw_in0173_01.main.body) (fun s => xlAt view [] s && recOk PySem.Challenge.rw_in0173_01.row.records s) true s, (places.map s.heap.get?, ([71] : List Addr).map s.heap.get?))) = some (openGood view loose, ((Mine.h0.heap_1 w.params).map fun p => some p.2, ([71] : List Addr).map fun _ => some (tabObj #[])))
theorem left_ff : ∀ w : World, left_at ((w.withFollow "comprehension-iter-twice" false).withFollow "special-get-raises" false) := by
  intro w
  kernel_rfl
theorem left_ft : ∀ w : World, left_at ((w.withFollow "comprehension-iter-twice" false).withFollow "special-get-raises" true) := by
  intro w
  kernel_rfl
theorem left_tf : ∀ w : World, left_at ((w.withFollow "comprehension-iter-twice" true).withFollow "special-get-raises" false) := by
  intro w
  kernel_rfl
theorem left_tt : ∀ w : World, left_at ((w.withFollow "comprehension-iter-twice" true).withFollow "special-get-raises" true) := by
  intro w
  kernel_rfl
theorem left_all (w : World) : left_at w := by
  have h : ∀ (a b : Bool) (w : World), left_at ((w.withFollow "comprehension-iter-twice" a).withFollow "special-get-raises" b) := fun a b => match a, b with
    | false, false => left_ff
    | false, true => left_ft
    | true, false => left_tf
    | true, true => left_tt
  have := h (w.params.followText "comprehension-iter-twice") (w.params.followText "special-get-raises") w
  rwa [World.withFollow_self, World.withFollow_self] at this
theorem left : LeftO prog view loose (fun s => xlAt view [] s && recOk PySem.Challenge.rw_in0173_01.row.records s) hook.obs hook.val 5446 := by
  intro w
  have h := left_all w
  rw [left_at, ← PySem.W.Fast.te4187177175401517315, ← open_eq] at h
  exact h
end Mine
end
section
open PySem PySem.W PySem.Calls PySem.Spec PyProof.Rows
set_option Elab.async false
namespace Mine
abbrev TopAt (mean : ExcName → Option Value) (mg mb : Str → Option Value) (h : Heap) : Prop := Top Mine.view (looseW Mine.view [Str.ofString "_twin_re_1", Str.ofString "_special_chars_map"]) mean mg mb h
/-- heap extension -/
def Ext (h h' : Heap) : Prop := ∀ b o, h.get? b = some o → h'.get? b = some o
theorem Ext.refl (h : Heap) : Ext h h := fun _ _ e => e
theorem Ext.trans {a b c : Heap} (x : Ext a b) (y : Ext b c) : Ext a c := fun q o e => y q o (x q o e)
structure Gd (w : World) (mean : ExcName → Option Value) (mg mb : Str → Option Value) (h : Heap) : Prop where
  top : TopAt mean mg mb h
  k : (Mine.h0.heap_1 w.params).In h
theorem Gd.keeps {w : World} {mean : ExcName → Option Value} {mg mb : Str → Option Value} {h h' : Heap} (G : Gd w mean mg mb h) (e : Ext h h') : Gd w mean mg mb h' :=
  ⟨G.top.keeps e, G.k.keeps e⟩
structure Room (A : Around) (d u : Nat) : Prop where
  handled : A.handled = none
  depth : A.depth + d < recursionLimit
  units : A.units + u < cLine
theorem Room.mono {A : Around} {d u d' u' : Nat} (r : Room A d u) (h1 : d' ≤ d) (h2 : u' ≤ u) : Room A d' u' :=
  ⟨r.handled, Nat.lt_of_le_of_lt (Nat.add_le_add_left h1 _) r.depth, Nat.lt_of_le_of_lt (Nat.add_le_add_left h2 _) r.units⟩
theorem Room.deeper {A : Around} {d u : Nat} (r : Room A (d + 1) (u + 3)) (env : Env) : Room (A.deeper env) d u :=
  ⟨r.handled, by have := r.depth; show A.depth + 1 + d < _; omega, by have := r.units; show A.units + 3 + u < _; omega⟩
theorem Room.in1 {A : Around} {d u : Nat} (r : Room A d (u + 1)) : Room A.in1 d u :=
  ⟨r.handled, r.depth, by have := r.units; show A.units + 1 + u < _; omega⟩
abbrev rmk (dp un : Nat) (fr : Option (List Env)) (gd : Option (List Code)) : Around := { handled := none, depth := dp, frames := fr, guards := gd, units := un }
/-- a contract of a def -/
def Fn (w : World) (mean : ExcName → Option Value) (mg mb : Str → Option Value) (f : Addr) (d u : Nat) (args : List Value) (pre : Heap → Prop) (post : Heap → Value → Heap → Prop) : Prop :=
  ∀ (dp un : Nat) (fr : Option (List Env)) (gd : Option (List Code)) (s : Shared) (R : Result → Shared → Prop), Room (rmk dp un fr gd) d u → Gd w mean mg mb s.heap → pre s.heap →
    (∀ v h' tk, Ext s.heap h' → post s.heap v h' → R (.ok (.ret v)) { s with heap := h', toks := tk }) →
    codeAny (model prog w) (rmk dp un fr gd) (.call (.ref f) ⟨args, []⟩) R s
section
variable {w : World} {mean : ExcName → Option Value} {mg mb : Str → Option Value}
theorem enter {A : Around} {R : Result → Shared → Prop} {s : Shared} {d u : Nat} {name qual : Str} {params : Arguments} {body : List Stmt} {scope : Scope} {dV kV doc pm cdv ct oc : Value} {an od : Option Addr} {osl : Array (Option Value)} {f : Addr} {args : Args} {binds : List (Str × Value)}
    (hr : Room A (d + 1) (u + 3)) (G : Gd w mean mg mb s.heap)
    (ho : (Mine.h0.heap_1 w.params).lookup f = some ⟨oc, od, .func (fnOf name qual params body scope dV kV doc pm an cdv ct), osl⟩) (hcd : codeIn (Mine.h0.heap_1 w.params) cdv qual = true)
    (hbind : BindsTo s (fnOf name qual params body scope dV kV doc pm an cdv ct) args binds) (hloc : ∀ y ∈ binds, scope.names.lookup y.1 = some .local)
    (hcell : ∀ x ∈ scope.names, x.2 ≠ .cell)
    (h : ∀ L h₁, Room (A.deeper (envOf qual scope L f cdv)) d u → Fr s.heap L h₁ (fun y => binds.reverse.lookup y) → News s.heap L h₁ [] → (Mine.h0.heap_1 w.params).In s.heap → TopAt mean mg mb s.heap →
      wpAny (model prog w) (A.deeper (envOf qual scope L f cdv)) (execs body (envOf qual scope L f cdv))
        (fun fl s' => R (.ok (.ret (match fl with | .ret v => v | _ => .none))) s')
        (fun e s' => wpAny (model prog w) (A.deeper (envOf qual scope L f cdv)) (leaving (envOf qual scope L f cdv) e) (fun _ s'' => R (.error e) s'') (fun e' s'' => R (.error e') s'') s')
        { s with heap := h₁, toks := s.toks + binds.length })
    (hco : scope.isCoroutine = false := by rfl) (hgen : scope.isGenerator = false := by rfl) (hk : scope.kind = .function := by rfl) :
    codeAny (model prog w) A (.call (.ref f) args) R s := by
  refine codeAny_call_def (fd := fnOf name qual params body scope dV kV doc pm an cdv ct) (body := body) (binds := binds) (by have := hr.depth; omega) (G.k _ _ ho) rfl G.top.nolimit (codeRec_of G.k hcd) rfl hbind hcell hloc (fun h₁ hns hk₁ => ?_) hco hgen hk
  exact h s.heap.objs.size h₁ (hr.deeper _) ⟨hns, hk₁, Nat.le_refl _⟩ News.nil G.k G.top
end
end Mine
end
section
open PySem PySem.W PySem.Calls PySem.Spec PyProof.Rows
set_option Elab.async false
namespace Mine
theorem News.drop {h₀ h : Heap} {L : Addr} {x : Addr × Obj} {l : List (Addr × Obj)} (N : News h₀ L h (x :: l)) : News h₀ L h l := fun p hp => N p (.tail _ hp)
theorem News.sub {h₀ h : Heap} {L : Addr} {l l' : List (Addr × Obj)} (N : News h₀ L h l) (hs : ∀ p ∈ l', p ∈ l) : News h₀ L h l' := fun p hp => N p (hs p hp)
theorem News.right {h₀ h : Heap} {L : Addr} {l l' : List (Addr × Obj)} (N : News h₀ L h (l ++ l')) : News h₀ L h l' := fun p hp => N p (List.mem_append_right _ hp)
theorem News.ext {h₀ h h' : Heap} {L : Addr} {l : List (Addr × Obj)} (N : News h₀ L h l) (e : Ext h h') : News h₀ L h' l := fun p hp => ⟨e _ _ (N p hp).1, (N p hp).2⟩
theorem News.add {h₀ h h' : Heap} {L a : Addr} {m : Str → Option Value} {o : Obj} {l : List (Addr × Obj)} (F : Fr h₀ L h m) (N : News h₀ L h' l) (hn : h.get? a = none) (ha : h'.get? a = some o) : News h₀ L h' ((a, o) :: l) := by
  intro p hp
  rcases List.mem_cons.mp hp with rfl | hp
  · refine ⟨ha, fun e => ?_, ?_⟩
    · obtain ⟨oL, es, ep, hL, r⟩ := F.ns
      have e' : a = L := e
      rw [e', hL] at hn; cases hn
    · cases q : h₀.get? a with
      | none => rfl
      | some o' => have := F.keep _ _ q; rw [hn] at this; cases this
  · exact N p hp
theorem Fr.ext {h₀ h h' : Heap} {L : Addr} {m : Str → Option Value} (F : Fr h₀ L h m) (e : Ext h h') : Fr h₀ L h' m :=
  ⟨F.ns.keeps e, fun b o x => e b o (F.keep b o x), F.above⟩
section
variable {prog : Program} {w : World} {A : Around} {E : Value → Shared → Prop} {s : Shared} {env : Env} {h₀ : Heap} {x : Str} {body : List Stmt} {Q : Flow → Shared → Prop}
theorem For_mine {L : Addr} {m : Str → Option Value} {x : Str} {px pos : Pos} {iter : Expr} {body : List Stmt} (_F : Fr h₀ L s.heap m) (hx : env.kindOf x = some .local)
    (hp : (env.scope.kind == .class || (env.scope.kind == .module && env.locals != env.globals)) = false)
    (h : wpAny (model prog w) A (eval iter env) (fun xv s₁ => wpAny (model prog w) A (pyIter xv) (fun it s₂ => LoopAtV prog w A h₀ env x body Q E it s₂) E s₁) E s)
    (hs : ∀ x, foldedSetIterable iter env x = pure x)
    (hE : PassesOwn (model prog w) A env E) :
    wpAny (model prog w) A (exec (.For (.Name x px) iter body [] pos) env) Q E s := For_invV h₀ hx hp h hs hE
/-- a for over a list whose turn changes nothing but the frame's names -/
theorem iter_list0 {a : Addr} {vs : List Value} {m₀ : Str → Option Value} {news : List (Addr × Obj)} (J : Nat → (Str → Option Value) → Prop)
    (hh : A.handled = none) (hl : s.heap.IsList a vs.toArray) (haL : a ≠ env.locals) (F : Fr h₀ env.locals s.heap m₀) (N : News h₀ env.locals s.heap news) (hj : J 0 m₀)
    (turn : ∀ i v m₁ h tk own, vs[i]? = some v → J i m₁ → Fr h₀ env.locals h (fun y => if y = x then some v else m₁ y) → News h₀ env.locals h (own ++ news) →
      wpAny (model prog w) A (execs body env) (InvPost h₀ env.locals (J (i + 1)) (own ++ news) { s with heap := h, toks := tk } Q) E { s with heap := h, toks := tk })
    (done : ∀ m₁ h tk, J vs.length m₁ → Fr h₀ env.locals h m₁ → News h₀ env.locals h news → Q .next { s with heap := h, toks := tk }) :
    wpAny (model prog w) A (pyIter (.ref a)) (fun it s₂ => LoopAtV prog w A h₀ env x body Q E it s₂) E s := by
  obtain ⟨ol, hol, _⟩ := id hl
  have hlt : a < s.heap.objs.size := Heap.lt_size hol
  have hne : a ≠ s.heap.objs.size := Nat.ne_of_lt hlt
  refine wpAny_pyIter_list hl ?_
  have W := Walks.list (prog := prog) (w := w) hh s.heap.objs.size a hne vs.toArray
  have hlen : vs.toArray.size = vs.length := by simp
  rw [hlen] at W
  let J' : Nat → (Str → Option Value) → List (Addr × Obj) → Prop := fun i m₁ news₁ => news₁ = news ∧ J i m₁
  refine ⟨_, _, _, vs.length, _, _, m₀, news, J', rfl, W, ?_, ?_, ?_, ⟨⟨_, Heap.get?_push_size _ rfl, rfl, rfl⟩, hl.at fun o e => Heap.get?_push_of_some _ e⟩, F.push _, (fun p hp => ⟨Heap.get?_push_of_some _ (N p hp).1, (N p hp).2⟩), ⟨rfl, hj⟩, ?_, ?_⟩
  · intro hm
    rcases List.mem_cons.mp hm with e | hm
    · exact absurd F.ns.lt (e ▸ Nat.lt_irrefl _)
    · exact haL (List.mem_singleton.mp hm).symm
  · intro b hb
    rw [List.mem_singleton.mp hb]
    exact next_is_new F
  · intro p hp hI
    exact absurd (Heap.lt_size (N p hp).1) ((List.mem_singleton.mp hI) ▸ Nat.lt_irrefl _)
  · rintro i v m₁ news₁ s₁ own ⟨hh', tk', rfl⟩ hin hP ⟨rfl, hJ⟩ hoff _ _ _ _ F₁ N₁
    have hP' : vs[i]? = some v := by simpa using hP
    refine wpAny_mono (turn i v m₁ hh' tk' own hP' hJ F₁ N₁) (fun f s₂ p => ?_) fun _ _ e => e
    have fin : InvEnd h₀ env.locals (J (i + 1)) (own ++ news₁) { s with heap := hh', toks := tk' } s₂ → LoopStepU h₀ env.locals [s.heap.objs.size] own (J' (i + 1)) { s with heap := hh', toks := tk' } .next s₂ := by
      rintro ⟨h', tk, m', news', e, F', N', hn, hm⟩
      exact ⟨rfl, h', tk, m', news₁, e, F', fun p hp => N' p (hn p hp), hoff, rfl, hm⟩
    cases f with
    | ret v => exact .ret p
    | brk => exact .brk p
    | next => exact .next (fin p)
    | cont => exact .cont (fin p)
  · rintro h' tk m' news' F' N' _ ⟨rfl, hJ⟩
    exact done m' h' tk hJ F' N'
theorem iter_list {L a : Addr} {vs : List Value} {m₀ : Str → Option Value} {news : List (Addr × Obj)} (J : Nat → (Str → Option Value) → Prop)
    (hh : A.handled = none) (hl : s.heap.IsList a vs.toArray) (haL : a ≠ L) (F : Fr h₀ L s.heap m₀) (N : News h₀ L s.heap news) (hj : J 0 m₀)
    (turn : ∀ i v m₁ h tk own, vs[i]? = some v → J i m₁ → Fr h₀ L h (fun y => if y = x then some v else m₁ y) → News h₀ L h (own ++ news) →
      wpAny (model prog w) A (execs body env) (InvPost h₀ L (J (i + 1)) (own ++ news) { s with heap := h, toks := tk } Q) E { s with heap := h, toks := tk })
    (done : ∀ m₁ h tk, J vs.length m₁ → Fr h₀ L h m₁ → News h₀ L h news → Q .next { s with heap := h, toks := tk })
    (hL : env.locals = L) :
    wpAny (model prog w) A (pyIter (.ref a)) (fun it s₂ => LoopAtV prog w A h₀ env x body Q E it s₂) E s := by
  subst hL
  exact iter_list0 J hh hl haL F N hj turn done
end
section
variable {w : World} {mean : ExcName → Option Value} {mg mb : Str → Option Value} {A : Around} {E : Value → Shared → Prop} {s : Shared} {h₀ : Heap} {L : Addr} {m : Str → Option Value} {news : List (Addr × Obj)}
/-- a contract at a call -/
theorem call_fn {f : Addr} {d u : Nat} {args : List Value} {pre : Heap → Prop} {post : Heap → Value → Heap → Prop} {Q : Value → Shared → Prop}
    (C : Fn w mean mg mb f d u args pre post) (F : Fr h₀ L s.heap m) (N : News h₀ L s.heap news) (X : (Mine.h0.heap_1 w.params).In h₀) (T : TopAt mean mg mb h₀) (hr : Room A d u) (hp : pre s.heap)
    (h : ∀ v h' tk, Ext s.heap h' → Fr h₀ L h' m → News h₀ L h' news → post s.heap v h' → Q v { s with heap := h', toks := tk }) :
    wpAny (model prog w) A (call (.ref f) args) Q E s := by
  obtain ⟨hd, dp, fr, gd, un⟩ := A
  obtain rfl : hd = none := hr.handled
  exact wpAny_call (C dp un fr gd s _ hr ⟨T.keeps F.keep, X.keeps F.keep⟩ hp fun v h' tk e hq => h v h' tk e (Fr.ext F e) (News.ext N e) hq)
end
/-- the object of a list -/
abbrev lst (vs : List Value) (n : Nat := 0) : Obj := { cls := .type "list", data := .seq vs.toArray n }
theorem isList_of {h : Heap} {a : Addr} {vs : List Value} {n : Nat} (e : h.get? a = some (lst vs n)) : h.IsList a vs.toArray := ⟨_, e, rfl, n, rfl⟩
/-- a goal's end kept out of sight: Q' stands for Q -/
def Hid {α : Type} (Q Q' : α → Shared → Prop) : Prop := ∀ v s, Q v s → Q' v s
theorem Hid.go {α : Type} {Q Q' : α → Shared → Prop} {v : α} {s : Shared} (h : Hid Q Q') (k : Q v s) : Q' v s := h v s k
theorem wp_hide {α : Type} {M : Model} {A : Around} {c : Sem α} {Q : α → Shared → Prop} {E : Value → Shared → Prop} {s : Shared} (h : ∀ Q' : α → Shared → Prop, Hid Q Q' → wpAny M A c Q' E s) : wpAny M A c Q E s := h Q fun _ _ k => k
/-- at a body's start: the around, the end and the raise kept out of sight -/
theorem wp_in {α : Type} {prog : Program} {w : World} {A : Around} {env : Env} {c : Sem α} {Q : α → Shared → Prop} {E : Value → Shared → Prop} {s : Shared} {d u : Nat} (hE : PassesOwn (model prog w) A env E) (hr : Room A d u)
    (h : ∀ (dp un : Nat) (fr : Option (List Env)) (gd : Option (List Code)) (Q' : α → Shared → Prop) (E' : Value → Shared → Prop), Room (rmk dp un fr gd) d u → PassesOwn (model prog w) (rmk dp un fr gd) env E' → Hid Q Q' → wpAny (model prog w) (rmk dp un fr gd) c Q' E' s) : wpAny (model prog w) A c Q E s := by
  obtain ⟨hd, dp, fr, gd, un⟩ := A
  obtain rfl : hd = none := hr.handled
  exact h dp un fr gd Q E hr hE fun _ _ k => k
/-- behind a statement: Q' stands for the rest of the block -/
structure Nx (M : Model) (A : Around) (c : Sem Flow) (Q : Flow → Shared → Prop) (E : Value → Shared → Prop) (Q' : Flow → Shared → Prop) : Prop where
  on : ∀ s, wpAny M A c Q E s → Q' .next s
  out : ∀ fl s, fl ≠ .next → Q fl s → Q' fl s
section
variable {M : Model} {A : Around} {c : Sem Flow} {Q Q' : Flow → Shared → Prop} {E : Value → Shared → Prop} {s : Shared}
theorem Nx.next (h : Nx M A c Q E Q') (k : wpAny M A c Q E s) : Q' .next s := h.on s k
theorem Nx.ret {v : Value} (h : Nx M A c Q E Q') (k : Q (.ret v) s) : Q' (.ret v) s := h.out _ s (fun e => nomatch e) k
theorem Nx.brk (h : Nx M A c Q E Q') (k : Q .brk s) : Q' .brk s := h.out _ s (fun e => nomatch e) k
theorem Nx.cont (h : Nx M A c Q E Q') (k : Q .cont s) : Q' .cont s := h.out _ s (fun e => nomatch e) k
theorem execs_ec {st : Stmt} {rest : List Stmt} {env : Env} (h : ∀ Q', Nx M A (execs rest env) Q E Q' → wpAny M A (exec st env) Q' E s) : wpAny M A (execs (st :: rest) env) Q E s :=
  wpAny_execs_cons (h _ ⟨fun _ k => k, fun fl _ n k => (by cases fl with | next => exact absurd rfl n | _ => exact k)⟩)
end
/- one row of objects lies in another -/
section
variable {α : Type} {a : α} {l l' b c : List α}
theorem sub_self : ∀ p ∈ l, p ∈ l := fun _ h => h
theorem sub_nil : ∀ p ∈ ([] : List α), p ∈ l := fun _ h => nomatch h
theorem sub_cons (h : a ∈ l') (k : ∀ p ∈ l, p ∈ l') : ∀ p ∈ a :: l, p ∈ l' := fun p hp => (by
  rcases List.mem_cons.mp hp with rfl | hp
  · exact h
  · exact k p hp)
theorem sub_app (h : ∀ p ∈ b, p ∈ l') (k : ∀ p ∈ c, p ∈ l') : ∀ p ∈ b ++ c, p ∈ l' := fun p hp => (List.mem_append.mp hp).elim (h p) (k p)
theorem sub_tail (k : ∀ p ∈ l, p ∈ l') : ∀ p ∈ l, p ∈ a :: l' := fun p hp => .tail _ (k p hp)
theorem sub_left (k : ∀ p ∈ l, p ∈ b) : ∀ p ∈ l, p ∈ b ++ c := fun p hp => List.mem_append_left _ (k p hp)
theorem sub_right (k : ∀ p ∈ l, p ∈ c) : ∀ p ∈ l, p ∈ b ++ c := fun p hp => List.mem_append_right _ (k p hp)
end
/- where the walk stops: the code ahead is one that is walked by hand -/
inductive Stop1 : {α : Type} → Sem α → Prop
  | c0 {x0} : Stop1 (pyIter x0)
  | c1 {x0 x1 x2 x3 x4} : Stop1 (exec (Stmt.While x0 x1 x2 x3) x4)
  | c2 {x0 x1 x2} : Stop1 (call (Value.ref x0) x1 x2)
  | c3 {x0 x1 x2 x3 x4} : Stop1 (eval (Expr.ListComp x0 x1 x2 x3) x4)
  | c4 {x0 x1 x2 x3 x4} : Stop1 (eval (Expr.IfExp x0 x1 x2 x3) x4)
  | c5 {x0 x1 x2 x3 x4 x5 x6} : Stop1 (exec (Stmt.Assign x0 (Expr.ListComp x1 x2 x3 x4) x5) x6)
inductive Stop2 : {α : Type} → Sem α → Prop
  | c0 {x0} : Stop2 (truthy (Value.ref x0))
  | c1 {x0} : Stop2 (call (Value.builtin "list.append") x0)
  | c2 {x0} : Stop2 (call (Value.builtin "list.pop") x0)
  | c3 {x0} : Stop2 (call (Value.builtin "str.join") x0)
  | c4 {x0} : Stop2 (call (Value.builtin "len") x0)
  | c5 {x0 x1 x2 x3} : Stop2 (subscriptTail x0 x1 (Value.ref x2) x3)
  | c6 {x0} : Stop2 (call (Value.builtin "str.translate") x0)
  | c7 {x0 x1} : Stop2 (getMethod x0 (Str.ofString "translate") x1)
  | c8 {x0 x1 x2} : Stop2 (getAttr (Value.ref x0) x1 x2)
  | c9 {x0 x1 x2 x3 x4} : Stop2 (callWith x0 (Value.ref x1) x2 x3 x4)
  | c10 {x0 x1 x2 x3} : Stop2 (compareOp x0 (Value.str x1 x2) (Value.ref x3))
  | c11 {x0 x1} : Stop2 (call (Value.type "object") x0 x1)
  | c12 {x0 x1} : Stop2 (compareOp CmpOp.Eq (Value.ref x0) (Value.ref x1))
  | c13 {x0 x1} : Stop2 (compareOp CmpOp.NotEq (Value.ref x0) (Value.ref x1))
inductive Stop3 : {α : Type} → Sem α → Prop
  | c0 {x0 x1} : Stop3 (binaryOp Operator.Mult (Value.ref x0) x1)
  | c1 {x0 x1} : Stop3 (binaryOp Operator.Add (Value.ref x0) x1)
  | c2 {x0 x1 x2 x3 x4} : Stop3 (eval (Expr.SetComp x0 x1 x2 x3) x4)
  | c3 {x0 x1 x2} : Stop3 (unpackItems (Value.ref x0) x1 x2)
  | c4 {x0} : Stop3 (call (Value.builtin "min") x0)
  | c5 {x0} : Stop3 (call (Value.builtin "max") x0)
  | c6 {x0 x1} : Stop3 (call (Value.type "enumerate") x0 x1)
  | c7 {x0 x1 x2 x3 x4 x5} : Stop3 (exec (Stmt.For x0 x1 x2 x3 x4) x5)
  | c8 {x0 x1 x2 x3 x4 x5} : Stop3 (exec (Stmt.Try x0 x1 x2 x3 x4) x5)
inductive Stop4 : {α : Type} → Sem α → Prop
  | c0 {x0 x1 x2} : Stop4 (eval (Expr.List x0 x1) x2)
  | c1 {x0} : Stop4 (execs [] x0)
theorem stop1 {α : Type} {M : Model} {A : Around} {c : Sem α} {Q : α → Shared → Prop} {E : Value → Shared → Prop} {s : Shared} (_ : Stop1 c) (h : wpAny M A c Q E s) : wpAny M A c Q E s := h
theorem stop2 {α : Type} {M : Model} {A : Around} {c : Sem α} {Q : α → Shared → Prop} {E : Value → Shared → Prop} {s : Shared} (_ : Stop2 c) (h : wpAny M A c Q E s) : wpAny M A c Q E s := h
theorem stop3 {α : Type} {M : Model} {A : Around} {c : Sem α} {Q : α → Shared → Prop} {E : Value → Shared → Prop} {s : Shared} (_ : Stop3 c) (h : wpAny M A c Q E s) : wpAny M A c Q E s := h
theorem stop4 {α : Type} {M : Model} {A : Around} {c : Sem α} {Q : α → Shared → Prop} {E : Value → Shared → Prop} {s : Shared} (_ : Stop4 c) (h : wpAny M A c Q E s) : wpAny M A c Q E s := h
end Mine
end
section
open PySem PySem.W PySem.Calls PySem.Spec PyProof.Rows
set_option Elab.async false
namespace Mine
abbrev ch (c : Nat) : Str := ⟨#[c]⟩
def LettersAt (h : Heap) (a : Addr) (cs : List Nat) : Prop := ∃ vs, h.IsList a vs.toArray ∧ StrsAre vs (cs.map ch)
theorem LettersAt.ext {h h' : Heap} {a : Addr} {cs : List Nat} (l : LettersAt h a cs) (e : Ext h h') : LettersAt h' a cs :=
  let ⟨vs, g, k⟩ := l; ⟨vs, g.at fun o x => e _ o x, k⟩
theorem list_lt {h : Heap} {a : Addr} {its : Array Value} (l : h.IsList a its) : a < h.objs.size := let ⟨_, ho, _⟩ := l; Heap.lt_size ho
def stepN (t : Int) (c : Nat) : Int := t * 16 + (c : Int) - 65
def numOf (cs : List Nat) : Int := cs.foldl stepN 0
theorem numOf_snoc (cs : List Nat) (c : Nat) : numOf (cs ++ [c]) = numOf cs * 16 + (c : Int) - 65 := by
  unfold numOf; rw [List.foldl_append]; rfl
def Lets (cs : List Nat) : Prop := ∀ c ∈ cs, 65 ≤ c ∧ c ≤ 80
theorem fold_range : ∀ (cs : List Nat) (k : Nat) (t : Int), Lets cs → 0 ≤ t → t < 16 ^ k → 0 ≤ cs.foldl stepN t ∧ cs.foldl stepN t < 16 ^ (k + cs.length)
  | [], k, t, _, h0, h1 => ⟨h0, h1⟩
  | c :: cs, k, t, h, h0, h1 => by
    have h2 := h c (.head _)
    have e : k + (c :: cs).length = (k + 1) + cs.length := by simp only [List.length_cons]; omega
    rw [e]
    refine fold_range cs (k + 1) (stepN t c) (fun x hx => h x (.tail _ hx)) ?_ ?_
    · unfold stepN; omega
    · unfold stepN; rw [Int.pow_succ]; omega
theorem numOf_range (cs : List Nat) (h : Lets cs) : 0 ≤ numOf cs ∧ numOf cs < 16 ^ cs.length := by
  have := fold_range cs 0 0 h (by decide) (by decide)
  rw [Nat.zero_add] at this
  exact this
theorem numOf_take (cs : List Nat) (i c : Nat) (h : cs[i]? = some c) : numOf (cs.take (i + 1)) = stepN (numOf (cs.take i)) c := by
  rw [List.take_add_one, h]
  exact numOf_snoc _ _
theorem Lets.take {cs : List Nat} (h : Lets cs) (i : Nat) : Lets (cs.take i) := fun c hc => h c (List.mem_of_mem_take hc)
theorem pow16_le {a b : Nat} (h : a ≤ b) : (16 : Int) ^ a ≤ 16 ^ b := by
  have := Nat.pow_le_pow_right (n := 16) (by decide) h
  have e : ∀ k : Nat, ((16 ^ k : Nat) : Int) = (16 : Int) ^ k := fun k => by simp [Int.natCast_pow]
  rw [← e, ← e]; omega
end Mine
end
section
open PySem PySem.W PySem.Calls PySem.Spec PyProof.Rows
set_option Elab.async false
namespace Mine
section
variable {prog : Program} {w : World} {A : Around} {E : Value → Shared → Prop} {s : Shared} {env : Env} {h₀ : Heap}
/-- what pyIter makes of a value: an iterator of n items -/
def Iter (prog : Program) (w : World) (A : Around) (L : Addr) (h : Heap) (xv : Value) (n : Nat) (P : Nat → Value → Prop) : Prop :=
  ∀ (s : Shared) (Q : Value → Shared → Prop) (E : Value → Shared → Prop), s.heap = h →
    (∀ I fp wr St h' tk, Walks prog w A I fp wr n P St → L ∉ fp → St 0 h' → Ext s.heap h' → s.heap.objs.size ≤ h'.objs.size → (∀ b ∈ wr, s.heap.get? b = none) → (∀ b ∈ fp, b < h'.objs.size) →
      (∀ i g, St i g → ∀ b ∈ wr, ∃ o, g.get? b = some o) → Q (.ref I) { s with heap := h', toks := tk }) →
    wpAny (model prog w) A (pyIter xv) Q E s
theorem Ext.push (h : Heap) (o : Obj) : Ext h (h.push o) := fun _ _ e => Heap.get?_push_of_some _ e
theorem none_size (h : Heap) : h.get? h.objs.size = none := by
  cases q : h.get? h.objs.size with
  | none => rfl
  | some o => exact absurd (Heap.lt_size q) (Nat.lt_irrefl _)
theorem Iter.list {L a : Addr} {h : Heap} {vs : List Value} (hh : A.handled = none) (hl : h.IsList a vs.toArray) (haL : a ≠ L) (hLs : L < h.objs.size) : Iter prog w A L h (.ref a) vs.length (fun i v => vs[i]? = some v) := by
  rintro s Q E rfl hQ
  obtain ⟨ol, hol, _⟩ := id hl
  have hlt : a < s.heap.objs.size := Heap.lt_size hol
  have hne : a ≠ s.heap.objs.size := Nat.ne_of_lt hlt
  refine wpAny_pyIter_list hl ?_
  have W := Walks.list (prog := prog) (w := w) hh s.heap.objs.size a hne vs.toArray
  have hlen : vs.toArray.size = vs.length := by simp
  have hP : (fun (i : Nat) (v : Value) => vs.toArray[i]? = some v) = fun i v => vs[i]? = some v := by funext i v; simp
  rw [hlen, hP] at W
  refine hQ _ _ _ _ _ s.toks W ?_ ⟨⟨_, Heap.get?_push_size _ rfl, rfl, rfl⟩, hl.at fun o e => Heap.get?_push_of_some _ e⟩ (Ext.push _ _) (by rw [Heap.size_push]; exact Nat.le_succ _) ?_ ?_ ?_
  · intro hm
    rcases List.mem_cons.mp hm with e | hm
    · exact Nat.ne_of_lt hLs e
    · exact haL (List.mem_singleton.mp hm).symm
  · intro b hb; rw [List.mem_singleton.mp hb]; exact none_size _
  · intro b hb
    rw [Heap.size_push]
    rcases List.mem_cons.mp hb with e | hm
    · rw [e]; exact Nat.lt_succ_self _
    · rw [List.mem_singleton.mp hm]; exact Nat.lt_succ_of_lt hlt
  · rintro i g ⟨⟨o, ho, _⟩, _⟩ b hb
    rw [List.mem_singleton.mp hb]; exact ⟨o, ho⟩
theorem Iter.str {L : Addr} {h : Heap} {x : Str} {t : Tok} (hh : A.handled = none) (hLs : L < h.objs.size) : Iter prog w A L h (.str x t) x.cps.size (SignAt x) := by
  rintro s Q E rfl hQ
  have hlive : ∀ (nm : String) i (g : Heap), g.IsStrIter s.heap.objs.size nm x t i → ∀ b ∈ [s.heap.objs.size], ∃ o, g.get? b = some o := by
    rintro nm i g ⟨o, ho, _⟩ b hb
    rw [List.mem_singleton.mp hb]; exact ⟨o, ho⟩
  have h1 : ∀ o : Obj, ∀ b ∈ [s.heap.objs.size], b < (s.heap.push o).objs.size := by
    intro o b hb; rw [List.mem_singleton.mp hb, Heap.size_push]; exact Nat.lt_succ_self _
  have h2 : L ∉ [s.heap.objs.size] := fun hm => Nat.ne_of_lt hLs (List.mem_singleton.mp hm)
  have h3 : ∀ b ∈ [s.heap.objs.size], s.heap.get? b = none := by
    intro b hb; rw [List.mem_singleton.mp hb]; exact none_size _
  cases ha : x.cps.all (· < 128)
  · exact wpAny_pyIter_wide ha (hQ _ _ _ _ _ s.toks (Walks.strWide hh _ x t) h2 ⟨_, Heap.get?_push_size _ rfl, rfl, rfl⟩ (Ext.push _ _) (by rw [Heap.size_push]; exact Nat.le_succ _) h3 (h1 _) (hlive _))
  · exact wpAny_pyIter_ascii ha (hQ _ _ _ _ _ s.toks (Walks.strAscii hh _ x t) h2 ⟨_, Heap.get?_push_size _ rfl, rfl, rfl⟩ (Ext.push _ _) (by rw [Heap.size_push]; exact Nat.le_succ _) h3 (h1 _) (hlive _))
/-- a for over anything, whose turn changes nothing but the frame's names -/
theorem iter_any {L : Addr} {n : Nat} {P : Nat → Value → Prop} {xv : Value} {x : Str} {body : List Stmt} {Q : Flow → Shared → Prop} {m₀ : Str → Option Value} {news : List (Addr × Obj)} (J : Nat → (Str → Option Value) → Prop)
    (hit : Iter prog w A L s.heap xv n P) (F : Fr h₀ L s.heap m₀) (N : News h₀ L s.heap news) (hj : J 0 m₀)
    (turn : ∀ i v m₁ h tk own, i < n → P i v → J i m₁ → Fr h₀ L h (fun y => if y = x then some v else m₁ y) → News h₀ L h (own ++ news) →
      wpAny (model prog w) A (execs body env) (InvPost h₀ L (J (i + 1)) (own ++ news) { s with heap := h, toks := tk } Q) E { s with heap := h, toks := tk })
    (done : ∀ m₁ h tk, J n m₁ → Fr h₀ L h m₁ → News h₀ L h news → Q .next { s with heap := h, toks := tk })
    (hL : env.locals = L) :
    wpAny (model prog w) A (pyIter xv) (fun it s₂ => LoopAtV prog w A h₀ env x body Q E it s₂) E s := by
  subst hL
  refine hit s _ _ rfl fun I fp wr St h' tk W hLf hst e hsz hwr hfp hlive => ?_
  let J' : Nat → (Str → Option Value) → List (Addr × Obj) → Prop := fun i m₁ news₁ => news₁ = news ∧ J i m₁
  refine ⟨I, fp, wr, n, P, St, m₀, news, J', rfl, W, hLf, ?_, ?_, hst, Fr.ext F e, News.ext N e, ⟨rfl, hj⟩, ?_, ?_⟩
  · intro b hb
    cases q : h₀.get? b with
    | none => rfl
    | some o => have := F.keep _ _ q; rw [hwr b hb] at this; cases this
  · intro p hp hb
    have := (N p hp).1; rw [hwr _ hb] at this; cases this
  · rintro i v m₁ news₁ s₁ own ⟨hh', tk', rfl⟩ hin hP ⟨rfl, hJ⟩ hoff _ _ _ _ F₁ N₁
    refine wpAny_mono (turn i v m₁ hh' tk' own hin hP hJ F₁ N₁) (fun f s₂ p => ?_) fun _ _ e => e
    have fin : InvEnd h₀ env.locals (J (i + 1)) (own ++ news₁) { s with heap := hh', toks := tk' } s₂ → LoopStepU h₀ env.locals wr own (J' (i + 1)) { s with heap := hh', toks := tk' } .next s₂ := by
      rintro ⟨h', tk, m', news', e, F', N', hn, hm⟩
      exact ⟨rfl, h', tk, m', news₁, e, F', fun p hp => N' p (hn p hp), hoff, rfl, hm⟩
    cases f with
    | ret v => exact .ret p
    | brk => exact .brk p
    | next => exact .next (fin p)
    | cont => exact .cont (fin p)
  · rintro h' tk m' news' F' N' _ ⟨rfl, hJ⟩
    exact done m' h' tk hJ F' N'
end
section names
variable {M : Model} {A : Around} {E : Value → Shared → Prop} {s : Shared} {env : Env} {b : Heap} {L : Addr} {m mg mb : Str → Option Value} {K : Frag} {p : Program} {loose : List Str} {mean : ExcName → Option Value}
  {x : Str} {pos : Pos} {v : Value} {Q : Value → Shared → Prop}
theorem nmL (F : Fr b L s.heap m) (hv : m x = some v) (h : Q v s) (hL : env.locals = L) (hk : env.scope.kind = .function) (hx : env.kindOf x = some .local) (hd : (x == ("__debug__" : Str)) = false) :
    wpAny M A (eval (.Name x pos) env) Q E s := wpAny_Name (wpAny_loadName_local hk hx (by rw [hL]; exact F.ns) hv h) hd
theorem nmG (F : Fr b L s.heap m) (X : K.In b) (T : Top p loose mean mg mb b) (e : nsIn K mainGlobals x = some (some v)) (h : Q v s) (hg : env.globals = mainGlobals) (hk : env.scope.kind = .function) (hx : env.kindOf x = some .globalImplicit) (hd : (x == ("__debug__" : Str)) = false) :
    wpAny M A (eval (.Name x pos) env) Q E s := Name_function_global hk hx (loadGlobal_global (env := env) (by rw [hg]; exact T.g.keeps F.keep) (mg_of X T.g e) h) hd
theorem nmB (F : Fr b L s.heap m) (X : K.In b) (T : Top p loose mean mg mb b) (e : nsIn K mainGlobals x = some none) (hv : bootBuiltins x = some v) (hn : x ≠ "__name__") (h : Q v s) (hg : env.globals = mainGlobals) (hb : env.builtins = builtinsNs) (hk : env.scope.kind = .function) (hx : env.kindOf x = some .globalImplicit) (hd : (x == ("__debug__" : Str)) = false) :
    wpAny M A (eval (.Name x pos) env) Q E s :=
  Name_function_global hk hx (loadGlobal_builtin (env := env) (by rw [hg]; exact T.g.keeps F.keep) (mg_none_of X T.g e) (by rw [hb]; exact T.b.keeps F.keep) ((T.builtins x hn).trans hv) h) hd
theorem nmC {c : Addr} {o : Obj} (hc : env.cells.lookup x = some c) (ho : s.heap.get? c = some o) (hod : o.data = .cell (some v)) (h : Q v s) (hk : env.scope.kind = .function) (hx : env.kindOf x = some .cell) (hd : (x == ("__debug__" : Str)) = false) :
    wpAny M A (eval (.Name x pos) env) Q E s := wpAny_Name (wpAny_loadName_cell hk hx hc ⟨o, ho, hod⟩ h) hd
theorem nmF {c : Addr} {o : Obj} (hc : env.cells.lookup x = some c) (ho : s.heap.get? c = some o) (hod : o.data = .cell (some v)) (h : Q v s) (hk : env.scope.kind = .function) (hx : env.kindOf x = some .free) (hd : (x == ("__debug__" : Str)) = false) (hn : (x == ("__classdict__" : Str)) = false) :
    wpAny M A (eval (.Name x pos) env) Q E s := wpAny_Name (wpAny_loadName_free hk hx hc ⟨o, ho, hod⟩ h hn) hd
end names
section comps
variable {prog : Program} {w : World} {A : Around} {E : Value → Shared → Prop} {s : Shared} {env : Env} {h₀ : Heap} {L : Addr} {m : Str → Option Value} {news : List (Addr × Obj)}
  {elt iter : Expr} {x : Str} {px : Pos} {ifs : List Expr} {scope : Scope} {cl : List (Str × Addr)} {pos : Pos}
/-- the tests of a comprehension -/
abbrev testsOf (ifs : List Expr) (env : Env) : Sem Bool := forIn ifs true fun c r => if r = true then do let ok ← isTrue c env (eval c env); pure (ForInStep.yield ok) else pure (ForInStep.yield r)
/-- one item's work: the base heap b, the item's frame -/
structure CompOf (prog : Program) (w : World) (A : Around) (env : Env) (scope : Scope) (cl : List (Str × Addr)) (x : Str) (ifs : List Expr) (elt : Expr) (b : Heap) (P : Nat → Value → Prop) (p : Value → Bool) (G : Value → Value → Heap → Heap → Prop) : Prop where
  tests : ∀ C i v (s₃ : Shared) m₃ E', P i v → Fr b C s₃.heap m₃ → m₃ x = some v →
    wpAny (model prog w) A (testsOf ifs (compEnvC scope cl C env)) (fun ok s₄ => ok = p v ∧ Keeps s₃ s₄) E' s₃
  elt : ∀ C i v (s₃ : Shared) m₃ E', P i v → p v = true → Fr b C s₃.heap m₃ → m₃ x = some v →
    wpAny (model prog w) A (eval elt (compEnvC scope cl C env)) (fun y s₄ => G v y s₃.heap s₄.heap ∧ Keeps s₃ s₄) E' s₃
theorem fr_comp {s₁ : Shared} {h' : Heap} {wr : List Addr} {s₃ : Shared} {C : Addr} {m₃ : Str → Option Value} (e : Ext s₁.heap h') (hsz : s₁.heap.objs.size ≤ h'.objs.size) (hwr : ∀ b ∈ wr, s₁.heap.get? b = none) (hC : h'.objs.size ≤ C) (hn : s₃.heap.Ns C m₃)
    (hk : ∀ b o, b ∉ wr → h'.get? b = some o → s₃.heap.get? b = some o) : Fr s₁.heap C s₃.heap m₃ := by
  refine ⟨hn, fun b o q => hk b o (fun hb => ?_) (e b o q), Nat.le_trans hsz hC⟩
  rw [hwr b hb] at q; cases q
/-- what a comprehension of plain values hands on -/
def CompEnd (h₀ : Heap) (L : Addr) (m : Str → Option Value) (news : List (Addr × Obj)) (n : Nat) (P : Nat → Value → Prop) (p : Value → Bool) (F : Value → Value → Prop) (s₁ : Shared) (Q : Value → Shared → Prop) : Prop :=
  ∀ D ys c (vs : List Value) h' tk, Fr h₀ L h' m → News h₀ L h' ((D, lst ys c) :: news) → Ext s₁.heap h' → s₁.heap.get? D = none → vs.length = n → (∀ j v, vs[j]? = some v → P j v) → Paired F (vs.filter p) ys → Q (.ref D) { s₁ with heap := h', toks := tk }
/-- a comprehension of plain values at its source's value -/
def CompAt (prog : Program) (w : World) (A : Around) (env : Env) (scope : Scope) (cl : List (Str × Addr)) (x : Str) (ifs : List Expr) (elt : Expr) (Q : Value → Shared → Prop) (xv : Value) (s₁ : Shared) : Prop :=
  ∃ h₀ L m news n P p F L', Iter prog w A L' s₁.heap xv n P ∧ n ≤ sizeLine ∧ Fr h₀ L s₁.heap m ∧ News h₀ L s₁.heap news ∧
      CompOf prog w A env scope cl x ifs elt s₁.heap P p (fun v y _ _ => F v y) ∧ CompEnd h₀ L m news n P p F s₁ Q
theorem CompAt.mk {Q : Value → Shared → Prop} {xv : Value} {s₁ : Shared} {n : Nat} {P : Nat → Value → Prop} {L' : Addr} (p : Value → Bool) (F : Value → Value → Prop) (F0 : Fr h₀ L s₁.heap m) (N0 : News h₀ L s₁.heap news) (hit : Iter prog w A L' s₁.heap xv n P) (hsz : n ≤ sizeLine)
    (tests : ∀ C i v (s₃ : Shared) m₃ E', P i v → Fr s₁.heap C s₃.heap m₃ → m₃ x = some v →
      wpAny (model prog w) A (testsOf ifs (compEnvC scope cl C env)) (fun ok s₄ => ok = p v ∧ Keeps s₃ s₄) E' s₃)
    (helt : ∀ C i v (s₃ : Shared) m₃ E', P i v → p v = true → Fr s₁.heap C s₃.heap m₃ → m₃ x = some v →
      wpAny (model prog w) A (eval elt (compEnvC scope cl C env)) (fun y s₄ => F v y ∧ Keeps s₃ s₄) E' s₃)
    (fin : ∀ D ys c (vs : List Value) h' tk, Fr h₀ L h' m → News h₀ L h' ((D, lst ys c) :: news) → Ext s₁.heap h' → s₁.heap.get? D = none → vs.length = n → (∀ j v, vs[j]? = some v → P j v) → Paired F (vs.filter p) ys → Q (.ref D) { s₁ with heap := h', toks := tk }) :
    CompAt prog w A env scope cl x ifs elt Q xv s₁ := ⟨h₀, L, m, news, n, P, p, F, L', hit, hsz, F0, N0, ⟨tests, helt⟩, fin⟩
theorem comp_vals {Q : Value → Shared → Prop}
    (hclos : closureFor scope env = pure cl) (hcell : ∀ y ∈ scope.names, y.2 ≠ .cell) (hkind : scope.kind = .function)
    (hnames : ∀ y ∈ scope.names, y.2 = .local → scope.names.lookup y.1 = some .local) (hx : scope.names.lookup x = some .local)
    (h : wpAny (model prog w) A (eval iter env) (fun xv s₁ => CompAt prog w A env scope cl x ifs elt Q xv s₁) E s)
    (hs : ∀ x, foldedSetIterable iter env x = pure x) :
    wpAny (model prog w) A (eval (.ListComp elt [⟨.Name x px, iter, ifs, 0⟩] scope pos) env) Q E s := by
  rw [eval_ListComp]
  refine wpAny_comprehension_free (use := none) rfl hs hclos hkind hnames (wpAny_mono h (fun xv s₁ h₁ => ?_) fun _ _ e => e)
  obtain ⟨h₀, L, m, news, n, P, p, F, L', hit, hsz, F0, N0, hq, hQ⟩ := h₁
  refine hit s₁ _ _ rfl fun I fp wr St h' tk W hLf hst e hsz' hwr hfp hlive => ?_
  refine comp_block_walkC (RR := fun acc C => compPost (model prog w) A E none Q acc C) W hsz p F hcell hkind hx hst hfp ⟨?_, ?_⟩ ?_
  · intro C i v s₃ m₃ E' hC hP hn hm hk _
    exact hq.tests C i v s₃ m₃ E' hP (fr_comp e hsz' hwr hC hn hk) hm
  · intro C i v s₃ m₃ E' hC hP hp hn hm hk _
    exact hq.elt C i v s₃ m₃ E' hP hp (fr_comp e hsz' hwr hC hn hk) hm
  · intro D C h'' tk' m' ys vs hD hC hDC hn hl hpl hlen hP hF hk
    refine ⟨m', hn, fun g hs'' => ?_⟩
    have hpl' : g.PlainList D ys := hpl.extBut hs''.extBut hDC
    obtain ⟨c, hg⟩ := hpl'
    have ex : Ext s₁.heap g := fun b o q => by
      have q' := e b o q
      have hb : b ∉ wr := fun hb => by rw [hwr b hb] at q; cases q
      exact hs''.extBut b o (by rintro rfl; rw [hC] at q'; cases q') (hk b o hb q')
    have hD' : s₁.heap.get? D = none := by
      cases q : s₁.heap.get? D with
      | none => rfl
      | some o => have := e _ _ q; rw [hD] at this; cases this
    exact hQ D ys.toList c vs g tk' (Fr.ext F0 ex) (News.add F0 (News.ext N0 ex) hD' (by simpa using hg)) ex hD' hlen hP hF
def CompAtA (prog : Program) (w : World) (A : Around) (env : Env) (scope : Scope) (cl : List (Str × Addr)) (x : Str) (ifs : List Expr) (elt : Expr) (y : Str) (Q : Flow → Shared → Prop) (xv : Value) (s₁ : Shared) : Prop :=
  ∃ h₀ m news n P p F L', Iter prog w A L' s₁.heap xv n P ∧ n ≤ sizeLine ∧ Fr h₀ env.locals s₁.heap m ∧ News h₀ env.locals s₁.heap news ∧
      CompOf prog w A env scope cl x ifs elt s₁.heap P p (fun v y _ _ => F v y) ∧
      (∀ D ys c (vs : List Value) h' tk, Fr h₀ env.locals h' (fun z => if z = y then some (.ref D) else m z) → News h₀ env.locals h' ((D, lst ys c) :: news) → s₁.heap.get? D = none → vs.length = n → (∀ j v, vs[j]? = some v → P j v) → Paired F (vs.filter p) ys → Q .next { s₁ with heap := h', toks := tk })
theorem CompAtA.mk {Q : Flow → Shared → Prop} {y : Str} {xv : Value} {s₁ : Shared} {n : Nat} {P : Nat → Value → Prop} {L' : Addr} (p : Value → Bool) (F : Value → Value → Prop) (hL : env.locals = L) (F0 : Fr h₀ L s₁.heap m) (N0 : News h₀ L s₁.heap news) (hit : Iter prog w A L' s₁.heap xv n P) (hsz : n ≤ sizeLine)
    (tests : ∀ C i v (s₃ : Shared) m₃ E', P i v → Fr s₁.heap C s₃.heap m₃ → m₃ x = some v →
      wpAny (model prog w) A (testsOf ifs (compEnvC scope cl C env)) (fun ok s₄ => ok = p v ∧ Keeps s₃ s₄) E' s₃)
    (helt : ∀ C i v (s₃ : Shared) m₃ E', P i v → p v = true → Fr s₁.heap C s₃.heap m₃ → m₃ x = some v →
      wpAny (model prog w) A (eval elt (compEnvC scope cl C env)) (fun y s₄ => F v y ∧ Keeps s₃ s₄) E' s₃)
    (fin : ∀ D ys c (vs : List Value) h' tk, Fr h₀ L h' (fun z => if z = y then some (.ref D) else m z) → News h₀ L h' ((D, lst ys c) :: news) → s₁.heap.get? D = none → vs.length = n → (∀ j v, vs[j]? = some v → P j v) → Paired F (vs.filter p) ys → Q .next { s₁ with heap := h', toks := tk }) :
    CompAtA prog w A env scope cl x ifs elt y Q xv s₁ := by
  subst hL
  exact ⟨h₀, m, news, n, P, p, F, L', hit, hsz, F0, N0, ⟨tests, helt⟩, fin⟩
theorem comp_vals_assign {Q : Flow → Shared → Prop} {y : Str} {py spos : Pos}
    (hsw : swapsWith (.ListComp elt [⟨.Name x px, iter, ifs, 0⟩] scope pos) (some (.Name y py)) spos.line env = pure true)
    (hclos : closureFor scope env = pure cl) (hcell : ∀ z ∈ scope.names, z.2 ≠ .cell) (hkind : scope.kind = .function)
    (hnames : ∀ z ∈ scope.names, z.2 = .local → scope.names.lookup z.1 = some .local) (hx : scope.names.lookup x = some .local)
    (hy : env.kindOf y = some .local) (hp : (env.scope.kind == .class || (env.scope.kind == .module && env.locals != env.globals)) = false)
    (h : wpAny (model prog w) A (eval iter env) (fun xv s₁ => CompAtA prog w A env scope cl x ifs elt y Q xv s₁) E s)
    (hs : ∀ x, foldedSetIterable iter env x = pure x) :
    wpAny (model prog w) A (exec (.Assign [.Name y py] (.ListComp elt [⟨.Name x px, iter, ifs, 0⟩] scope pos) spos) env) Q E s := by
  rw [exec_Assign_Name_used _ _ _ _ hsw]
  refine wpAny_bind (wpAny_standAt (wpAny_bind ?_))
  show wpAny _ A (do let _ ← comprehension (.ListComp elt [⟨.Name x px, iter, ifs, 0⟩] scope pos) scope env _ (newList []) false (eval iter env) (some (assign (.Name y py) env))) _ _ s
  refine wpAny_bind (wpAny_mono (wpAny_comprehension_free (use := some (assign (.Name y py) env)) (Q := fun _ s' => Q .next s') rfl hs hclos hkind hnames
    (wpAny_mono h (fun xv s₁ h₁ => ?_) fun _ _ e => e)) (fun _ s' hq => wpAny_pure (wpAny_pure hq)) fun _ _ e => e)
  obtain ⟨h₀, m, news, n, P, p, F, L', hit, hsz, F0, N0, hq, hQ⟩ := h₁
  refine hit s₁ _ _ rfl fun I fp wr St h' tk W hLf hst e hsz' hwr hfp hlive => ?_
  refine comp_block_walkC (RR := fun acc C => compPost (model prog w) A E (some (assign (.Name y py) env)) (fun _ s' => Q .next s') acc C) W hsz p F hcell hkind hx hst hfp ⟨?_, ?_⟩ ?_
  · intro C i v s₃ m₃ E' hC hP hn hm hk _
    exact hq.tests C i v s₃ m₃ E' hP (fr_comp e hsz' hwr hC hn hk) hm
  · intro C i v s₃ m₃ E' hC hP hp hn hm hk _
    exact hq.elt C i v s₃ m₃ E' hP hp (fr_comp e hsz' hwr hC hn hk) hm
  · intro D C h'' tk' m' ys vs hD hC hDC hnC hl hpl hlen hP hF hk
    have ex₀ : Ext s₁.heap h'' := fun b o q => by
      have hb : b ∉ wr := fun hb => by rw [hwr b hb] at q; cases q
      exact hk b o hb (e b o q)
    have F1 := Fr.ext F0 ex₀
    have N1 := News.ext N0 ex₀
    obtain ⟨oL, es, ep, hLo, hLr⟩ := id F0.ns
    have hLC : env.locals ≠ C := by rintro rfl; have := e _ _ hLo; rw [hC] at this; cases this
    have hLD : env.locals ≠ D := by rintro rfl; have := e _ _ hLo; rw [hD] at this; cases this
    have hD' : s₁.heap.get? D = none := by
      cases q : s₁.heap.get? D with
      | none => rfl
      | some o => have := e _ _ q; rw [hD] at this; cases this
    have hC' : ∀ b o, s₁.heap.get? b = some o → b ≠ C := by rintro b o q rfl; have := e _ _ q; rw [hC] at this; cases this
    show wpAny _ A (assign (.Name y py) env (.ref D)) _ _ _
    refine wpAny_assign_Name (wpAny_storeName_local hy F1.ns (fun h₂ hn₂ hs₂ => ?_) hp)
    refine ⟨m', hnC.sameBut hs₂ (Ne.symm hLC), fun h₃ hs₃ => ?_⟩
    have hpl₃ : h₃.PlainList D ys := (hpl.extBut hs₂.extBut (Ne.symm hLD)).extBut hs₃.extBut hDC
    obtain ⟨c, hg⟩ := hpl₃
    have F2 := F1.set hn₂ hs₂
    have F3 : Fr h₀ env.locals h₃ _ := ⟨hn₂.sameBut hs₃ hLC, fun b o q => hs₃.extBut b o (hC' b o (F0.keep b o q)) (F2.keep b o q), F2.above⟩
    have N3 : News h₀ env.locals h₃ news := fun q hq => ⟨hs₃.extBut _ _ (hC' _ _ (N0 q hq).1) ((N1.set hs₂) q hq).1, (N1 q hq).2⟩
    refine hQ D ys.toList c vs h₃ _ F3 ?_ hD' hlen hP hF
    exact News.add F0 N3 hD' (by simpa using hg)
end comps
end Mine
end
section
open PySem PySem.W PySem.Calls PySem.Spec PyProof.Rows
set_option Elab.async false
namespace Mine
theorem keeps_tok (s : Shared) (t : Nat) : Keeps s { s with toks := t } := ⟨s.heap, t, rfl, fun _ _ e => e⟩
theorem keeps_of {s : Shared} {h : Heap} {t : Nat} (e : Ext s.heap h) : Keeps s { s with heap := h, toks := t } := ⟨h, t, rfl, e⟩
section
variable {prog : Program} {w : World} {A : Around} {E : Value → Shared → Prop} {s : Shared} {env : Env}
theorem tests_none {Q : Bool → Shared → Prop} (h : Q true s) : wpAny (model prog w) A (testsOf [] env) Q E s := wpAny_pure h
theorem tests_one {c : Expr} {Q : Bool → Shared → Prop} (h : wpAny (model prog w) A (isTrue c env (eval c env)) Q E s) : wpAny (model prog w) A (testsOf [c] env) Q E s := by
  show wpAny (model prog w) A (forIn [c] true _) Q E s
  rw [List.forIn_cons]
  refine wpAny_bind ?_
  simp only [if_true]
  refine wpAny_bind (wpAny_mono h (fun b s' hb => ?_) fun _ _ e => e)
  exact wpAny_pure (wpAny_pure hb)
theorem sum_ints {l : Addr} {vs : List Value} {ns : List Int} {Q : Value → Shared → Prop} (hh : A.handled = none) (hl : s.heap.IsList l vs.toArray) (hi : IntsAre vs ns)
    (h : ∀ h' tk t', Ext s.heap h' → Q (.int ns.sum t') { s with heap := h', toks := tk }) :
    wpAny (model prog w) A (call (.builtin "sum") [.ref l]) Q E s := by
  obtain ⟨xs, hx⟩ := hi.allInts.items
  have hn : numsOf vs = ns := hi.numsOf
  rw [hx] at hl
  refine PySem.sum_intListG hh hl fun h' tk t' hk => ?_
  have e1 : ns = xs.toList.map (·.1) := by
    rw [← hn, ← nums_intItems]
    rw [← hx]
  have := h h' tk t' hk
  rw [preSum_eq, List.take_of_length_le (by simp), ← e1]; exact this
end
theorem list_of_idx {α : Type} {xs ys : List α} (hl : xs.length = ys.length) (h : ∀ (j : Nat) v, xs[j]? = some v → ys[j]? = some v) : xs = ys := by
  apply List.ext_getElem?
  intro j
  cases q : xs[j]? with
  | some v => exact (h j v q).symm
  | none => rw [List.getElem?_eq_none_iff] at q; exact (List.getElem?_eq_none_iff.mpr (by omega)).symm
theorem filter_all {α : Type} (xs : List α) : xs.filter (fun _ => true) = xs := by simp
section
variable {M : Model} {A : Around} {E : Value → Shared → Prop} {s : Shared} {env : Env} {b : Heap} {L : Addr} {m : Str → Option Value} {x : Str} {v : Value} {Q : Value → Shared → Prop}
theorem ldL (F : Fr b L s.heap m) (hv : m x = some v) (h : Q v s) (hL : env.locals = L) (hk : env.scope.kind = .function) (hx : env.kindOf x = some .local) :
    wpAny M A (loadName env x) Q E s := wpAny_loadName_local hk hx (by rw [hL]; exact F.ns) hv h
theorem ldC {c : Addr} {o : Obj} (hc : env.cells.lookup x = some c) (ho : s.heap.get? c = some o) (hod : o.data = .cell (some v)) (h : Q v s) (hk : env.scope.kind = .function) (hx : env.kindOf x = some .cell) :
    wpAny M A (loadName env x) Q E s := wpAny_loadName_cell hk hx hc ⟨o, ho, hod⟩ h
end
section
variable {prog : Program} {w : World} {A : Around} {E : Value → Shared → Prop} {s : Shared}
theorem Iter.bytes {L : Addr} {h : Heap} {b : Array UInt8} {t : Tok} (hh : A.handled = none) (hLs : L < h.objs.size) : Iter prog w A L h (.bytes b t) b.size (fun i v => ∃ c u, b[i]? = some c ∧ v = .int (c.toNat : Int) u) := by
  rintro s Q E rfl hQ
  refine KBw.pyIter_bytes (hQ _ _ _ _ _ s.toks (KBw.walks hh _ b t) ?_ ⟨_, Heap.get?_push_size _ rfl, rfl, rfl⟩ (Ext.push _ _) (by rw [Heap.size_push]; exact Nat.le_succ _) ?_ ?_ ?_)
  · exact fun hm => Nat.ne_of_lt hLs (List.mem_singleton.mp hm)
  · intro b hb; rw [List.mem_singleton.mp hb]; exact none_size _
  · intro b hb; rw [List.mem_singleton.mp hb, Heap.size_push]; exact Nat.lt_succ_self _
  · rintro i g ⟨o, ho, _⟩ b hb; rw [List.mem_singleton.mp hb]; exact ⟨o, ho⟩
theorem strs_pairs : ∀ {vs : List Value} {ss : List Str}, StrsAre vs ss → ∃ l : List (Str × Tok), strValues l = vs ∧ l.map (·.1) = ss
  | _, _, .nil => ⟨[], rfl, rfl⟩
  | _, _, .cons y t h => let ⟨l, e1, e2⟩ := strs_pairs h; ⟨(y, t) :: l, by rw [← e1]; rfl, by rw [← e2]; rfl⟩
theorem fold_len (k : Nat) : ∀ (ss : List Str) (a : Nat), ss.foldl (fun n x => n + x.length + k) a = a + (ss.map (·.length)).sum + ss.length * k
  | [], a => by simp
  | x :: r, a => by
    rw [List.foldl_cons, fold_len k r, List.map_cons, List.sum_cons, List.length_cons, Nat.add_mul]; omega
theorem joinOk_of {sep : Str} {ss : List Str} (hb : (ss.map (·.length)).sum + ss.length * sep.length ≤ 10000) : JoinOk sep ss = true := by
  unfold JoinOk
  rw [List.foldl_toArray, fold_len]
  have : ¬ (0 + (ss.map (·.length)).sum + ss.length * sep.length > sizeLine) := by rw [sizeLine_eq]; omega
  simp only [Builtin.Str.tooLong, decide_eq_false this]; rfl
theorem join_strs {sep : Str} {t : Tok} {D : Addr} {vs : List Value} {ss : List Str} {Q : Value → Shared → Prop} (hl : s.heap.IsList D vs.toArray) (hv : StrsAre vs ss)
    (hb : (ss.map (·.length)).sum + ss.length * sep.length ≤ 10000) (h : ∀ t' k, Q (.str (Str.join sep ss) t') { s with toks := k }) :
    wpAny (model prog w) A (call (.builtin "str.join") [.str sep t, .ref D]) Q E s := by
  obtain ⟨l, rfl, e⟩ := strs_pairs hv
  refine SC.join hl e (joinOk_of hb) fun t' k => ?_
  have : Txt.join sep ss = Str.join sep ss := StrLaws.glued_eq_join sep ss
  rw [this]; exact h t' k
end
section
variable {prog : Program} {w : World} {A : Around} {E : Value → Shared → Prop} {s : Shared} {h₀ : Heap} {L : Addr} {m : Str → Option Value} {news : List (Addr × Obj)}
theorem list_range_K {r : Addr} {a b : Int} {t u v : Tok} {Q : Value → Shared → Prop} (hh : A.handled = none) (Fh : Fr h₀ L s.heap m) (N : News h₀ L s.heap news)
    (hr : IsRange s.heap r a b 1 t u v) (ha : 0 ≤ a) (ha' : a ≤ 16777216) (hb : 0 ≤ b) (hb' : b ≤ 16777216)
    (hQ : ∀ D h' tk (ys : List Value) c, Fr h₀ L h' m → News h₀ L h' ((D, lst ys c) :: news) → Ext s.heap h' → s.heap.get? D = none → IntsAre ys (rangeInts a 1 (b - a).toNat) → Q (.ref D) { s with heap := h', toks := tk }) :
    wpAny (model prog w) A (call (.type "list") [.ref r]) Q E s := by
  refine list_rangeD hh Fh N hr ?_ (rangeSize_nat a b) (by omega) fun h' tk ys F' N' e hn hl hp hc => ?_
  · have hs := rangeSize_nat a b
    have fit : ∀ k : Int, 0 ≤ k → k ≤ 16777217 → Builtin.Range.rangeFitsLong k = true := fun k h1 h2 => by
      unfold Builtin.Range.rangeFitsLong
      simp only [Bool.and_eq_true, decide_eq_true_eq]
      omega
    unfold Builtin.Range.small
    rw [hs, fit a ha (by omega), fit b hb (by omega), fit 1 (by decide) (by decide), fit _ (by omega) (by omega)]
    rw [if_pos (by decide), fit (b + (1 - 1)) (by omega) (by omega)]
    simp
  · obtain ⟨⟨c, hg⟩, hne⟩ := hp
    refine hQ _ h' tk ys c F' (News.add Fh N' (none_size _) hg) e (none_size _) (IntsAre.ofCarried hc)
end
section
variable {prog : Program} {w : World} {A : Around} {E : Value → Shared → Prop} {s : Shared}
set_option maxRecDepth 100000 in
theorem issub_nested_str {d : Int} {tk : Tok} {Q : Fin → Shared → Prop} (hq : Q (.done (.ret (.bool true))) s) : wpAny (model prog w) A (Builtin.«issubclass.nested» ⟨[.type "str", .type "str", .int d tk], []⟩) Q E s := by
  have hm : typeOf (.type "str") = pure (.type "type") := by kernel_rfl
  have hself : isSubtype (.type "str") (.type "str") = pure true := isSubtype_str_str
  have hm2 : isType (.type "str") = pure true := by kernel_rfl
  repeat (any_goals (first | assumption | (rw [hm]) | (rw [hself]) | (rw [hm2]) | wp_step))
set_option maxRecDepth 100000 in
theorem issub_str_tuple {tp : Addr} {n : Nat} {Q : Value → Shared → Prop} (ht : s.heap.get? tp = some { cls := .type "tuple", data := .seq #[.type "str", .type "bytes"] n }) (h : ∀ tk, Q (.bool true) { s with toks := tk }) :
    wpAny (model prog w) A (call (.builtin "issubclass") [.type "str", .ref tp]) Q E s := by
  refine call_issubclass (S := fun _ R s => s.heap.get? tp = some { cls := .type "tuple", data := .seq #[.type "str", .type "bytes"] n } ∧ ∀ tk, R (.ok (.ret (.bool true))) { s with toks := tk }) (fun prog w A R s hS => issubclass_outer ?_) ⟨ht, h⟩
  obtain ⟨ht, h⟩ := hS
  have hT : s.TypeIs (.ref tp) "tuple" := ⟨_, ht, rfl⟩
  have hsub : isSubtype (.type "tuple") (.type "tuple") = pure true := by rw [isSubtype_type]; kernel_rfl
  unfold Builtin.«issubclass.nested»
  refine wpAny_bind (wpAny_typeOf hT ?_)
  rw [if_neg (show ¬ ((Value.type "tuple" == Value.type "type") = true) by decide)]
  have hd0 : Builtin.Builtins.nestingLimit > 0 := by decide
  refine wpAny_bind ?_
  unfold Builtin.Builtins.unionMembers
  refine wpAny_bind (wpAny_typeOf hT ?_)
  rw [if_neg (show ¬ ((Value.type "tuple" == Value.type "types.UnionType") = true) by decide)]
  refine wpAny_pure ?_
  refine wpAny_bind (wpAny_isInstance hT hsub ?_)
  rw [if_pos rfl]
  dsimp only
  rw [if_neg (by decide)]
  refine wpAny_bind (wpAny_seqItems ht rfl ?_)
  have body : ∀ (E' : Value → Shared → Prop) (Q' : Value → Shared → Prop) (s' : Shared), Q' (.bool true) s' → wpAny (model prog w) A.in1 (call (.builtin "issubclass.nested") [.type "str", .type "str", rawInt (0 + 1)]) Q' E' s' := by
    intro E' Q' s' hq
    refine call_function_entry (by decide +kernel) (by decide +kernel) F.entry_issubclass_nested (by unfold argsOk; kernel_rfl) ?_
    exact issub_nested_str ⟨_, rfl, hq⟩
  refine wpAny_bind (wpAny_arrayLoop ?_)
  simp only [Option.getD_some]
  show wpAny (model prog w) A.in1 (forIn [Value.type "str", Value.type "bytes"] _ _) _ _ s
  rw [List.forIn_cons]
  refine wpAny_bind (wpAny_bind (body _ _ _ (wpAny_bind (wpAny_truthy_bool ?_))))
  rw [if_pos rfl]
  refine wpAny_bind (wpAny_pure (wpAny_pure (wpAny_pure (wpAny_pure ?_))))
  exact h s.toks
end
end Mine
end
section
open PySem PySem.W PySem.Calls PySem.Spec PyProof.Rows
set_option Elab.async false
namespace Mine
def apF : Nat → Nat → List Nat → List Nat
  | 0, _, acc => acc
  | k + 1, n, acc => if n = 0 then acc else apF k (n / 16) ((65 + n % 16) :: acc)
def bytesOf (l : List Nat) : Array UInt8 := (l.map UInt8.ofNat).toArray
def lets (n : Nat) : List Nat := [65 + n / 65536 % 16, 65 + n / 4096 % 16, 65 + n / 256 % 16, 65 + n / 16 % 16, 65 + n % 16]
theorem lets_lets (n : Nat) : Lets (lets n) := by
  intro c hc
  simp only [lets, List.mem_cons, List.not_mem_nil, or_false] at hc
  omega
theorem apF_facts {n : Nat} (h : n < 1048576) : List.replicate (5 - (apF 5 n []).length) 65 ++ apF 5 n [] = lets n ∧ Lets (apF 5 n []) ∧ (apF 5 n []).length ≤ 5 ∧ (apF 5 n []).head? ≠ some 65 := by
  have e1 : n / 16 / 16 = n / 256 := by omega
  have e2 : n / 256 / 16 = n / 4096 := by omega
  have e3 : n / 4096 / 16 = n / 65536 := by omega
  by_cases h0 : n = 0
  · subst h0
    exact ⟨by decide, (fun c hc => by cases hc), by decide, by decide⟩
  · by_cases h1 : n / 16 = 0
    · have e : apF 5 n [] = [65 + n % 16] := by simp only [apF, if_neg h0, h1, if_true]
      rw [e]
      refine ⟨?_, ?_, by simp, ?_⟩
      · simp only [List.length_singleton, lets]
        have a1 : n / 65536 % 16 = 0 := by omega
        have a2 : n / 4096 % 16 = 0 := by omega
        have a3 : n / 256 % 16 = 0 := by omega
        have a4 : n / 16 % 16 = 0 := by omega
        rw [a1, a2, a3, a4]; rfl
      · intro c hc; rw [List.mem_singleton.mp hc]; omega
      · simp only [List.head?_cons, ne_eq, Option.some.injEq]; omega
    · by_cases h2 : n / 256 = 0
      · have e : apF 5 n [] = [65 + n / 16 % 16, 65 + n % 16] := by simp only [apF, if_neg h0, if_neg h1, e1, h2, if_true]
        rw [e]
        refine ⟨?_, ?_, by simp, ?_⟩
        · simp only [List.length_cons, List.length_nil, lets]
          have a1 : n / 65536 % 16 = 0 := by omega
          have a2 : n / 4096 % 16 = 0 := by omega
          have a3 : n / 256 % 16 = 0 := by omega
          rw [a1, a2, a3]; rfl
        · intro c hc
          simp only [List.mem_cons, List.not_mem_nil, or_false] at hc
          omega
        · simp only [List.head?_cons, ne_eq, Option.some.injEq]; omega
      · by_cases h3 : n / 4096 = 0
        · have e : apF 5 n [] = [65 + n / 256 % 16, 65 + n / 16 % 16, 65 + n % 16] := by simp only [apF, if_neg h0, if_neg h1, e1, if_neg h2, e2, h3, if_true]
          rw [e]
          refine ⟨?_, ?_, by simp, ?_⟩
          · simp only [List.length_cons, List.length_nil, lets]
            have a1 : n / 65536 % 16 = 0 := by omega
            have a2 : n / 4096 % 16 = 0 := by omega
            rw [a1, a2]; rfl
          · intro c hc
            simp only [List.mem_cons, List.not_mem_nil, or_false] at hc
            omega
          · simp only [List.head?_cons, ne_eq, Option.some.injEq]; omega
        · by_cases h4 : n / 65536 = 0
          · have e : apF 5 n [] = [65 + n / 4096 % 16, 65 + n / 256 % 16, 65 + n / 16 % 16, 65 + n % 16] := by simp only [apF, if_neg h0, if_neg h1, e1, if_neg h2, e2, if_neg h3, e3, h4, if_true]
            rw [e]
            refine ⟨?_, ?_, by simp, ?_⟩
            · simp only [List.length_cons, List.length_nil, lets]
              have a1 : n / 65536 % 16 = 0 := by omega
              rw [a1]; rfl
            · intro c hc
              simp only [List.mem_cons, List.not_mem_nil, or_false] at hc
              omega
            · simp only [List.head?_cons, ne_eq, Option.some.injEq]; omega
          · have e : apF 5 n [] = [65 + n / 65536 % 16, 65 + n / 4096 % 16, 65 + n / 256 % 16, 65 + n / 16 % 16, 65 + n % 16] := by simp only [apF, if_neg h0, if_neg h1, e1, if_neg h2, e2, if_neg h3, e3, if_neg h4]
            rw [e]
            refine ⟨rfl, ?_, by simp, ?_⟩
            · intro c hc
              simp only [List.mem_cons, List.not_mem_nil, or_false] at hc
              omega
            · simp only [List.head?_cons, ne_eq, Option.some.injEq]; omega
theorem slice_head (ap : List Nat) (h : ap.head? ≠ some 65) : (Txt.slice ⟨ap.toArray⟩ none (some 1) == (Str.ofString "A")) = false := by
  cases ap with
  | nil => decide +kernel
  | cons c r =>
    have e := eq_of_beq (slice_closes_toL (x := ⟨(c :: r).toArray⟩) (j := 1) (by decide) (by simp [Str.length]; omega))
    rw [e]
    have e2 : (((Str.mk (c :: r).toArray).cps.toList.drop (0 : Int).toNat).take ((1 : Int) - 0).toNat) = [c] := by simp
    rw [e2]
    have hA : Str.ofString "A" = ⟨#[65]⟩ := by decide +kernel
    rw [hA]
    apply beq_eq_false_iff_ne.mpr
    intro q
    injection q with q
    have : c = 65 := by simpa using q
    exact h (by simp [this])
theorem join_empty : ∀ ap : List Nat, Str.join (Str.ofString "") (ap.map ch) = ⟨ap.toArray⟩
  | [] => rfl
  | [c] => rfl
  | c :: d :: r => by
    have ih := join_empty (d :: r)
    simp only [List.map_cons] at ih ⊢
    show (ch c ++ Str.ofString "") ++ Str.join (Str.ofString "") (ch d :: List.map ch r) = _
    rw [ih]
    have e0 : Str.ofString "" = ⟨#[]⟩ := by decide +kernel
    rw [e0]
    show Str.mk ((#[c] ++ #[]) ++ (d :: r).toArray) = _
    simp
theorem chars_of_ints : ∀ {vs ys : List Value} {ap : List Nat}, IntsAre vs (ap.map fun (c : Nat) => (c : Int)) → Paired (fun v y => ∃ (c : Nat) (u t : Tok), v = Value.int (c : Int) u ∧ y = Value.str (ch c) t) vs ys → StrsAre ys (ap.map ch)
  | _, _, [], .nil, .nil => .nil
  | _, _, c :: cs, .cons _ t hv, .cons h hF => by
    obtain ⟨c', u, t', e, rfl⟩ := h
    injection e with e1 e2
    have e1 : c = c' := by exact Int.ofNat.inj e1
    subst e1
    exact .cons _ _ (chars_of_ints hv hF)
theorem ints_of_idx : ∀ {vs : List Value} {ns : List Int}, vs.length = ns.length → (∀ (j : Nat) v, vs[j]? = some v → ∃ (k : Int) (u : Tok), ns[j]? = some k ∧ v = Value.int k u) → IntsAre vs ns
  | [], [], _, _ => .nil
  | v :: vs, n :: ns, hl, h => by
    obtain ⟨k, u, e1, e2⟩ := h 0 v rfl
    cases e1; subst e2
    exact .cons _ _ (ints_of_idx (Nat.succ.inj hl) fun j w hw => h (j + 1) w hw)
  | [], _ :: _, hl, _ => nomatch hl
  | _ :: _, [], hl, _ => nomatch hl
theorem bytes_ints {ap : List Nat} (hle : Lets ap) {vs : List Value} (hlen : vs.length = (bytesOf ap).size) (hP : ∀ (j : Nat) (v : Value), vs[j]? = some v → ∃ (c : UInt8) (u : Tok), (bytesOf ap)[j]? = some c ∧ v = Value.int (c.toNat : Int) u) : IntsAre vs (ap.map fun (c : Nat) => (c : Int)) := by
  refine ints_of_idx (by rw [hlen]; simp [bytesOf]) fun j v hv => ?_
  obtain ⟨c, u, hc, rfl⟩ := hP j v hv
  have hc' : (ap.map UInt8.ofNat)[j]? = some c := by simpa [bytesOf] using hc
  rw [List.getElem?_map] at hc'
  rw [List.getElem?_map]
  cases q : ap[j]? with
  | none => rw [q] at hc'; cases hc'
  | some k =>
    rw [q] at hc'
    cases hc'
    have := hle k (List.mem_of_getElem? q)
    refine ⟨_, u, rfl, ?_⟩
    have : (UInt8.ofNat k).toNat = k := by simp [UInt8.toNat_ofNat']; omega
    rw [this]
theorem sum_ch : ∀ ap : List Nat, ((ap.map ch).map (·.length)).sum = ap.length
  | [] => rfl
  | c :: r => by
    have := sum_ch r
    simp only [List.map_cons, List.sum_cons, List.length_cons] at this ⊢
    rw [this]; show 1 + r.length = _; omega
theorem lt_A {c : Nat} (h : 65 ≤ c) : ¬ ([c] < (Str.ofString "A").cps.toList) := by
  have e : (Str.ofString "A").cps.toList = [65] := by decide +kernel
  rw [e]; simp [List.cons_lt_cons_iff]; omega
theorem lt_P {c : Nat} (h : c ≤ 80) : ¬ ((Str.ofString "P").cps.toList < [c]) := by
  have e : (Str.ofString "P").cps.toList = [80] := by decide +kernel
  rw [e]; simp [List.cons_lt_cons_iff]; omega
theorem rep_A (t : Tok) : ∀ k : Nat, StrsAre (List.replicate k [Value.str (Str.ofString "A") t]).flatten ((List.replicate k 65).map ch)
  | 0 => .nil
  | k + 1 => by
    have ih := rep_A t k
    have e : Str.ofString "A" = ch 65 := by decide +kernel
    rw [e] at ih ⊢
    rw [List.replicate_succ, List.flatten_cons, List.replicate_succ, List.map_cons]
    exact .cons _ _ ih
theorem paired_same {α : Type} : ∀ {xs ys : List α}, Paired (fun v y => v = y) xs ys → xs = ys
  | _, _, .nil => rfl
  | _, _, .cons e h => by rw [e, paired_same h]
theorem signs_are : ∀ {vs : List Value} {ap : List Nat}, vs.length = ap.length → (∀ (j : Nat) v, vs[j]? = some v → SignAt ⟨ap.toArray⟩ j v) → StrsAre vs (ap.map ch)
  | [], [], _, _ => .nil
  | v :: vs, c :: ap, hl, h => by
    obtain ⟨d, u, e1, e2⟩ := h 0 v rfl
    have e1 : c = d := by simpa using e1
    subst e1; subst e2
    refine .cons _ _ (signs_are (Nat.succ.inj hl) fun j w hw => ?_)
    obtain ⟨d', u', e3, e4⟩ := h (j + 1) w hw
    exact ⟨d', u', by simpa using e3, e4⟩
  | [], _ :: _, hl, _ => nomatch hl
  | _ :: _, [], hl, _ => nomatch hl
end Mine
end
section
open PySem PySem.W PySem.Calls PySem.Spec PyProof.Rows
set_option Elab.async false
namespace Mine
section
open AutoSeq1 (wpAny_loadPart')
open MeetsSeq MeetsSeq3
set_option maxRecDepth 100000
theorem isList_open {h : Heap} {l : Addr} {items : Array Value} (x : h.IsList l items) : ∃ dd n sl, h.get? l = some { cls := .type "list", dict := dd, data := .seq items n, slots := sl } := by
  obtain ⟨⟨c, d, da, sl⟩, ho, hc, n, hd⟩ := x
  cases hc; cases hd
  exact ⟨_, _, _, ho⟩
theorem order_loop (op : CmpOp) (code : Nat) (hop : (op = .Lt ∧ code = 0) ∨ (op = .Gt ∧ code = 4)) (l b : Addr) (items items2 : Array Value) (j : Nat) (x y : Value) (r : Bool)
    (he : ∀ i, i < j → ∃ u v, items[i]? = some u ∧ items2[i]? = some v ∧ EqGives u v true) (hx : items[j]? = some x) (hy : items2[j]? = some y) (hne : EqGives x y false)
    (hc : ∀ (prog : Program) (w : World) (A : Around) (E : Value → Shared → Prop) (s : Shared) (Q : Value → Shared → Prop), Q (.bool r) s → wpAny (model prog w) A (richCompare op x y) Q E s) (k : Nat) :
    ∀ i : Nat, i ≤ j → j - i = k → Meets (Builtin.«list.__eq__.loop» ⟨[.ref l, .ref b, rawInt i, rawInt code], []⟩) (fun _ R s => s.heap.IsList l items ∧ s.heap.IsList b items2 ∧ R (.ok (.ret (.bool r))) s) := by
  induction k with
  | zero =>
    intro i hij hk prog w A R s h
    obtain ⟨hp, g, d, tk, os⟩ := s; obtain ⟨hl0, hb0, h⟩ := h
    obtain ⟨_, _, _, hl⟩ := isList_open hl0
    obtain ⟨_, _, _, hb⟩ := isList_open hb0
    obtain rfl : i = j := by omega
    have hi1 : items[((i : Nat) : Int).toNat]? = some x := by simpa using hx
    have hi2 : items2[((i : Nat) : Int).toNat]? = some y := by simpa using hy
    rcases hop with ⟨rfl, rfl⟩ | ⟨rfl, rfl⟩
    · wp_walk using wpAny_loadPart' hl, wpAny_loadPart' hb
      rw [hi1, hi2]
      refine wpAny_bind (hne prog w _ _ _ _ ?_)
      wp_walk using wpAny_loadPart' hl, wpAny_loadPart' hb
      rw [hi1, hi2]
      refine wpAny_bind (hc prog w _ _ _ _ ?_)
      wp_walk
      exact h
    · wp_walk using wpAny_loadPart' hl, wpAny_loadPart' hb
      rw [hi1, hi2]
      refine wpAny_bind (hne prog w _ _ _ _ ?_)
      wp_walk using wpAny_loadPart' hl, wpAny_loadPart' hb
      rw [hi1, hi2]
      refine wpAny_bind (hc prog w _ _ _ _ ?_)
      wp_walk
      exact h
  | succ k ih =>
    intro i hij hk prog w A R s h
    obtain ⟨hp, g, d, tk, os⟩ := s; obtain ⟨hl0, hb0, h⟩ := h
    obtain ⟨_, _, _, hl⟩ := isList_open hl0
    obtain ⟨_, _, _, hb⟩ := isList_open hb0
    obtain ⟨u, v, hu, hv, huv⟩ := he i (by omega)
    have hi1 : items[((i : Nat) : Int).toNat]? = some u := by simpa using hu
    have hi2 : items2[((i : Nat) : Int).toNat]? = some v := by simpa using hv
    have hc' : ((i : Int) + 1) = ((i + 1 : Nat) : Int) := by push_cast; rfl
    have fin : codeAny (model prog w) A (.builtin "list.__eq__.loop" ⟨[.ref l, .ref b, rawInt (i + 1 : Nat), rawInt code], []⟩) R ⟨hp, g, d, tk, os⟩ :=
      codeAny_builtin entry_eq_loop (by
        rw [Around.under_plainId plain_eq_loop _]
        exact ih (i + 1) (by omega) (by omega) prog w A R _ ⟨hl0, hb0, h⟩)
    rcases hop with ⟨rfl, rfl⟩ | ⟨rfl, rfl⟩
    · wp_walk using wpAny_loadPart' hl, wpAny_loadPart' hb
      rw [hi1, hi2]
      refine wpAny_bind (huv prog w _ _ _ _ ?_)
      wp_walk
      rw [hc']
      exact ⟨plainId_quiet plain_eq_loop _, fin⟩
    · wp_walk using wpAny_loadPart' hl, wpAny_loadPart' hb
      rw [hi1, hi2]
      refine wpAny_bind (huv prog w _ _ _ _ ?_)
      wp_walk
      rw [hc']
      exact ⟨plainId_quiet plain_eq_loop _, fin⟩
theorem list_order (op : CmpOp) (r : Bool) (l b : Addr) (items items2 : Array Value) (j : Nat) (x y : Value)
    (he : ∀ i, i < j → ∃ u v, items[i]? = some u ∧ items2[i]? = some v ∧ EqGives u v true) (hx : items[j]? = some x) (hy : items2[j]? = some y) (hne : EqGives x y false)
    (hc : ∀ (prog : Program) (w : World) (A : Around) (E : Value → Shared → Prop) (s : Shared) (Q : Value → Shared → Prop), Q (.bool r) s → wpAny (model prog w) A (richCompare op x y) Q E s) :
    (op = .Lt → Meets (Builtin.«list.__lt__» ⟨[.ref l, .ref b], []⟩) (fun _ R s => s.heap.IsList l items ∧ s.heap.IsList b items2 ∧ R (.ok (.ret (.bool r))) s)) ∧
    (op = .Gt → Meets (Builtin.«list.__gt__» ⟨[.ref l, .ref b], []⟩) (fun _ R s => s.heap.IsList l items ∧ s.heap.IsList b items2 ∧ R (.ok (.ret (.bool r))) s)) := by
  have f3 := AutoSeq1.sub_list_list
  constructor
  · rintro rfl prog w A R s h
    obtain ⟨hp, g, d, tk, os⟩ := s; obtain ⟨hl0, hb0, h⟩ := h
    obtain ⟨_, _, _, hl⟩ := isList_open hl0
    obtain ⟨_, _, _, hb⟩ := isList_open hb0
    wp_walk using wpAny_loadPart' hl, wpAny_loadPart' hb
    exact ⟨plainId_quiet plain_eq_loop _, codeAny_builtin entry_eq_loop (by
      rw [Around.under_plainId plain_eq_loop _]
      exact order_loop .Lt 0 (.inl ⟨rfl, rfl⟩) l b items items2 j x y r he hx hy hne hc _ 0 (Nat.zero_le _) rfl prog w A R _ ⟨hl0, hb0, h⟩)⟩
  · rintro rfl prog w A R s h
    obtain ⟨hp, g, d, tk, os⟩ := s; obtain ⟨hl0, hb0, h⟩ := h
    obtain ⟨_, _, _, hl⟩ := isList_open hl0
    obtain ⟨_, _, _, hb⟩ := isList_open hb0
    wp_walk using wpAny_loadPart' hl, wpAny_loadPart' hb
    exact ⟨plainId_quiet plain_eq_loop _, codeAny_builtin entry_eq_loop (by
      rw [Around.under_plainId plain_eq_loop _]
      exact order_loop .Gt 4 (.inr ⟨rfl, rfl⟩) l b items items2 j x y r he hx hy hne hc _ 0 (Nat.zero_le _) rfl prog w A R _ ⟨hl0, hb0, h⟩)⟩
/-- two lists of texts that first part at place j -/
theorem lists_part {xs ys : List Value} {as bs : List Str} {j : Nat} {a c : Str} (hx : StrsAre xs as) (hy : StrsAre ys bs) (he : as.take j = bs.take j) (ha : as[j]? = some a) (hc : bs[j]? = some c) (hne : a ≠ c) :
    ∃ t u, xs.toArray[j]? = some (.str a t) ∧ ys.toArray[j]? = some (.str c u) ∧ (∀ i, i < j → ∃ u v, xs.toArray[i]? = some u ∧ ys.toArray[i]? = some v ∧ EqGives u v true) ∧ EqGives (.str a t) (.str c u) false := by
  obtain ⟨t, ht⟩ := hx.get j a ha
  obtain ⟨u, hu⟩ := hy.get j c hc
  refine ⟨t, u, by simpa using ht, by simpa using hu, fun i hi => ?_, ?_⟩
  · have hal := (List.getElem?_eq_some_iff.mp ha).1
    obtain ⟨z, hz⟩ : ∃ z, as[i]? = some z := ⟨_, List.getElem?_eq_getElem (by omega)⟩
    have hz2 : bs[i]? = some z := by
      have e1 := congrArg (fun l => l[i]?) he
      simp only [List.getElem?_take, hi, if_true] at e1
      rw [← e1]; exact hz
    obtain ⟨t1, h1⟩ := hx.get i z hz
    obtain ⟨t2, h2⟩ := hy.get i z hz2
    refine ⟨_, _, by simpa using h1, by simpa using h2, ?_⟩
    have := eqGives_str z z t1 t2
    rwa [beq_self_eq_true] at this
  · have := eqGives_str a c t u
    rwa [beq_eq_false_iff_ne.mpr hne] at this
section
variable {prog : Program} {w : World} {A : Around} {E : Value → Shared → Prop} {s : Shared} {l b : Addr} {xs ys : List Value} {as bs : List Str} {j : Nat} {a c : Str} {Q : Value → Shared → Prop}
theorem lt_lists (hl : s.heap.IsList l xs.toArray) (hb : s.heap.IsList b ys.toArray) (hx : StrsAre xs as) (hy : StrsAre ys bs) (he : as.take j = bs.take j) (ha : as[j]? = some a) (hc : bs[j]? = some c) (hne : a ≠ c) (hu : A.units < cLine)
    (h : Q (.bool (decide (a.cps.toList < c.cps.toList))) s) : wpAny (model prog w) A (richCompare .Lt (.ref l) (.ref b)) Q E s := by
  obtain ⟨t, u, h1, h2, h3, h4⟩ := lists_part hx hy he ha hc hne
  exact richCompare_meets_room (op := .Lt) hl.typeIs hb.typeIs F.slot_list_lt F.entry_list_lt (F.args_list_lt_2 _ _)
    ((list_order .Lt (decide (a.cps.toList < c.cps.toList)) l b xs.toArray ys.toArray j _ _ h3 h1 h2 h4 fun prog w A E s Q hq => lt_str hq).1 rfl) ⟨hl, hb, by simp, h⟩ hu
theorem gt_lists (hl : s.heap.IsList l xs.toArray) (hb : s.heap.IsList b ys.toArray) (hx : StrsAre xs as) (hy : StrsAre ys bs) (he : as.take j = bs.take j) (ha : as[j]? = some a) (hc : bs[j]? = some c) (hne : a ≠ c) (hu : A.units < cLine)
    (h : Q (.bool (decide (c.cps.toList < a.cps.toList))) s) : wpAny (model prog w) A (richCompare .Gt (.ref l) (.ref b)) Q E s := by
  obtain ⟨t, u, h1, h2, h3, h4⟩ := lists_part hx hy he ha hc hne
  exact richCompare_meets_room (op := .Gt) hl.typeIs hb.typeIs F.slot_list_gt F.entry_list_gt (F.args_list_gt_2 _ _)
    ((list_order .Gt (decide (c.cps.toList < a.cps.toList)) l b xs.toArray ys.toArray j _ _ h3 h1 h2 h4 fun prog w A E s Q hq => PySem.P.gt_str hq).2 rfl) ⟨hl, hb, by simp, h⟩ hu
end
end
end Mine
end
section
open PySem PySem.W PySem.Calls PySem.Spec PyProof.Rows
set_option Elab.async false
namespace Mine
section
set_option maxRecDepth 100000
variable {prog : Program} {w : World} {A : Around} {R : Result → Shared → Prop} {I : Addr} {fp wr : List Addr} {n : Nat} {P : Nat → Value → Prop} {St : Nat → Heap → Prop}
/-- the same but at wr and S -/
abbrev Off (wr : List Addr) (S : Addr) (h h' : Heap) : Prop := ∀ b o, b ∉ wr → b ≠ S → h.get? b = some o → h'.get? b = some o
theorem max_loop (W : Walks prog w A.in1 I fp wr n P St) (S : Addr) (hSf : S ∉ fp) (h0 : Heap)
    (hcmp : ∀ j vi vj (s : Shared) (Q E : Value → Shared → Prop), Off wr S h0 s.heap → j + 1 < n → P (j + 1) vi → P j vj → Q (.bool true) s → wpAny (model prog w) A.in1 (richCompare .Gt vi vj) Q E s) :
    ∀ (k j : Nat) (s : Shared) (vb : Value) (c : Nat), n - (j + 1) = k → j + 1 ≤ n → St (j + 1) s.heap → P j vb → Off wr S h0 s.heap →
    s.heap.get? S = some { cls := .type "list", dict := none, data := .seq #[vb, vb] c, slots := #[] } →
    (∀ v h' tk, P (n - 1) v → Off wr S s.heap h' → R (.ok (.ret v)) { s with heap := h', toks := tk }) →
    codeAny (model prog w) A (.builtin "max.loop" ⟨[.ref I, .none, .ref S], []⟩) R s := by
  have hSw : S ∉ wr := fun h => hSf (W.sub _ h)
  have hname : (toString "max" ++ toString ".loop" : String) = "max.loop" := by decide
  intro k
  induction k with
  | zero =>
    intro j s vb c hk hj hst hPb h0s hS hR
    have hin : j + 1 = n := by omega
    refine codeAny_builtin F.entry_max_loop ?_
    rw [Around.under_plainId F.plain_max_loop _]
    show wpAny _ A.in1 (seqItems? (.ref S) >>= _) _ _ s
    refine wpAny_bind (wpAny_seqItems hS rfl ?_)
    show wpAny _ A.in1 (tryCatch (pyNext (.ref I)) _ >>= _) _ _ s
    refine wpAny_bind (wpAny_tryCatch (W.done s _ _ (hin ▸ hst) fun h' tk hk' => ?_))
    have hS' := hk' S _ hSw hS
    show wpAny _ A.in1 (updateSeq S (fun _ => #[]) >>= _) _ _ _
    refine wpAny_bind ?_
    refine wpAny_updateSeq hS' rfl (wpAny_bind (wpAny_letGo (wpAny_pure ?_)))
    refine hR vb _ tk (by rw [← hin]; exact hPb) fun b o hbw hbS e => (Heap.get?_update_other _ _ (Ne.symm hbS)).trans (hk' b o hbw e)
  | succ k ih =>
    intro j s vb c hk hj hst hPb h0s hS hR
    have hlt : j + 1 < n := by omega
    refine codeAny_builtin F.entry_max_loop ?_
    rw [Around.under_plainId F.plain_max_loop _]
    show wpAny _ A.in1 (seqItems? (.ref S) >>= _) _ _ s
    refine wpAny_bind (wpAny_seqItems hS rfl ?_)
    show wpAny _ A.in1 (tryCatch (pyNext (.ref I)) _ >>= _) _ _ s
    refine wpAny_bind (wpAny_tryCatch (W.item (j + 1) s _ _ hlt hst fun v h' tk hP hst' hk' => ?_))
    have hS' := hk' S _ hSw hS
    show wpAny _ A.in1 (tryCatch (holding [v, v] (richCompare .Gt v vb >>= _)) _ >>= _) _ _ _
    refine wpAny_bind (wpAny_tryCatch (wpAny_holding (wpAny_bind (hcmp j v vb _ _ _ (fun b o hbw hbS e => hk' b o hbw (h0s b o hbw hbS e)) hlt hP hPb ?_))))
    refine wpAny_bind (wpAny_holding (wpAny_truthy_bool ?_))
    refine wpAny_bind (wpAny_letGo (wpAny_pure ?_))
    simp only [if_true]
    refine wpAny_bind ?_
    refine wpAny_updateSeq hS' rfl (wpAny_bind (wpAny_letGo ?_))
    rw [hname]
    refine wpAny_pure ⟨plainId_quiet F.plain_max_loop _, ih (j + 1) _ v _ (by omega) hlt (W.frame _ _ _ hst' fun b hbf o e => ?_) hP (fun b o hbw hbS e => (Heap.get?_update_other _ _ (Ne.symm hbS)).trans (hk' b o hbw (h0s b o hbw hbS e))) (Heap.get?_update_self _ hS' rfl)
      fun v' h'' tk'' hP' hk'' => ?_⟩
    · exact (Heap.get?_update_other _ _ (fun h : S = b => hSf (by rw [h]; exact hbf))).trans e
    · exact hR v' h'' tk'' hP' fun b o hbw hbS e => hk'' b o hbw hbS ((Heap.get?_update_other _ _ (Ne.symm hbS)).trans (hk' b o hbw e))
theorem min_loop (W : Walks prog w A.in1 I fp wr n P St) (S : Addr) (hSf : S ∉ fp) (h0 : Heap)
    (hcmp : ∀ j vi vj (s : Shared) (Q E : Value → Shared → Prop), Off wr S h0 s.heap → j + 1 < n → P (j + 1) vi → P 0 vj → Q (.bool false) s → wpAny (model prog w) A.in1 (richCompare .Lt vi vj) Q E s) :
    ∀ (k j : Nat) (s : Shared) (vb : Value) (c : Nat), n - (j + 1) = k → j + 1 ≤ n → St (j + 1) s.heap → P 0 vb → Off wr S h0 s.heap →
    s.heap.get? S = some { cls := .type "list", dict := none, data := .seq #[vb, vb] c, slots := #[] } →
    (∀ v h' tk, P 0 v → Off wr S s.heap h' → R (.ok (.ret v)) { s with heap := h', toks := tk }) →
    codeAny (model prog w) A (.builtin "min.loop" ⟨[.ref I, .none, .ref S], []⟩) R s := by
  have hSw : S ∉ wr := fun h => hSf (W.sub _ h)
  have hname : (toString "min" ++ toString ".loop" : String) = "min.loop" := by decide
  intro k
  induction k with
  | zero =>
    intro j s vb c hk hj hst hPb h0s hS hR
    have hin : j + 1 = n := by omega
    refine codeAny_builtin F.entry_min_loop ?_
    rw [Around.under_plainId F.plain_min_loop _]
    show wpAny _ A.in1 (seqItems? (.ref S) >>= _) _ _ s
    refine wpAny_bind (wpAny_seqItems hS rfl ?_)
    show wpAny _ A.in1 (tryCatch (pyNext (.ref I)) _ >>= _) _ _ s
    refine wpAny_bind (wpAny_tryCatch (W.done s _ _ (hin ▸ hst) fun h' tk hk' => ?_))
    have hS' := hk' S _ hSw hS
    show wpAny _ A.in1 (updateSeq S (fun _ => #[]) >>= _) _ _ _
    refine wpAny_bind ?_
    refine wpAny_updateSeq hS' rfl (wpAny_bind (wpAny_letGo (wpAny_pure ?_)))
    refine hR vb _ tk hPb fun b o hbw hbS e => (Heap.get?_update_other _ _ (Ne.symm hbS)).trans (hk' b o hbw e)
  | succ k ih =>
    intro j s vb c hk hj hst hPb h0s hS hR
    have hlt : j + 1 < n := by omega
    refine codeAny_builtin F.entry_min_loop ?_
    rw [Around.under_plainId F.plain_min_loop _]
    show wpAny _ A.in1 (seqItems? (.ref S) >>= _) _ _ s
    refine wpAny_bind (wpAny_seqItems hS rfl ?_)
    show wpAny _ A.in1 (tryCatch (pyNext (.ref I)) _ >>= _) _ _ s
    refine wpAny_bind (wpAny_tryCatch (W.item (j + 1) s _ _ hlt hst fun v h' tk hP hst' hk' => ?_))
    have hS' := hk' S _ hSw hS
    show wpAny _ A.in1 (tryCatch (holding [v, v] (richCompare .Lt v vb >>= _)) _ >>= _) _ _ _
    refine wpAny_bind (wpAny_tryCatch (wpAny_holding (wpAny_bind (hcmp j v vb _ _ _ (fun b o hbw hbS e => hk' b o hbw (h0s b o hbw hbS e)) hlt hP hPb ?_))))
    refine wpAny_bind (wpAny_holding (wpAny_truthy_bool ?_))
    refine wpAny_bind (wpAny_letGo (wpAny_pure ?_))
    simp only [Bool.false_eq_true, if_false]
    refine wpAny_bind (wpAny_letGo ?_)
    rw [hname]
    refine wpAny_pure ⟨plainId_quiet F.plain_min_loop _, ih (j + 1) _ vb c (by omega) hlt hst' hPb (fun b o hbw hbS e => hk' b o hbw (h0s b o hbw hbS e)) hS' fun v' h'' tk'' hP' hk'' => ?_⟩
    exact hR v' h'' tk'' hP' fun b o hbw hbS e => hk'' b o hbw hbS (hk' b o hbw e)
end
section
set_option maxRecDepth 100000
variable {prog : Program} {w : World} {A : Around} {E : Value → Shared → Prop} {s : Shared}
theorem call_max_at {x : Value} {Q : Value → Shared → Prop} {n : Nat} {P : Nat → Value → Prop} (hn : 0 < n)
    (h : wpAny (model prog w) A.in1 (pyIter x) (fun it s₂ => ∃ I fp wr St, it = .ref I ∧ Walks prog w A.in1 I fp wr n P St ∧ St 0 s₂.heap ∧ (∀ b ∈ fp, b < s₂.heap.objs.size) ∧
      (∀ S, s₂.heap.get? S = none → ∀ j vi vj (s : Shared) (Q E : Value → Shared → Prop), Off wr S s₂.heap s.heap → j + 1 < n → P (j + 1) vi → P j vj → Q (.bool true) s → wpAny (model prog w) A.in1 (richCompare .Gt vi vj) Q E s) ∧
      ∀ v h' tk, P (n - 1) v → (∀ b o, b ∉ wr → s₂.heap.get? b = some o → h'.get? b = some o) → Q v { s₂ with heap := h', toks := tk }) E s) :
    wpAny (model prog w) A (call (.builtin "max") [x]) Q E s := by
  have hname : (toString "max" ++ toString ".loop" : String) = "max.loop" := by decide
  refine call_function_tree F.kind_max F.plain_max F.entry_max (F.args_max1 _) ?_
  show wpAny _ A.in1 (Builtin.Builtins.bindParams "max" ["key", "default"] 0 ⟨[], []⟩ >>= _) _ _ s
  refine wpAny_bind (wpAny_of_eq (show Builtin.Builtins.bindParams "max" ["key", "default"] 0 ⟨[], []⟩ = pure [none, none] from rfl) ?_)
  refine wpAny_bind (wpAny_pure ?_)
  refine wpAny_bind (wpAny_mono h (fun it s₂ h₂ => ?_) fun _ _ e => e)
  obtain ⟨I, fp, wr, St, rfl, W, hst, hfp, hcmp, hQ⟩ := h₂
  refine wpAny_bind (wpAny_newObj_type ?_)
  have hSf : s₂.heap.objs.size ∉ fp := fun hm => Nat.lt_irrefl _ (hfp _ hm)
  have hSw : s₂.heap.objs.size ∉ wr := fun h => hSf (W.sub _ h)
  have hS0 : s₂.heap.get? s₂.heap.objs.size = none := by
    cases q : s₂.heap.get? s₂.heap.objs.size with
    | none => rfl
    | some o => exact absurd (Heap.lt_size q) (Nat.lt_irrefl _)
  rw [hname]
  refine wpAny_pure ⟨plainId_quiet F.plain_max_loop _, ?_⟩
  have hst' := W.frame _ _ (s₂.heap.push { cls := .type "list", data := .seq ([] : List Value).toArray }) hst fun b _ o e => Heap.get?_push_of_some _ e
  refine codeAny_builtin F.entry_max_loop ?_
  rw [Around.under_plainId F.plain_max_loop _]
  have hS := Heap.get?_push_size s₂.heap (o := { cls := .type "list", data := .seq ([] : List Value).toArray }) rfl
  show wpAny _ A.in1 (seqItems? (.ref s₂.heap.objs.size) >>= _) _ _ _
  refine wpAny_bind (wpAny_seqItems hS rfl ?_)
  show wpAny _ A.in1 (tryCatch (pyNext (.ref I)) _ >>= _) _ _ _
  refine wpAny_bind (wpAny_tryCatch (W.item 0 _ _ _ hn hst' fun v h' tk hP hst' hk' => ?_))
  have hS' := hk' _ _ hSw hS
  show wpAny _ A.in1 (updateSeq s₂.heap.objs.size (fun _ => #[v, v]) >>= _) _ _ _
  refine wpAny_bind ?_
  refine wpAny_updateSeq hS' rfl ?_
  rw [hname]
  have hoff : Off wr s₂.heap.objs.size s₂.heap (h'.update s₂.heap.objs.size (Obj.mapSeq fun _ => #[v, v])) := fun b o hbw hbS e => (Heap.get?_update_other _ _ (Ne.symm hbS)).trans (hk' b o hbw (Heap.get?_push_of_some _ e))
  refine wpAny_pure ⟨plainId_quiet F.plain_max_loop _, max_loop W _ hSf s₂.heap (hcmp _ hS0) _ 0 _ v _ rfl hn (W.frame _ _ _ hst' fun b hbf o e => ?_) hP hoff (Heap.get?_update_self _ hS' rfl) fun v' h'' tk'' hP' hk'' => ?_⟩
  · exact (Heap.get?_update_other _ _ (fun h : s₂.heap.objs.size = b => hSf (by rw [h]; exact hbf))).trans e
  · exact hQ v' h'' tk'' hP' fun b o hbw e => hk'' b o hbw (Nat.ne_of_lt (Heap.lt_size e)) (hoff b o hbw (Nat.ne_of_lt (Heap.lt_size e)) e)
theorem call_min_at {x : Value} {Q : Value → Shared → Prop} {n : Nat} {P : Nat → Value → Prop} (hn : 0 < n)
    (h : wpAny (model prog w) A.in1 (pyIter x) (fun it s₂ => ∃ I fp wr St, it = .ref I ∧ Walks prog w A.in1 I fp wr n P St ∧ St 0 s₂.heap ∧ (∀ b ∈ fp, b < s₂.heap.objs.size) ∧
      (∀ S, s₂.heap.get? S = none → ∀ j vi vj (s : Shared) (Q E : Value → Shared → Prop), Off wr S s₂.heap s.heap → j + 1 < n → P (j + 1) vi → P 0 vj → Q (.bool false) s → wpAny (model prog w) A.in1 (richCompare .Lt vi vj) Q E s) ∧
      ∀ v h' tk, P 0 v → (∀ b o, b ∉ wr → s₂.heap.get? b = some o → h'.get? b = some o) → Q v { s₂ with heap := h', toks := tk }) E s) :
    wpAny (model prog w) A (call (.builtin "min") [x]) Q E s := by
  have hname : (toString "min" ++ toString ".loop" : String) = "min.loop" := by decide
  refine call_function_tree F.kind_min F.plain_min F.entry_min (F.args_min1 _) ?_
  show wpAny _ A.in1 (Builtin.Builtins.bindParams "min" ["key", "default"] 0 ⟨[], []⟩ >>= _) _ _ s
  refine wpAny_bind (wpAny_of_eq (show Builtin.Builtins.bindParams "min" ["key", "default"] 0 ⟨[], []⟩ = pure [none, none] from rfl) ?_)
  refine wpAny_bind (wpAny_pure ?_)
  refine wpAny_bind (wpAny_mono h (fun it s₂ h₂ => ?_) fun _ _ e => e)
  obtain ⟨I, fp, wr, St, rfl, W, hst, hfp, hcmp, hQ⟩ := h₂
  refine wpAny_bind (wpAny_newObj_type ?_)
  have hSf : s₂.heap.objs.size ∉ fp := fun hm => Nat.lt_irrefl _ (hfp _ hm)
  have hSw : s₂.heap.objs.size ∉ wr := fun h => hSf (W.sub _ h)
  have hS0 : s₂.heap.get? s₂.heap.objs.size = none := by
    cases q : s₂.heap.get? s₂.heap.objs.size with
    | none => rfl
    | some o => exact absurd (Heap.lt_size q) (Nat.lt_irrefl _)
  rw [hname]
  refine wpAny_pure ⟨plainId_quiet F.plain_min_loop _, ?_⟩
  have hst' := W.frame _ _ (s₂.heap.push { cls := .type "list", data := .seq ([] : List Value).toArray }) hst fun b _ o e => Heap.get?_push_of_some _ e
  refine codeAny_builtin F.entry_min_loop ?_
  rw [Around.under_plainId F.plain_min_loop _]
  have hS := Heap.get?_push_size s₂.heap (o := { cls := .type "list", data := .seq ([] : List Value).toArray }) rfl
  show wpAny _ A.in1 (seqItems? (.ref s₂.heap.objs.size) >>= _) _ _ _
  refine wpAny_bind (wpAny_seqItems hS rfl ?_)
  show wpAny _ A.in1 (tryCatch (pyNext (.ref I)) _ >>= _) _ _ _
  refine wpAny_bind (wpAny_tryCatch (W.item 0 _ _ _ hn hst' fun v h' tk hP hst' hk' => ?_))
  have hS' := hk' _ _ hSw hS
  show wpAny _ A.in1 (updateSeq s₂.heap.objs.size (fun _ => #[v, v]) >>= _) _ _ _
  refine wpAny_bind ?_
  refine wpAny_updateSeq hS' rfl ?_
  rw [hname]
  have hoff : Off wr s₂.heap.objs.size s₂.heap (h'.update s₂.heap.objs.size (Obj.mapSeq fun _ => #[v, v])) := fun b o hbw hbS e => (Heap.get?_update_other _ _ (Ne.symm hbS)).trans (hk' b o hbw (Heap.get?_push_of_some _ e))
  refine wpAny_pure ⟨plainId_quiet F.plain_min_loop _, min_loop W _ hSf s₂.heap (hcmp _ hS0) _ 0 _ v _ rfl hn (W.frame _ _ _ hst' fun b hbf o e => ?_) hP hoff (Heap.get?_update_self _ hS' rfl) fun v' h'' tk'' hP' hk'' => ?_⟩
  · exact (Heap.get?_update_other _ _ (fun h : s₂.heap.objs.size = b => hSf (by rw [h]; exact hbf))).trans e
  · exact hQ v' h'' tk'' hP' fun b o hbw e => hk'' b o hbw (Nat.ne_of_lt (Heap.lt_size e)) (hoff b o hbw (Nat.ne_of_lt (Heap.lt_size e)) e)
end
end Mine
end
section
open PySem PySem.W PySem.Calls PySem.Spec PyProof.Rows
set_option Elab.async false
namespace Mine
/-- y is a list that the ledger bears -/
def LObj (objs : List (Addr × Obj)) (G : Value → Array Value → Prop) (v y : Value) : Prop := ∃ T o its n, y = .ref T ∧ (T, o) ∈ objs ∧ o.cls = .type "list" ∧ o.data = .seq its n ∧ G v its
theorem LObj.sub {objs objs' : List (Addr × Obj)} {G : Value → Array Value → Prop} {v y : Value} (x : LObj objs G v y) (h : ∀ p ∈ objs, p ∈ objs') : LObj objs' G v y := by
  obtain ⟨T, o, its, n, e, hm, r⟩ := x
  exact ⟨T, o, its, n, e, h _ hm, r⟩
theorem paired_mono {α β : Type} {F F' : α → β → Prop} (h : ∀ a b, F a b → F' a b) : ∀ {xs : List α} {ys : List β}, Paired F xs ys → Paired F' xs ys
  | _, _, .nil => .nil
  | _, _, .cons a t => .cons (h _ _ a) (paired_mono h t)
theorem paired_objs {h : Heap} {ok : Addr → Prop} {G : Value → Array Value → Prop} : ∀ {vs ys : List Value}, Paired (fun v y => ∃ T its, y = .ref T ∧ ok T ∧ h.IsList T its ∧ G v its) vs ys →
    ∃ objs : List (Addr × Obj), (∀ p ∈ objs, ok p.1 ∧ h.get? p.1 = some p.2) ∧ Paired (LObj objs G) vs ys
  | _, _, .nil => ⟨[], (fun _ h => nomatch h), .nil⟩
  | _, _, .cons a t => by
    obtain ⟨objs, h1, h2⟩ := paired_objs t
    obtain ⟨T, its, rfl, hok, ⟨o, ho, hc, n, hd⟩, hG⟩ := a
    refine ⟨(T, o) :: objs, fun p hp => ?_, .cons ⟨T, o, its, n, rfl, .head _, hc, hd, hG⟩ (paired_mono (fun _ _ x => x.sub fun p hp => .tail _ hp) h2)⟩
    rcases List.mem_cons.mp hp with rfl | hp
    · exact ⟨hok, ho⟩
    · exact h1 p hp
section
variable {prog : Program} {w : World} {A : Around} {E : Value → Shared → Prop} {s : Shared} {env : Env} {h₀ : Heap} {L : Addr} {m : Str → Option Value} {news : List (Addr × Obj)}
  {elt iter : Expr} {x : Str} {px : Pos} {ifs : List Expr} {scope : Scope} {cl : List (Str × Addr)} {pos : Pos}
structure CompOfO (prog : Program) (w : World) (A : Around) (env : Env) (scope : Scope) (cl : List (Str × Addr)) (x : Str) (ifs : List Expr) (elt : Expr) (b : Heap) (P : Nat → Value → Prop) (p : Value → Bool) (G : Value → Array Value → Prop) : Prop where
  tests : ∀ C i v (s₃ : Shared) m₃ E', P i v → Fr b C s₃.heap m₃ → m₃ x = some v →
    wpAny (model prog w) A (testsOf ifs (compEnvC scope cl C env)) (fun ok s₄ => ok = p v ∧ Keeps s₃ s₄) E' s₃
  elt : ∀ C i v (s₃ : Shared) m₃ E', P i v → p v = true → Fr b C s₃.heap m₃ → m₃ x = some v →
    wpAny (model prog w) A (eval elt (compEnvC scope cl C env)) (fun y s₄ => (∃ T its, y = .ref T ∧ s₃.heap.get? T = none ∧ s₄.heap.IsList T its ∧ G v its) ∧ Keeps s₃ s₄) E' s₃
def CompAtO (prog : Program) (w : World) (A : Around) (env : Env) (scope : Scope) (cl : List (Str × Addr)) (x : Str) (ifs : List Expr) (elt : Expr) (y : Str) (Q : Flow → Shared → Prop) (xv : Value) (s₁ : Shared) : Prop :=
  ∃ h₀ m news n P p G L', Iter prog w A L' s₁.heap xv n P ∧ n ≤ sizeLine ∧ Fr h₀ env.locals s₁.heap m ∧ News h₀ env.locals s₁.heap news ∧
      CompOfO prog w A env scope cl x ifs elt s₁.heap P p G ∧
      (∀ D ys c (vs : List Value) objs h' tk, Fr h₀ env.locals h' (fun z => if z = y then some (.ref D) else m z) → News h₀ env.locals h' ((D, lst ys c) :: (objs ++ news)) → s₁.heap.get? D = none → (∀ p ∈ objs, s₁.heap.get? p.1 = none ∧ p.1 ≠ D) → vs.length = n → (∀ j v, vs[j]? = some v → P j v) → Paired (LObj objs G) (vs.filter p) ys → Q .next { s₁ with heap := h', toks := tk })
theorem CompAtO.mk {Q : Flow → Shared → Prop} {y : Str} {xv : Value} {s₁ : Shared} {n : Nat} {P : Nat → Value → Prop} {L' : Addr} (p : Value → Bool) (G : Value → Array Value → Prop) (hL : env.locals = L) (F0 : Fr h₀ L s₁.heap m) (N0 : News h₀ L s₁.heap news) (hit : Iter prog w A L' s₁.heap xv n P) (hsz : n ≤ sizeLine)
    (tests : ∀ C i v (s₃ : Shared) m₃ E', P i v → Fr s₁.heap C s₃.heap m₃ → m₃ x = some v →
      wpAny (model prog w) A (testsOf ifs (compEnvC scope cl C env)) (fun ok s₄ => ok = p v ∧ Keeps s₃ s₄) E' s₃)
    (helt : ∀ C i v (s₃ : Shared) m₃ E', P i v → p v = true → Fr s₁.heap C s₃.heap m₃ → m₃ x = some v →
      wpAny (model prog w) A (eval elt (compEnvC scope cl C env)) (fun y s₄ => (∃ T its, y = .ref T ∧ s₃.heap.get? T = none ∧ s₄.heap.IsList T its ∧ G v its) ∧ Keeps s₃ s₄) E' s₃)
    (fin : ∀ D ys c (vs : List Value) objs h' tk, Fr h₀ L h' (fun z => if z = y then some (.ref D) else m z) → News h₀ L h' ((D, lst ys c) :: (objs ++ news)) → s₁.heap.get? D = none → (∀ p ∈ objs, s₁.heap.get? p.1 = none ∧ p.1 ≠ D) → vs.length = n → (∀ j v, vs[j]? = some v → P j v) → Paired (LObj objs G) (vs.filter p) ys → Q .next { s₁ with heap := h', toks := tk }) :
    CompAtO prog w A env scope cl x ifs elt y Q xv s₁ := by
  subst hL
  exact ⟨h₀, m, news, n, P, p, G, L', hit, hsz, F0, N0, ⟨tests, helt⟩, fin⟩
theorem comp_objs_assign {Q : Flow → Shared → Prop} {y : Str} {py spos : Pos}
    (hsw : swapsWith (.ListComp elt [⟨.Name x px, iter, ifs, 0⟩] scope pos) (some (.Name y py)) spos.line env = pure true)
    (hclos : closureFor scope env = pure cl) (hcell : ∀ z ∈ scope.names, z.2 ≠ .cell) (hkind : scope.kind = .function)
    (hnames : ∀ z ∈ scope.names, z.2 = .local → scope.names.lookup z.1 = some .local) (hx : scope.names.lookup x = some .local)
    (hy : env.kindOf y = some .local) (hp : (env.scope.kind == .class || (env.scope.kind == .module && env.locals != env.globals)) = false)
    (h : wpAny (model prog w) A (eval iter env) (fun xv s₁ => CompAtO prog w A env scope cl x ifs elt y Q xv s₁) E s)
    (hs : ∀ x, foldedSetIterable iter env x = pure x) :
    wpAny (model prog w) A (exec (.Assign [.Name y py] (.ListComp elt [⟨.Name x px, iter, ifs, 0⟩] scope pos) spos) env) Q E s := by
  rw [exec_Assign_Name_used _ _ _ _ hsw]
  refine wpAny_bind (wpAny_standAt (wpAny_bind ?_))
  show wpAny _ A (do let _ ← comprehension (.ListComp elt [⟨.Name x px, iter, ifs, 0⟩] scope pos) scope env _ (newList []) false (eval iter env) (some (assign (.Name y py) env))) _ _ s
  refine wpAny_bind (wpAny_mono (wpAny_comprehension_free (use := some (assign (.Name y py) env)) (Q := fun _ s' => Q .next s') rfl hs hclos hkind hnames
    (wpAny_mono h (fun xv s₁ h₁ => ?_) fun _ _ e => e)) (fun _ s' hq => wpAny_pure (wpAny_pure hq)) fun _ _ e => e)
  obtain ⟨h₀, m, news, n, P, p, G, L', hit, hsz, F0, N0, hq, hQ⟩ := h₁
  refine hit s₁ _ _ rfl fun I fp wr St h' tk W hLf hst e hsz' hwr hfp hlive => ?_
  refine comp_block_walkCO (RR := fun acc C => compPost (model prog w) A E (some (assign (.Name y py) env)) (fun _ s' => Q .next s') acc C) W hsz p G hlive hcell hkind hx hst hfp ⟨?_, ?_⟩ ?_
  · intro C i v s₃ m₃ E' hC hP hn hm hk _
    exact hq.tests C i v s₃ m₃ E' hP (fr_comp e hsz' hwr hC hn hk) hm
  · intro C i v s₃ m₃ E' hC hP hp hn hm hk _
    exact hq.elt C i v s₃ m₃ E' hP hp (fr_comp e hsz' hwr hC hn hk) hm
  · intro D C h'' tk' m' ys vs hD hC hDC hnC hl hpl hlen hP hF _ hk
    have ex₀ : Ext s₁.heap h'' := fun b o q => by
      have hb : b ∉ wr := fun hb => by rw [hwr b hb] at q; cases q
      exact hk b o hb (e b o q)
    have F1 := Fr.ext F0 ex₀
    have N1 := News.ext N0 ex₀
    obtain ⟨oL, es, ep, hLo, hLr⟩ := id F0.ns
    have hLC : env.locals ≠ C := by rintro rfl; have := e _ _ hLo; rw [hC] at this; cases this
    have hLD : env.locals ≠ D := by rintro rfl; have := e _ _ hLo; rw [hD] at this; cases this
    have old : ∀ {b}, h'.get? b = none → s₁.heap.get? b = none := fun {b} hb => by
      cases q : s₁.heap.get? b with
      | none => rfl
      | some o => have := e _ _ q; rw [hb] at this; cases this
    have hD' := old hD
    have hC' : ∀ b o, s₁.heap.get? b = some o → b ≠ C := by rintro b o q rfl; have := e _ _ q; rw [hC] at this; cases this
    show wpAny _ A (assign (.Name y py) env (.ref D)) _ _ _
    refine wpAny_assign_Name (wpAny_storeName_local hy F1.ns (fun h₂ hn₂ hs₂ => ?_) hp)
    refine ⟨m', hnC.sameBut hs₂ (Ne.symm hLC), fun h₃ hs₃ => ?_⟩
    have hpl₃ : h₃.PlainList D ys := (hpl.extBut hs₂.extBut (Ne.symm hLD)).extBut hs₃.extBut hDC
    obtain ⟨c, hg⟩ := hpl₃
    have F2 := F1.set hn₂ hs₂
    have F3 : Fr h₀ env.locals h₃ _ := ⟨hn₂.sameBut hs₃ hLC, fun b o q => hs₃.extBut b o (hC' b o (F0.keep b o q)) (F2.keep b o q), F2.above⟩
    have N3 : News h₀ env.locals h₃ news := fun q hq => ⟨hs₃.extBut _ _ (hC' _ _ (N0 q hq).1) ((N1.set hs₂) q hq).1, (N1 q hq).2⟩
    have hF₃ : Paired (fun v y => ∃ T its, y = .ref T ∧ (s₁.heap.get? T = none ∧ T ≠ D) ∧ h₃.IsList T its ∧ G v its) (vs.filter p) ys.toList := by
      refine paired_mono ?_ hF
      rintro v y ⟨T, its, rfl, h1, hTC, hTw, hTD, hTl, hG⟩
      have hTL : env.locals ≠ T := by rintro rfl; have := e _ _ hLo; rw [h1] at this; cases this
      exact ⟨T, its, rfl, ⟨old h1, hTD⟩, (hTl.at fun o e => hs₂.extBut T o (Ne.symm hTL) e).at fun o e => hs₃.extBut T o hTC e, hG⟩
    obtain ⟨objs, ho1, ho2⟩ := paired_objs hF₃
    refine hQ D ys.toList c vs objs h₃ _ F3 ?_ hD' (fun p hp => (ho1 p hp).1) hlen hP ho2
    refine News.add F0 ?_ hD' (by simpa using hg)
    intro q hq
    rcases List.mem_append.mp hq with hq | hq
    · obtain ⟨⟨h1, h2⟩, h3⟩ := ho1 q hq
      refine ⟨h3, ?_, ?_⟩
      · intro e; rw [e, hLo] at h1; cases h1
      · cases r : h₀.get? q.1 with
        | none => rfl
        | some o => have := F0.keep _ _ r; rw [h1] at this; cases this
    · exact N3 q hq
end
end Mine
end
section
open PySem PySem.W PySem.Calls PySem.Spec PyProof.Rows
set_option Elab.async false
namespace Mine
section
open PySem.Builtin
set_option maxRecDepth 100000
abbrev setTab (led full : Bool) : SetTable := { mask := 7, place := if full then #[0] else #[], dummies := #[], finger := 0, led := led, moves := 0, plain := true }
abbrev setEs (full : Bool) : Array (Int × Value) := if full then #[(0, .bool false)] else #[]
abbrev setObj (led full : Bool) : Obj := { cls := .type "set", dict := none, data := .set (setEs full) (if full then 1 else 0) (setTab led full) }
theorem lay_one (led : Bool) : layNew (setTab led false) (setEs false) 0 (.bool false) = (setEs true, setTab led true, false, false) := by
  cases led <;> decide +kernel
section
variable {prog : Program} {w : World} {A : Around} {E : Value → Shared → Prop} {s : Shared}
theorem hash_false {Q : Int → Shared → Prop} (h : ∀ k, Q 0 { s with toks := k }) : wpAny (model prog w) A (pyHash (.bool false)) Q E s := by
  unfold pyHash
  have hv : [Value.bool false].any Value.onHeap = false := rfl
  refine wpAny_bind ?_
  rw [cRoomFor, if_neg (by rw [hv]; exact Bool.false_ne_true)]; refine wpAny_pure ?_
  refine wpAny_bind (wpAny_specialOf (PySem.typeIs_bool s false) PySem.F.slot_bool_hash.lookup ?_)
  show wpAny _ _ (if (some (Value.builtin "int.__hash__") == some Value.none) = true then _ else _) Q E s
  rw [if_neg (by rw [beq_builtin_none]; exact Bool.false_ne_true)]
  refine wpAny_bind (wpAny_specialOf (PySem.typeIs_bool s false) PySem.F.slot_bool_hash.lookup ?_)
  show wpAny _ _ (callSpecialIfBoundUnlessNone? (.bool false) "__hash__" _ >>= _) Q E s
  refine wpAny_bind (wpAny_callSpecialIfBoundUnlessNone?_slot (PySem.typeIs_bool s false) PySem.F.slot_bool_hash
    (wpAny_call_entry PySem.F.slot_bool_hash (PySem.typeIs_bool s false) entry_int_hash
      (show wpAny _ _ (do ret (← mkInt 0)) _ _ s from wpAny_ret_mkInt ?_) (args_int_hash _)))
  exact wpAny_pure (h _)
theorem eq_false {Q : Bool → Shared → Prop} (h : Q true s) : wpAny (model prog w) A (eqBool (.bool false) (.bool false)) Q E s := by
  unfold eqBool
  repeat (any_goals (first | assumption | wp_step))
theorem fits_tab (led full : Bool) : (setTab led full).fits (setEs full).size = true := by cases led <;> cases full <;> decide +kernel
theorem set_add {D : Addr} {led full : Bool} {Q : Value → Shared → Prop} (hD : s.heap.get? D = some (setObj led full))
    (h : ∀ h' k, Heap.SameBut D s.heap h' → h'.get? D = some (setObj led true) → Q .none { s with heap := h', toks := k }) :
    wpAny (model prog w) A (call (.builtin "set.add") [.ref D, .bool false]) Q E s := by
  have hT : s.TypeIs (.ref D) "set" := ⟨_, hD, rfl⟩
  refine wpAny_call_entry F.slot_set_add hT F.entry_set_add ?_ (F.args_set_add_2 _ _)
  unfold Builtin.«set.add» Builtin.Frozenset.oneOther
  simp only [List.isEmpty_nil, bind_assoc]
  unfold Builtin.Frozenset.addrOf setAdd
  refine wpAny_bind (wpAny_pure ?_)
  try dsimp only
  refine wpAny_bind (wpAny_pure ?_)
  try dsimp only
  refine wpAny_bind ?_
  refine wpAny_holding ?_
  refine wpAny_bind (hash_false fun k => ?_)
  unfold setAddHashed setAddHashedIn
  refine wpAny_holding (wpAny_bind (wpAny_setState_of (s := { s with toks := k }) hD rfl (fits_tab led full) ?_))
  dsimp only
  rw [show byScan (.bool false) (setEs full) = true by cases full <;> decide +kernel]
  simp only [↓reduceIte]
  unfold setAddByScan
  refine wpAny_bind ?_
  refine wpAny_bind (wpAny_rule ?_)
  cases full with
  | true =>
    refine wpAny_bind (show wpAny _ _ (setScanFrom D (.bool false) 0 true [(0, .bool false)] 0) _ _ _ from ?_)
    unfold setScanFrom
    rw [if_pos (by decide)]
    refine wpAny_bind (wpAny_setEpoch_of (s := { s with toks := k }) hD rfl (fits_tab led true) ?_)
    refine wpAny_bind (eq_false ?_)
    simp only [Bool.and_self, ↓reduceIte]
    refine wpAny_pure ?_
    dsimp only
    refine wpAny_pure (wpAny_pure ?_)
    show wpAny _ _ (ret Value.none) _ _ _
    exact wpAny_pure ⟨_, rfl, h s.heap k (Heap.SameBut.refl D s.heap) hD⟩
  | false =>
    refine wpAny_bind (show wpAny _ _ (setScanFrom D (.bool false) 0 true [] 0) _ _ _ from ?_)
    unfold setScanFrom
    refine wpAny_pure ?_
    dsimp only
    rw [lay_one]
    dsimp only
    refine wpAny_bind (wpAny_of_eq (a := ()) (by rfl) ?_)
    rw [if_pos rfl]
    refine wpAny_bind (wpAny_of_eq (a := true) (by first | rfl | (simp only [hashByValue])) ?_)
    simp only [if_true]
    have hsame := Heap.SameBut.update s.heap D (Obj.putSet (setEs true) (setTab led true))
    have hget : (s.heap.update D (Obj.putSet (setEs true) (setTab led true))).get? D = some (setObj led true) := Heap.get?_update_self _ hD rfl
    refine wpAny_bind ?_
    unfold storeSet
    refine wpAny_bind (wpAny_load (s := { s with toks := k }) hD ?_)
    dsimp only
    rw [if_neg (by rw [sizeLine_eq]; decide)]
    refine wpAny_update (s := { s with toks := k }) hD ?_
    rw [show (setTab led true).tooFull = false by cases led <;> decide +kernel]
    rw [if_neg (by simp)]
    refine wpAny_pure ?_
    dsimp only
    refine wpAny_pure ?_
    show wpAny _ _ (ret Value.none) _ _ _
    exact wpAny_pure ⟨_, rfl, h _ k hsame hget⟩
theorem se_slot_next : Slot "set_iterator" "__next__" "set_iterator.__next__" :=
  .of (owner := "set_iterator") (n := "__next__") (by rw [typeLookup_type, builtinLookup_eq_fast]; kernel_rfl) (by decide +kernel) (by decide +kernel) (by decide +kernel)
    (by first | exact .inl (by decide +kernel) | exact .inr (by decide +kernel)) (by rw [isSubtype_type]; kernel_rfl)
theorem se_entry_next : entryFor table "set_iterator.__next__" = some Builtin.«set_iterator.__next__» := entryFor_of_tree (by kernel_rfl)
theorem se_args_next (a : Value) : argsOk "set_iterator.__next__" ⟨[a], []⟩ := by unfold argsOk; kernel_rfl
theorem se_entry_iter : entryFor table "set.__iter__" = some Builtin.«frozenset.__iter__» :=
  entryFor_alias (id' := "frozenset.__iter__") (by kernel_rfl) (by first | rfl | decide +kernel) (by decide +kernel) (by kernel_rfl)
theorem new_set {Q : Value → Shared → Prop} (h : Q (.ref s.heap.objs.size) { s with heap := s.heap.push (setObj (!w.params.followText "set-order") false) }) : wpAny (model prog w) A (newSet (.type "set")) Q E s := by
  unfold newSet setsByText
  refine wpAny_bind (wpAny_bind (wpAny_askSetting (wpAny_pure ?_)))
  dsimp only
  simp only [newObj]
  exact wpAny_bind (wpAny_alloc (wpAny_pure h))
abbrev setIter (D : Addr) (sl gv : Nat) : Obj := { cls := .type "set_iterator", data := .fields #[rawInt sl, rawInt gv, .ref D, rawInt 1, rawInt 1] }
theorem set_iter {D : Addr} {led : Bool} {Q : Value → Shared → Prop} (hD : s.heap.get? D = some (setObj led true)) (h : Q (.ref s.heap.objs.size) { s with heap := s.heap.push (setIter D 0 0) }) :
    wpAny (model prog w) A (pyIter (.ref D)) Q E s := by
  have hT : s.TypeIs (.ref D) "set" := ⟨_, hD, rfl⟩
  refine wpAny_pyIter_slot hT F.slot_set_iter (wpAny_call_entry F.slot_set_iter hT se_entry_iter ?_ (F.args_set_iter_1 _))
  unfold Builtin.«frozenset.__iter__» Builtin.Frozenset.slot0 Builtin.Frozenset.sizeOf Builtin.Frozenset.addrOf
  refine wpAny_bind (wpAny_of_eq (a := D) (by rfl) ?_)
  refine wpAny_bind ?_
  unfold setEntries
  refine wpAny_bind (wpAny_bind (wpAny_setState_of hD rfl (fits_tab led true) (wpAny_pure (wpAny_pure ?_))))
  refine wpAny_bind ?_
  unfold setDrawn
  refine wpAny_bind (wpAny_setState_of hD rfl (fits_tab led true) ?_)
  dsimp only
  unfold setsByText
  refine wpAny_bind (wpAny_bind (wpAny_askSetting (wpAny_pure ?_)))
  refine wpAny_pure ?_
  rw [if_neg (by intro hc; dsimp only at hc; cases hb : (model prog w).w.params.followText "set-order" <;> cases led <;> (rw [hb] at hc; revert hc; decide))]
  refine wpAny_bind (wpAny_pure ?_)
  refine wpAny_bind (wpAny_setEpoch_of hD rfl (fits_tab led true) ?_)
  refine wpAny_bind (wpAny_newObj_type (wpAny_pure ⟨_, rfl, "set_iterator", _, ⟨_, Heap.get?_push_size _ rfl, rfl⟩, se_slot_next.lookup, h⟩))
theorem pick_one {f : Nat → Nat} : pickOrder f (setEs true) = setEs true := by
  unfold pickOrder
  show pickOrder.go _ 1 0 [(0, Value.bool false)] #[] = _
  unfold pickOrder.go
  have e2 : f 0 % [((0 : Int), Value.bool false)].length = 0 := Nat.mod_one _
  rw [e2]
  rfl
theorem setNext_text {D : Addr} {sl gv : Nat} {r : Option (Value × Nat)} {Q : Option (Value × Nat) → Shared → Prop} (hD : s.heap.get? D = some (setObj (!w.params.followText "set-order") true)) (hb : w.params.followText "set-order" = true)
    (hr : (setEs true)[gv]?.map (fun e => (e.2, sl)) = r) (h : Q r s) : wpAny (model prog w) A (setNext D sl gv 1) Q E s := by
  subst hr
  rw [hb] at hD
  have hb' : (model prog w).w.params.followText "set-order" = true := hb
  unfold setNext setsByText setWalk
  refine wpAny_bind (wpAny_setState_of hD rfl (fits_tab false true) ?_)
  dsimp only
  refine wpAny_bind (wpAny_bind (wpAny_askSetting (wpAny_pure ?_)))
  dsimp only
  rw [hb', if_pos rfl, if_neg (by decide)]
  refine wpAny_bind (wpAny_bind (wpAny_setState_of hD rfl (fits_tab false true) ?_))
  dsimp only
  refine wpAny_bind (wpAny_bind (wpAny_askSetting (wpAny_pure ?_)))
  dsimp only
  rw [hb', if_pos rfl]
  refine wpAny_bind (wpAny_askSetting (wpAny_pure ?_))
  dsimp only
  rw [show (if true = true then 1 else 0) = 1 from rfl, pick_one]
  exact wpAny_pure h
theorem setNext_led {D : Addr} {sl gv : Nat} {r : Option (Value × Nat)} {Q : Option (Value × Nat) → Shared → Prop} (hD : s.heap.get? D = some (setObj (!w.params.followText "set-order") true)) (hb : w.params.followText "set-order" = false)
    (hr : (match (setEs true)[SetTable.below #[0] sl]?, (#[0] : Array Nat)[SetTable.below #[0] sl]? with | some (_, x), some j => some (x, j + 1) | _, _ => none) = r) (h : Q r s) : wpAny (model prog w) A (setNext D sl gv 1) Q E s := by
  subst hr
  rw [hb] at hD
  have hb' : (model prog w).w.params.followText "set-order" = false := hb
  unfold setNext setsByText setWalk
  refine wpAny_bind (wpAny_setState_of hD rfl (fits_tab true true) ?_)
  dsimp only
  refine wpAny_bind (wpAny_bind (wpAny_askSetting (wpAny_pure ?_)))
  dsimp only
  rw [hb', if_neg (by decide), if_neg (by decide)]
  refine wpAny_bind (wpAny_of_eq (a := ()) (by rfl) ?_)
  exact wpAny_pure h
/-- the iterator's one item, then its end -/
theorem set_next {D I : Addr} {Q : Option Value → Shared → Prop} (hD : s.heap.get? D = some (setObj (!w.params.followText "set-order") true)) (hI : s.heap.get? I = some (setIter D 0 0)) (hDI : D ≠ I)
    (h : ∀ h', Heap.SameBut I s.heap h' → h'.get? I = some (setIter D (if w.params.followText "set-order" then 0 else 1) 1) → Q (some (.bool false)) { s with heap := h' }) :
    wpAny (model prog w) A (pyNext (.ref I)) Q E s := by
  have hT : s.TypeIs (.ref I) "set_iterator" := ⟨_, hI, rfl⟩
  unfold pyNext
  refine wpAny_bind (wpAny_attempt (wpAny_callSpecial?_slot (name := Str.ofString "__next__") hT se_slot_next (wpAny_call_entry se_slot_next hT se_entry_next ?_ (se_args_next _))))
  unfold Builtin.«set_iterator.__next__»
  refine wpAny_bind (wpAny_of_eq (a := (Value.ref I, [])) (by rfl) ?_)
  dsimp only
  refine wpAny_bind (wpAny_fieldsOf hI rfl ?_)
  dsimp only [rawInt]
  unfold setEntries
  refine wpAny_bind (wpAny_bind (wpAny_setState_of hD rfl (fits_tab _ true) (wpAny_pure ?_)))
  rw [if_neg (show ¬ (((setEs true).size : Int) != 1) = true by decide)]
  cases hb : w.params.followText "set-order" with
  | true =>
    rw [hb] at h
    refine wpAny_bind (setNext_text hD hb (r := some (.bool false, 0)) (by rfl) ?_)
    dsimp only
    refine wpAny_bind (wpAny_setField_rec hI (by simp) fun h1 hI1 hs1 => ?_)
    refine wpAny_bind (wpAny_setField_rec hI1 (by simp) fun h2 hI2 hs2 => ?_)
    exact wpAny_pure ⟨_, rfl, wpAny_pure (h h2 (hs1.trans hs2) hI2)⟩
  | false =>
    rw [hb] at h
    refine wpAny_bind (setNext_led hD hb (r := some (.bool false, 1)) (by decide +kernel) ?_)
    dsimp only
    refine wpAny_bind (wpAny_setField_rec hI (by simp) fun h1 hI1 hs1 => ?_)
    refine wpAny_bind (wpAny_setField_rec hI1 (by simp) fun h2 hI2 hs2 => ?_)
    exact wpAny_pure ⟨_, rfl, wpAny_pure (h h2 (hs1.trans hs2) hI2)⟩
theorem set_end {D I : Addr} {Q : Option Value → Shared → Prop} (hh : A.handled = none) (hD : s.heap.get? D = some (setObj (!w.params.followText "set-order") true)) (hI : s.heap.get? I = some (setIter D (if w.params.followText "set-order" then 0 else 1) 1))
    (h : ∀ h', Heap.ExtBut I s.heap h' → Q none { s with heap := h' }) :
    wpAny (model prog w) A (pyNext (.ref I)) Q E s := by
  have hT : s.TypeIs (.ref I) "set_iterator" := ⟨_, hI, rfl⟩
  unfold pyNext
  refine wpAny_bind (wpAny_attempt (wpAny_callSpecial?_slot (name := Str.ofString "__next__") hT se_slot_next (wpAny_call_entry se_slot_next hT se_entry_next ?_ (se_args_next _))))
  unfold Builtin.«set_iterator.__next__»
  refine wpAny_bind (wpAny_of_eq (a := (Value.ref I, [])) (by rfl) ?_)
  dsimp only
  refine wpAny_bind (wpAny_fieldsOf hI rfl ?_)
  dsimp only [rawInt]
  unfold setEntries
  refine wpAny_bind (wpAny_bind (wpAny_setState_of hD rfl (fits_tab _ true) (wpAny_pure ?_)))
  rw [if_neg (show ¬ (((setEs true).size : Int) != 1) = true by decide)]
  have fin : wpAny (model prog w) A.in1 (setField (.ref I) 2 .none >>= fun _ => newExc (.type "StopIteration") [] >>= fun e => raiseNew e) (fun fin s' => ∃ v, fin = Fin.done (Flow.ret v) ∧ wpAny (model prog w) A (pure (some v)) Q E s') (fun e s' => wpAny (model prog w) A (do if (← isInstance e (.type "StopIteration")) then pure none else throw e) Q E s') s := by
    refine wpAny_bind (wpAny_setField_rec hI (by simp) fun h1 hI1 hs1 => ?_)
    refine wpAny_bind ?_
    simp only [newExc, newTuple]
    refine wpAny_bind (wpAny_newObj_type ?_ (by size_fits))
    refine wpAny_bind (m := firstArgMember _ _) (wpAny_of_eq (a := Value.none) (by first | rfl | (simp only [firstArgMember]; rfl)) ?_)
    refine wpAny_newObj_type ?_ (by size_fits)
    simp only [raiseNew]
    refine wpAny_bind (wpAny_handled ?_)
    first | rw [show A.in1.handled = none from hh] | rw [hh]
    refine wpAny_bind (wpAny_pure (wpAny_throw ?_))
    refine wpAny_bind (wpAny_isInstance (T := "StopIteration") (b := true) ⟨_, Heap.get?_push_size _ rfl, rfl⟩ isSubtype_stop ?_)
    exact wpAny_pure (h _ ((hs1.extBut.push _).push _))
  cases hb : w.params.followText "set-order" with
  | true =>
    refine wpAny_bind (setNext_text hD hb (r := none) (by rfl) ?_)
    dsimp only
    exact fin
  | false =>
    refine wpAny_bind (setNext_led hD hb (r := none) (by decide +kernel) ?_)
    dsimp only
    exact fin
/-- x, = {False} -/
theorem set_unpack {D : Addr} {Q : List Value → Shared → Prop} (hh : A.handled = none) (hD : s.heap.get? D = some (setObj (!w.params.followText "set-order") true))
    (h : ∀ h', (∀ b o, s.heap.get? b = some o → h'.get? b = some o) → Q [.bool false] { s with heap := h' }) :
    wpAny (model prog w) A (unpackItems (.ref D) 1 none) Q E s := by
  have hT : s.TypeIs (.ref D) "set" := ⟨_, hD, rfl⟩
  have hDI : D ≠ s.heap.objs.size := Nat.ne_of_lt (Heap.lt_size hD)
  unfold unpackItems
  refine wpAny_bind ?_
  unfold notIterableAtAll
  refine wpAny_bind (wpAny_specialOf hT F.slot_set_iter.lookup ?_)
  refine wpAny_pure ?_
  simp only [Bool.false_eq_true, if_false]
  refine wpAny_bind (wpAny_holding (set_iter hD ?_))
  refine wpAny_bind (wpAny_holding ?_)
  show wpAny _ _ (pyNext (.ref s.heap.objs.size) >>= _) _ _ _
  refine wpAny_bind (set_next (Heap.get?_push_of_some _ hD) (Heap.get?_push_size _ rfl) hDI fun h1 hs1 hI1 => ?_)
  refine wpAny_bind (wpAny_holding (wpAny_pure (wpAny_pure ?_)))
  rw [if_neg (by decide)]
  refine wpAny_bind (wpAny_holding (set_end hh ((hs1.2 _ hDI).trans (Heap.get?_push_of_some _ hD)) hI1 fun h2 he2 => ?_))
  simp only [Option.isSome_none, Bool.false_eq_true, if_false]
  refine wpAny_pure (h h2 fun b o e => ?_)
  have hb : b ≠ s.heap.objs.size := Nat.ne_of_lt (Heap.lt_size e)
  exact he2 b o hb ((hs1.2 b hb).trans (Heap.get?_push_of_some _ e))
end
end
end Mine
end
section
open PySem PySem.W PySem.Calls PySem.Spec PyProof.Rows
set_option Elab.async false
namespace Mine
section
theorem compTurn_set1 (elt target iter : Expr) (scope : Scope) (pos : Pos) (it acc : Value) (env : Env) :
    compTurn (.SetComp elt [⟨target, iter, [], 0⟩] scope pos) 0 it acc env = (standAt iter.pos >>= fun _ => pyNext it >>= fun r => match r with
      | none => pure (.done .next)
      | some v => letOwnedTupleGo target it v >>= fun _ => assign target env v >>= fun _ =>
        (eval elt env >>= fun x => standAt elt.pos >>= fun _ => call (.builtin "set.add") [acc, x] >>= fun _ => pure ()) >>= fun _ =>
          again (.compLoop (.SetComp elt [⟨target, iter, [], 0⟩] scope pos) 0 it acc env)) := by rfl
variable {prog : Program} {w : World} {A : Around} {E : Value → Shared → Prop} {R : Result → Shared → Prop} {s : Shared}
theorem set_loop {elt target iter : Expr} {scope : Scope} {pos : Pos} {it acc : Value} {env : Env} (I : Nat → Shared → Prop)
    (turn : ∀ n s, I n s → wpAny (model prog w) A (pyNext it) (fun r s₁ => match r with
      | none => R (.ok .next) s₁
      | some v => wpAny (model prog w) A (assign target env v) (fun _ s₂ =>
          wpAny (model prog w) A (eval elt env) (fun x s₄ =>
              wpAny (model prog w) A (call (.builtin "set.add") [acc, x]) (fun _ s₅ => ∃ m, m < n ∧ I m s₅) (notedBy (model prog w) A env fun e s' => R (.error e) s') s₄) (notedBy (model prog w) A env fun e s' => R (.error e) s') s₂) (notedBy (model prog w) A env fun e s' => R (.error e) s') s₁) (notedBy (model prog w) A env fun e s' => R (.error e) s') s)
    (n : Nat) (h : I n s) (ht : ∀ v, letOwnedTupleGo target it v = pure () := by intro _; rfl) :
    codeAny (model prog w) A (.compLoop (.SetComp elt [⟨target, iter, [], 0⟩] scope pos) 0 it acc env) R s := by
  refine codeAny_loop rfl I (fun n s hI => ?_) n h
  show wpAny _ A ((compTurn (.SetComp elt [⟨target, iter, [], 0⟩] scope pos) 0 it acc env).onRaise (fun x => do noteFrame x env; theTreesLotGoes x)) _ _ s
  refine wpAny_noted ?_
  rw [compTurn_set1]
  refine wpAny_bind (wpAny_standAt (wpAny_bind (wpAny_mono (turn n s hI) (fun r s₁ h₁ => ?_) fun _ _ h' => h')))
  cases r with
  | none => exact wpAny_pure h₁
  | some v =>
    refine wpAny_bind (wpAny_of_eq (ht v) ?_)
    refine wpAny_bind (wpAny_mono h₁ (fun _ s₂ h₂ => ?_) fun _ _ h' => h')
    refine wpAny_bind (wpAny_bind (wpAny_mono h₂ (fun x s₄ h₄ => ?_) fun _ _ h' => h'))
    refine wpAny_bind (wpAny_standAt (wpAny_bind (wpAny_mono h₄ (fun _ s₅ h₅ => ?_) fun _ _ h' => h')))
    exact wpAny_pure (wpAny_pure ⟨rfl, h₅⟩)
theorem set_start {elt target iter ifs rest scope pos it acc env}
    (h0 : codeAny (model prog w) A (.compLoop (.SetComp elt (⟨target, iter, ifs, 0⟩ :: rest) scope pos) 0 it acc env) R s)
    (h : wpAny (model prog w) A (pyIter it) (fun it' s' => codeAny (model prog w) A (.compLoop (.SetComp elt (⟨target, iter, ifs, 0⟩ :: rest) scope pos) 0 it' acc env) R s')
      (notedBy (model prog w) A env fun x s' => R (.error x) s') s) :
    codeAny (model prog w) A (.compStart (.SetComp elt (⟨target, iter, ifs, 0⟩ :: rest) scope pos) 0 it acc env) R s := by
  refine codeAny_of_tree ?_
  show wpAny _ _ ((compStart (.SetComp elt (⟨target, iter, ifs, 0⟩ :: rest) scope pos) 0 it acc env).onRaise (fun x => do noteFrame x env; standAt theWindowsPlace)) _ _ s
  refine wpAny_notedAt ?_
  unfold compStart
  show wpAny _ _ (ask >>= _) _ _ s
  refine wpAny_bind (wpAny_askSetting (wpAny_ite ?_))
  split
  · first
      | exact wpAny_bind (wpAny_pure (wpAny_pure (And.intro rfl h0)))
      | exact wpAny_pure (And.intro rfl h0)
  · first
      | exact wpAny_bind (wpAny_rule (wpAny_bind (wpAny_standAt (wpAny_bind (wpAny_mono h (fun it' s' h' => wpAny_pure (And.intro rfl h')) fun _ _ x => x)))))
      | (refine wpAny_bind (wpAny_rule ?_); show wpAny _ _ (standAt iter.pos >>= _) _ _ s; exact wpAny_bind (wpAny_standAt (wpAny_bind (wpAny_mono h (fun it' s' h' => wpAny_pure (And.intro rfl h')) fun _ _ x => x))))
end
section
variable {prog : Program} {w : World} {A : Around} {E : Value → Shared → Prop} {s : Shared} {env : Env} {h₀ : Heap} {L : Addr} {m : Str → Option Value} {news : List (Addr × Obj)}
  {elt iter : Expr} {x : Str} {px : Pos} {scope : Scope} {cl : List (Str × Addr)} {pos : Pos}
abbrev ledSet (w : World) : Obj := setObj (!w.params.followText "set-order") true
def SetAt (prog : Program) (w : World) (A : Around) (env : Env) (scope : Scope) (cl : List (Str × Addr)) (x : Str) (elt : Expr) (Q : Value → Shared → Prop) (xv : Value) (s₁ : Shared) : Prop :=
  ∃ h₀ L m news n P L', Iter prog w A L' s₁.heap xv n P ∧ 0 < n ∧ Fr h₀ L s₁.heap m ∧ News h₀ L s₁.heap news ∧
    (∀ C i v (s₃ : Shared) m₃ E', P i v → Fr s₁.heap C s₃.heap m₃ → m₃ x = some v → wpAny (model prog w) A (eval elt (compEnvC scope cl C env)) (fun y s₄ => y = .bool false ∧ Keeps s₃ s₄) E' s₃) ∧
    (∀ D h' tk, Fr h₀ L h' m → News h₀ L h' ((D, ledSet w) :: news) → Ext s₁.heap h' → s₁.heap.get? D = none → Q (.ref D) { s₁ with heap := h', toks := tk })
theorem SetAt.mk {Q : Value → Shared → Prop} {xv : Value} {s₁ : Shared} {n : Nat} {P : Nat → Value → Prop} {L' : Addr} (F0 : Fr h₀ L s₁.heap m) (N0 : News h₀ L s₁.heap news) (hit : Iter prog w A L' s₁.heap xv n P) (hsz : 0 < n)
    (helt : ∀ C i v (s₃ : Shared) m₃ E', P i v → Fr s₁.heap C s₃.heap m₃ → m₃ x = some v → wpAny (model prog w) A (eval elt (compEnvC scope cl C env)) (fun y s₄ => y = .bool false ∧ Keeps s₃ s₄) E' s₃)
    (fin : ∀ D h' tk, Fr h₀ L h' m → News h₀ L h' ((D, ledSet w) :: news) → Ext s₁.heap h' → s₁.heap.get? D = none → Q (.ref D) { s₁ with heap := h', toks := tk }) :
    SetAt prog w A env scope cl x elt Q xv s₁ := ⟨h₀, L, m, news, n, P, L', hit, hsz, F0, N0, helt, fin⟩
theorem comp_set {Q : Value → Shared → Prop}
    (hclos : closureFor scope env = pure cl) (hcell : ∀ y ∈ scope.names, y.2 ≠ .cell) (hkind : scope.kind = .function)
    (hnames : ∀ y ∈ scope.names, y.2 = .local → scope.names.lookup y.1 = some .local) (hx : scope.names.lookup x = some .local)
    (h : wpAny (model prog w) A (eval iter env) (fun xv s₁ => SetAt prog w A env scope cl x elt Q xv s₁) E s)
    (hs : ∀ x, foldedSetIterable iter env x = pure x) :
    wpAny (model prog w) A (eval (.SetComp elt [⟨.Name x px, iter, [], 0⟩] scope pos) env) Q E s := by
  rw [show eval (.SetComp elt [⟨.Name x px, iter, [], 0⟩] scope pos) env = comprehension (.SetComp elt [⟨.Name x px, iter, [], 0⟩] scope pos) scope env (firstIterPos [⟨.Name x px, iter, [], 0⟩] pos) (newSet (.type "set")) false (eval iter env) from by rw [arm_eval_SetComp]; rfl]
  refine wpAny_comprehension_free (use := none) rfl hs hclos hkind hnames (wpAny_mono h (fun xv s₁ h₁ => ?_) fun _ _ e => e)
  obtain ⟨h₀, L, m, news, n, P, L', hit, hn0, F0, N0, hq, hQ⟩ := h₁
  refine hit s₁ _ _ rfl fun I fp wr St h' tk W hLf hst e hsz' hwr hfp hlive => ?_
  refine new_set (w := w) (wpAny_newFunctionEnv hcell (by intro y hy; simp at hy) (fun h₁ hns₁ hsb₁ => ?_) hkind)
  dsimp only at hns₁ hsb₁ ⊢
  generalize hH2 : h'.push (setObj (!w.params.followText "set-order") false) = H2 at hns₁ hsb₁ ⊢
  have hC : H2.objs.size = h'.objs.size + 1 := by rw [← hH2, Heap.size_push]
  have hDC : h'.objs.size ≠ H2.objs.size := by rw [hC]; exact Nat.ne_of_lt (Nat.lt_succ_self _)
  have below : ∀ b, b < h'.objs.size → b ≠ H2.objs.size ∧ b ≠ h'.objs.size := fun b hb => ⟨by rw [hC]; exact Nat.ne_of_lt (Nat.lt_succ_of_lt hb), Nat.ne_of_lt hb⟩
  have hDf : h'.objs.size ∉ fp := fun hm => Nat.lt_irrefl _ (hfp _ hm)
  have hCf : H2.objs.size ∉ fp := fun hm => by have := hfp _ hm; rw [hC] at this; exact Nat.lt_irrefl _ (Nat.lt_of_succ_lt this)
  have old : ∀ b o, h'.get? b = some o → h₁.get? b = some o := fun b o e => hsb₁.extBut b o (below b (Heap.lt_size e)).1 (Heap.get?_push_of_some _ (hH2 ▸ Heap.get?_push_of_some _ e))
  have hacc : h₁.get? h'.objs.size = some (setObj (!w.params.followText "set-order") false) := hsb₁.extBut _ _ hDC (Heap.get?_push_of_some _ (hH2 ▸ Heap.get?_push_size _ rfl))
  have hst₁ : St 0 h₁ := W.frame _ _ _ hst fun b _ o e => old b o e
  have hCw : H2.objs.size ∉ wr := fun h => hCf (W.sub _ h)
  have hDw : h'.objs.size ∉ wr := fun h => hDf (W.sub _ h)
  have loop : ∀ s₃ : Shared, s₃ = { s₁ with heap := h₁, toks := tk + ([] : List (Str × Value)).length } →
      codeAny (model prog w) A (.compLoop (.SetComp elt [⟨.Name x px, iter, [], 0⟩] scope pos) 0 (.ref I) (.ref h'.objs.size) (compEnvC scope cl H2.objs.size env))
        (compPost (model prog w) A E none Q (.ref h'.objs.size) H2.objs.size) s₃ := by
    rintro s₃ rfl
    refine set_loop (fun k s' => ∃ g tk m' full i, s' = { s₁ with heap := g, toks := tk } ∧ St i g ∧ g.get? h'.objs.size = some (setObj (!w.params.followText "set-order") full) ∧ g.Ns H2.objs.size m' ∧ (0 < i → full = true) ∧ i ≤ n ∧ k = n + 1 - i ∧
      (∀ b o, b ∉ wr → h'.get? b = some o → g.get? b = some o)) ?_ (n + 1) ⟨h₁, _, _, false, 0, rfl, hst₁, hacc, hns₁, by omega, Nat.zero_le _, rfl, fun b o _ e => old b o e⟩
    rintro k s' ⟨g, tk, m', full, i, rfl, hst', hD', hn', hfull, hi, rfl, hk⟩
    by_cases hlt : i < n
    · refine W.item i _ _ _ hlt hst' fun v g₁ tk₁ hPv hst₁ hk₁ => ?_
      refine wpAny_assign_Name (wpAny_storeName_local (lookup_relabel_local hx) (hn'.at' fun o e => hk₁ _ o hCw e) (fun g₂ hn₂ hs₂ => ?_) (by simp [compEnvC, relabel, hkind]))
      have up₂ : ∀ b o, b ∉ wr → h'.get? b = some o → g₂.get? b = some o := fun b o hbf e => hs₂.extBut b o (below b (Heap.lt_size e)).1 (hk₁ b o hbf (hk b o hbf e))
      have hst₂ : St (i + 1) g₂ := W.frame _ _ _ hst₁ fun b hb o e => hs₂.extBut b o (fun (h : b = H2.objs.size) => hCf (h ▸ hb)) e
      have hD₂ : g₂.get? h'.objs.size = some (setObj (!w.params.followText "set-order") full) := hs₂.extBut _ _ hDC (hk₁ _ _ hDw hD')
      refine wpAny_mono (hq _ i v _ _ _ hPv (fr_comp (s₁ := s₁) (h' := h') e hsz' hwr (by rw [hC]; exact Nat.le_succ _) hn₂ up₂) (by simp)) (fun y s₄ h₄ => ?_) fun _ _ e => e
      obtain ⟨rfl, g₃, tk₃, rfl, hk₃⟩ := h₄
      refine set_add (hk₃ _ _ hD₂) fun g₄ tk₄ hs₄ hD₄ => ?_
      refine ⟨n + 1 - (i + 1), by omega, g₄, tk₄, _, true, i + 1, rfl, ?_, hD₄, (hn₂.keeps hk₃).sameBut hs₄ (Ne.symm hDC), fun _ => rfl, hlt, rfl, fun b o hbf e => hs₄.extBut b o (below b (Heap.lt_size e)).2 (hk₃ b o (up₂ b o hbf e))⟩
      exact W.frame _ _ g₄ hst₂ fun b hb o e => hs₄.extBut b o (fun h => hDf (h ▸ hb)) (hk₃ b o e)
    · obtain rfl : i = n := by omega
      refine W.done _ _ _ hst' fun g₁ tk₁ hk₁ => ?_
      obtain rfl := hfull hn0
      refine ⟨m', hn'.at' fun o e => hk₁ _ o hCw e, fun g₂ hs₂ => ?_⟩
      have old₁ : ∀ {b}, h'.get? b = none → s₁.heap.get? b = none := fun {b} hb => by
        cases q : s₁.heap.get? b with
        | none => rfl
        | some o => have := e _ _ q; rw [hb] at this; cases this
      have ex : Ext s₁.heap g₂ := fun b o q => by
        have q' := e b o q
        have hb : b ∉ wr := fun hb => by rw [hwr b hb] at q; cases q
        exact hs₂.extBut b o (below b (Heap.lt_size q')).1 (hk₁ b o hb (hk b o hb q'))
      have hD₂ : g₂.get? h'.objs.size = some (ledSet w) := hs₂.extBut _ _ hDC (hk₁ _ _ hDw hD')
      have hDn : s₁.heap.get? h'.objs.size = none := old₁ (none_size _)
      exact hQ _ g₂ tk₁ (Fr.ext F0 ex) (News.add F0 (News.ext N0 ex) hDn hD₂) ex hDn
  exact set_start (loop _ rfl) (W.self 0 _ _ _ hst₁ (loop _ rfl))
end
end Mine
end
section
open PySem PySem.W PySem.Calls PySem.Spec PyProof.Rows
set_option Elab.async false
namespace Mine
section
variable {prog : Program} {w : World} {A : Around} {E : Value → Shared → Prop} {s : Shared} {env : Env} {h₀ : Heap}
/-- for i, x in enumerate(a list of the ledger) -/
theorem enum_list {L l : Addr} {vs : List Value} {xi xc : Str} {body : List Stmt} {Q : Flow → Shared → Prop} {m : Str → Option Value} {news : List (Addr × Obj)} (J : Nat → (Str → Option Value) → Prop)
    (hh : A.handled = none) (hl : s.heap.IsList l vs.toArray) (hlL : l ≠ L) (F : Fr h₀ L s.heap m) (N : News h₀ L s.heap news) (hj : J 0 m)
    (turn : ∀ i v t m₁ h tk own, vs[i]? = some v → J i m₁ → Fr h₀ L h (fun y => if y = xc then some v else if y = xi then some (.int (i : Int) t) else m₁ y) → News h₀ L h (own ++ news) →
      wpAny (model prog w) A (execs body env) (InvPost h₀ L (J (i + 1)) (own ++ news) { s with heap := h, toks := tk } Q) E { s with heap := h, toks := tk })
    (done : ∀ m₁ h tk, J vs.length m₁ → Fr h₀ L h m₁ → News h₀ L h news → Q .next { s with heap := h, toks := tk })
    (hL : env.locals = L) :
    wpAny (model prog w) A (call (.type "enumerate") [.ref l]) (fun xv s₁ => wpAny (model prog w) A (pyIter xv) (fun it s₂ => PairAt3 prog w A h₀ env xi xc body Q E it s₂) E s₁) E s := by
  subst hL
  refine call_enumerate_list hl fun h' he hit hsz hk => ?_
  obtain ⟨ol, hol, _⟩ := id hl
  have hls : l < s.heap.objs.size := Heap.lt_size hol
  have hLs := F.ns.lt
  have hab : h₀.objs.size ≤ env.locals := F.above
  have F' : Fr h₀ env.locals h' m := ⟨F.ns.keeps hk, fun b o e => hk b o (F.keep b o e), F.above⟩
  have N' : News h₀ env.locals h' news := fun p hp => ⟨hk _ _ (N p hp).1, (N p hp).2⟩
  have hsize : vs.toArray.size = vs.length := by simp
  refine wpAny_pyIter_enum he ⟨s.heap.objs.size + 1, [s.heap.objs.size + 1, s.heap.objs.size, l], [s.heap.objs.size + 1, s.heap.objs.size], vs.toArray.size, _, _, _, (fun i v0 v1 => ∃ t, v0 = .int i t ∧ vs[i]? = some v1), m, news, (fun i m₁ news₁ => news₁ = news ∧ J i m₁), rfl,
    WalksT.enumerate hh _ _ l (Nat.succ_ne_self _) (Nat.ne_of_lt (Nat.lt_succ_of_lt hls)) (Nat.ne_of_lt hls) vs.toArray, ?_, ?_, ?_, ?_, ⟨⟨_, by simpa using he⟩, hit, hl.at fun o e => hk l o e⟩, F', N', ⟨rfl, hj⟩, ?_, ?_⟩
  · rintro i vals ⟨t, x, hx, rfl⟩
    exact ⟨_, _, rfl, t, rfl, by simpa using hx⟩
  · intro hm
    rcases List.mem_cons.mp hm with e | hm
    · exact Nat.ne_of_lt (Nat.lt_succ_of_lt hLs) e
    · rcases List.mem_cons.mp hm with e | hm
      · exact Nat.ne_of_lt hLs e
      · exact hlL (List.mem_singleton.mp hm).symm
  · intro b hb
    have : s.heap.objs.size ≤ b := by
      rcases List.mem_cons.mp hb with e | hb
      · rw [e]; exact Nat.le_succ _
      · rw [List.mem_singleton.mp hb]; exact Nat.le_refl _
    exact Heap.get?_none_of_le (Nat.le_trans hab (Nat.le_trans (Nat.le_of_lt hLs) this))
  · intro p hp hb
    have hq1 : p.1 < s.heap.objs.size := Heap.lt_size (N p hp).1
    rcases List.mem_cons.mp hb with e | hb
    · rw [e] at hq1; exact Nat.not_lt.mpr (Nat.le_succ _) hq1
    · rw [List.mem_singleton.mp hb] at hq1; exact Nat.lt_irrefl _ hq1
  · rintro i v0 v1 m₁ news₁ s₁ own ⟨g, tk, rfl⟩ _ ⟨t, rfl, hv⟩ ⟨rfl, hJ⟩ _ _ F₁ N₁
    refine wpAny_mono (turn i v1 t m₁ g tk own hv hJ F₁ N₁) (fun f s₂ p => ?_) fun _ _ e => e
    have fin : InvEnd h₀ env.locals (J (i + 1)) (own ++ news₁) { s with heap := g, toks := tk } s₂ → LoopStep2 h₀ env.locals own news₁ (fun m₁ news₂ => news₂ = news₁ ∧ J (i + 1) m₁) { s with heap := g, toks := tk } .next s₂ := by
      rintro ⟨h', tk, m', news', e, F', N', hn, hm⟩
      exact ⟨rfl, h', tk, m', news₁, e, F', fun p hp => N' p (hn p hp), rfl, rfl, hm⟩
    cases f with
    | ret v => exact p
    | brk => exact p
    | next => exact fin p
    | cont => exact fin p
  · rintro g' tk m2 news2 F2 N2 _ ⟨rfl, hJ⟩
    exact done m2 g' tk (by rw [← hsize]; exact hJ) F2 N2
theorem strs_take {vs : List Value} {ys : List Str} (h : StrsAre vs ys) (k : Nat) : StrsAre (vs.take k) (ys.take k) := by
  induction h generalizing k with
  | nil => simp; exact .nil
  | cons n t _ ih =>
    cases k with
    | zero => exact .nil
    | succ k => exact .cons _ _ (ih k)
theorem strs_drop {vs : List Value} {ys : List Str} (h : StrsAre vs ys) (k : Nat) : StrsAre (vs.drop k) (ys.drop k) := by
  induction h generalizing k with
  | nil => simp; exact .nil
  | cons n t h' ih =>
    cases k with
    | zero => exact .cons _ _ h'
    | succ k => exact ih k
theorem slice_upto {L l : Addr} {m : Str → Option Value} {news : List (Addr × Obj)} {value slice : PySem.Expr} {vs : List Value} {ys : List Str} {Q : Value → Shared → Prop} {h : Heap} {g : Array GenState} {d : Drawn} {tk : Nat} {os : OsState} {i : Int} {tt : Tok}
    (F : Fr h₀ L h m) (N : News h₀ L h news) (hl : h.IsList l vs.toArray) (hv : StrsAre vs ys) (h0 : 0 ≤ i) (hz : vs.length ≤ 1000)
    (k : ∀ D ws h', Fr h₀ L h' m → News h₀ L h' ((D, lst ws) :: news) → StrsAre ws (ys.take i.toNat) → Q (.ref D) ⟨h', g, d, tk, os⟩)
    (hs : subscripted slice false (.ref l) (.ref h.objs.size) = operate [.ref h.objs.size, .ref l] (getItem (.ref l) (.ref h.objs.size))) (ht : ∀ r, letTemporaryGo value (.ref l) r = pure ()) :
    wpAny (model prog w) A (subscriptTail value slice (.ref l) (.ref h.objs.size)) Q E ⟨h.push { cls := .type "slice", data := .fields #[.none, .int i tt, .none] }, g, d, tk, os⟩ :=
  kmk_slice_lit (s := ⟨h, g, d, tk, os⟩) (lo := none) (hi := some i) (zs := vs.take i.toNat) F N hl (by kmk_part) (by kmk_part)
    (by
      have := slicePick_upto' vs.toArray i.toNat
      rw [show ((i.toNat : Nat) : Int) = i by omega] at this
      rw [this]) (fun D h' F' N' _ => k D _ h' F' N' (strs_take hv _)) hs ht (by rw [List.size_toArray, sizeLine_eq]; omega)
theorem slice_from {L l : Addr} {m : Str → Option Value} {news : List (Addr × Obj)} {value slice : PySem.Expr} {vs : List Value} {ys : List Str} {Q : Value → Shared → Prop} {h : Heap} {g : Array GenState} {d : Drawn} {tk : Nat} {os : OsState} {i : Int} {tt : Tok}
    (F : Fr h₀ L h m) (N : News h₀ L h news) (hl : h.IsList l vs.toArray) (hv : StrsAre vs ys) (h0 : 0 ≤ i) (hz : vs.length ≤ 1000)
    (k : ∀ D ws h', Fr h₀ L h' m → News h₀ L h' ((D, lst ws) :: news) → StrsAre ws (ys.drop i.toNat) → Q (.ref D) ⟨h', g, d, tk, os⟩)
    (hs : subscripted slice false (.ref l) (.ref h.objs.size) = operate [.ref h.objs.size, .ref l] (getItem (.ref l) (.ref h.objs.size))) (ht : ∀ r, letTemporaryGo value (.ref l) r = pure ()) :
    wpAny (model prog w) A (subscriptTail value slice (.ref l) (.ref h.objs.size)) Q E ⟨h.push { cls := .type "slice", data := .fields #[.int i tt, .none, .none] }, g, d, tk, os⟩ :=
  kmk_slice_lit (s := ⟨h, g, d, tk, os⟩) (lo := some i) (hi := none) (zs := vs.drop i.toNat) F N hl (by kmk_part) (by kmk_part)
    (by
      have := slicePick_from' vs.toArray i.toNat
      rw [show ((i.toNat : Nat) : Int) = i by omega] at this
      rw [this]) (fun D h' F' N' _ => k D _ h' F' N' (strs_drop hv _)) hs ht (by rw [List.size_toArray, sizeLine_eq]; omega)
end
end Mine
end
section
open PySem PySem.W PySem.Calls PySem.Spec PyProof.Rows
set_option Elab.async false
namespace Mine
section
variable {prog : Program} {w : World} {A : Around} {E : Value → Shared → Prop} {s : Shared} {env : Env} {h₀ : Heap}
/-- a for of any target over anything, whose turns change the names and the ledger's objects -/
theorem iter_gen {L : Addr} {target : Expr} {body : List Stmt} {Q : Flow → Shared → Prop} {m₀ : Str → Option Value} {news : List (Addr × Obj)} {I : Addr} {fp wr : List Addr} {n : Nat} {P : Nat → Value → Prop} {St : Nat → Heap → Prop} {h' : Heap} {tk' : Nat}
    (J : Nat → (Str → Option Value) → List (Addr × Obj) → Prop)
    (W : Walks prog w A I fp wr n P St) (hLf : L ∉ fp) (hst : St 0 h') (e : Ext s.heap h') (hwr : ∀ b ∈ wr, s.heap.get? b = none) (hfp : ∀ b ∈ fp, ∀ q ∈ news, b ≠ q.1)
    (F : Fr h₀ L s.heap m₀) (N : News h₀ L s.heap news) (hj : J 0 m₀ news)
    (turn : ∀ i v m₁ news₁ (s₁ : Shared) own, i < n → P i v → J i m₁ news₁ → news₁.map (·.1) = news.map (·.1) → (∀ p ∈ own, ∀ q ∈ news₁, p.1 ≠ q.1) → Fr h₀ L s₁.heap m₁ → News h₀ L s₁.heap (own ++ news₁) →
      wpAny (model prog w) A (assign target env v) (fun _ s₃ => wpAny (model prog w) A (execs body env) (LoopStep2 h₀ L own news₁ (J (i + 1)) s₁) E s₃) E s₁)
    (done : ∀ m₁ news₁ h tk, J n m₁ news₁ → news₁.map (·.1) = news.map (·.1) → Fr h₀ L h m₁ → News h₀ L h news₁ → Q .next { s with heap := h, toks := tk })
    (hL : env.locals = L) (hgo : ∀ v, letOwnedTupleGo target (.ref I) v = pure ()) :
    LoopAtT prog w A h₀ env target body Q E (.ref I) { s with heap := h', toks := tk' } := by
  subst hL
  have off : ∀ news₁ : List (Addr × Obj), news₁.map (·.1) = news.map (·.1) → ∀ q ∈ news₁, ∃ q' ∈ news, q'.1 = q.1 := by
    intro news₁ hm q hq
    have : q.1 ∈ news₁.map (·.1) := List.mem_map.mpr ⟨q, hq, rfl⟩
    rw [hm] at this
    obtain ⟨q', hq', e'⟩ := List.mem_map.mp this
    exact ⟨q', hq', e'⟩
  have offw : ∀ news₁ : List (Addr × Obj), news₁.map (·.1) = news.map (·.1) → ∀ q ∈ news₁, q.1 ∉ wr := by
    intro news₁ hm q hq hw
    obtain ⟨q', hq', e'⟩ := off news₁ hm q hq
    have := (N q' hq').1
    rw [e', hwr _ hw] at this; cases this
  refine ⟨I, fp, wr, n, P, St, m₀, news, (fun i m₁ news₁ => news₁.map (·.1) = news.map (·.1) ∧ J i m₁ news₁), rfl, W, hLf, ?_, ?_, hst, Fr.ext F e, News.ext N e, ?_, ⟨rfl, hj⟩, ?_, ?_⟩
  · intro b hb
    cases q : h₀.get? b with
    | none => rfl
    | some o => have := F.keep _ _ q; rw [hwr b hb] at this; cases this
  · exact offw news rfl
  · intro i s' v Q' _ hq
    rw [hgo v]
    exact wpAny_pure hq
  · rintro i v m₁ news₁ s₁ own hin hP ⟨hm, hJ⟩ hoff hsub _ _ _ F₁ N₁
    have hown : ∀ p ∈ own, ∀ q ∈ news₁, p.1 ≠ q.1 := fun p hp q hq e2 => by
      obtain ⟨q', hq', e'⟩ := off news₁ hm q hq
      exact hfp p.1 (hsub p hp) q' hq' (e2.trans e'.symm)
    refine wpAny_mono (turn i v m₁ news₁ s₁ own hin hP hJ hm hown F₁ N₁) (fun _ s₃ p => wpAny_mono p (fun f s₂ p => ?_) fun _ _ e => e) fun _ _ e => e
    obtain ⟨rfl, h2, tk, m₂, news₂, e2, F₂, N₂, hm2, hJ₂⟩ := p
    exact ⟨rfl, h2, tk, m₂, news₂, e2, F₂, N₂, offw news₂ (hm2.trans hm), hm2.trans hm, hJ₂⟩
  · rintro g tk m' news' F' N' _ ⟨hm, hJ⟩
    exact done m' news' g tk hJ hm F' N'
theorem range_small {a b : Int} (ha : 0 ≤ a) (ha' : a ≤ 16777216) (hb : 0 ≤ b) (hb' : b ≤ 16777216) : Builtin.Range.small a b 1 = true := by
  have hs := rangeSize_nat a b
  have fit : ∀ k : Int, 0 ≤ k → k ≤ 16777217 → Builtin.Range.rangeFitsLong k = true := fun k h1 h2 => by
    unfold Builtin.Range.rangeFitsLong
    simp only [Bool.and_eq_true, decide_eq_true_eq]
    omega
  unfold Builtin.Range.small
  rw [hs, fit a ha (by omega), fit b hb (by omega), fit 1 (by decide) (by decide), fit _ (by omega) (by omega)]
  rw [if_pos (by decide), fit (b + (1 - 1)) (by omega) (by omega)]
  simp
theorem Iter.range {L r : Addr} {h : Heap} {a b : Int} {t u v : Tok} (hh : A.handled = none) (hr : IsRange h r a b 1 t u v) (ha : 0 ≤ a) (ha' : a ≤ 16777216) (hb : 0 ≤ b) (hb' : b ≤ 16777216) (hLs : L < h.objs.size) : Iter prog w A L h (.ref r) (b - a).toNat (fun i x => i < (b - a).toNat ∧ ∃ t, x = .int (a + (i : Int)) t) := by
  rintro s Q E rfl hQ
  refine wpAny_pyIter_range hr (range_small ha ha' hb hb') ?_
  have W := (Walks.range (prog := prog) (w := w) hh s.heap.objs.size a 1 (b - a).toNat).bound
  have hP : (fun (i : Nat) (x : Value) => i < (b - a).toNat ∧ ∃ t, x = .int (a + i * 1) t) = fun i x => i < (b - a).toNat ∧ ∃ t, x = .int (a + (i : Int)) t := by funext i x; simp
  rw [hP] at W
  refine hQ _ _ _ _ _ s.toks W ?_ ?_ (Ext.push _ _) (by rw [Heap.size_push]; exact Nat.le_succ _) ?_ ?_ ?_
  · exact fun hm => Nat.ne_of_lt hLs (List.mem_singleton.mp hm)
  · show IsRangeIter _ _ _ _ _
    rw [rangeSize_nat]
    simpa using Heap.get?_push_size _ rfl
  · intro b hb; rw [List.mem_singleton.mp hb]; exact none_size _
  · intro b hb; rw [List.mem_singleton.mp hb, Heap.size_push]; exact Nat.lt_succ_self _
  · rintro i g st b hb; rw [List.mem_singleton.mp hb]; exact ⟨_, st⟩
theorem iter_range_T {L r : Addr} {target : Expr} {body : List Stmt} {Q : Flow → Shared → Prop} {m₀ : Str → Option Value} {news : List (Addr × Obj)} {a b : Int} {t u v : Tok} (J : Nat → (Str → Option Value) → List (Addr × Obj) → Prop)
    (hh : A.handled = none) (hr : IsRange s.heap r a b 1 t u v) (ha : 0 ≤ a) (ha' : a ≤ 16777216) (hb : 0 ≤ b) (hb' : b ≤ 16777216) (F : Fr h₀ L s.heap m₀) (N : News h₀ L s.heap news) (hj : J 0 m₀ news)
    (turn : ∀ (i : Nat) t m₁ news₁ (s₁ : Shared) own, i < (b - a).toNat → J i m₁ news₁ → news₁.map (·.1) = news.map (·.1) → (∀ p ∈ own, ∀ q ∈ news₁, p.1 ≠ q.1) → Fr h₀ L s₁.heap m₁ → News h₀ L s₁.heap (own ++ news₁) →
      wpAny (model prog w) A (assign target env (.int (a + (i : Int)) t)) (fun _ s₃ => wpAny (model prog w) A (execs body env) (LoopStep2 h₀ L own news₁ (J (i + 1)) s₁) E s₃) E s₁)
    (done : ∀ m₁ news₁ h tk, J (b - a).toNat m₁ news₁ → news₁.map (·.1) = news.map (·.1) → Fr h₀ L h m₁ → News h₀ L h news₁ → Q .next { s with heap := h, toks := tk })
    (hL : env.locals = L) (hgo : ∀ I v, letOwnedTupleGo target (.ref I) v = pure ()) :
    wpAny (model prog w) A (pyIter (.ref r)) (fun it s₂ => LoopAtT prog w A h₀ env target body Q E it s₂) E s := by
  refine wpAny_pyIter_range hr (range_small ha ha' hb hb') ?_
  have W := Walks.range (prog := prog) (w := w) hh s.heap.objs.size a 1 (b - a).toNat
  refine iter_gen J W ?_ ?_ (Ext.push _ _) ?_ ?_ F N hj ?_ done hL (hgo _)
  · exact fun hm => Nat.ne_of_lt F.ns.lt (List.mem_singleton.mp hm)
  · show IsRangeIter _ _ _ _ _
    rw [rangeSize_nat]
    simpa using Heap.get?_push_size _ rfl
  · intro b hb; rw [List.mem_singleton.mp hb]; exact none_size _
  · intro b hb q hq e
    have := Heap.lt_size (N q hq).1
    rw [← e, List.mem_singleton.mp hb] at this
    exact Nat.lt_irrefl _ this
  · rintro i x m₁ news₁ s₁ own hi ⟨t, rfl⟩ hJ hm hown F₁ N₁
    rw [Int.mul_one]
    exact turn i t m₁ news₁ s₁ own hi hJ hm hown F₁ N₁
theorem iter_list_T {L l : Addr} {target : Expr} {body : List Stmt} {Q : Flow → Shared → Prop} {m₀ : Str → Option Value} {news : List (Addr × Obj)} {vs : List Value} (J : Nat → (Str → Option Value) → List (Addr × Obj) → Prop)
    (hh : A.handled = none) (hl : s.heap.IsList l vs.toArray) (hlL : l ≠ L) (hln : ∀ q ∈ news, l ≠ q.1) (F : Fr h₀ L s.heap m₀) (N : News h₀ L s.heap news) (hj : J 0 m₀ news)
    (turn : ∀ (i : Nat) x m₁ news₁ (s₁ : Shared) own, vs[i]? = some x → J i m₁ news₁ → news₁.map (·.1) = news.map (·.1) → (∀ p ∈ own, ∀ q ∈ news₁, p.1 ≠ q.1) → Fr h₀ L s₁.heap m₁ → News h₀ L s₁.heap (own ++ news₁) →
      wpAny (model prog w) A (assign target env x) (fun _ s₃ => wpAny (model prog w) A (execs body env) (LoopStep2 h₀ L own news₁ (J (i + 1)) s₁) E s₃) E s₁)
    (done : ∀ m₁ news₁ h tk, J vs.length m₁ news₁ → news₁.map (·.1) = news.map (·.1) → Fr h₀ L h m₁ → News h₀ L h news₁ → Q .next { s with heap := h, toks := tk })
    (hL : env.locals = L) (hgo : ∀ I v, letOwnedTupleGo target (.ref I) v = pure ()) :
    wpAny (model prog w) A (pyIter (.ref l)) (fun it s₂ => LoopAtT prog w A h₀ env target body Q E it s₂) E s := by
  refine wpAny_pyIter_list hl ?_
  have hlt := list_lt hl
  have W := Walks.list (prog := prog) (w := w) hh s.heap.objs.size l (Nat.ne_of_lt hlt) vs.toArray
  have hsz : vs.toArray.size = vs.length := by simp
  refine iter_gen J W ?_ ⟨⟨_, Heap.get?_push_size _ rfl, rfl, rfl⟩, hl.at fun o e => Heap.get?_push_of_some _ e⟩ (Ext.push _ _) ?_ ?_ F N hj ?_ (by rw [hsz]; exact done) hL (hgo _)
  · intro hm
    rcases List.mem_cons.mp hm with e | hm
    · exact Nat.ne_of_lt F.ns.lt e
    · exact hlL (List.mem_singleton.mp hm).symm
  · intro b hb; rw [List.mem_singleton.mp hb]; exact none_size _
  · intro b hb q hq e
    rcases List.mem_cons.mp hb with e2 | hb
    · have := Heap.lt_size (N q hq).1
      rw [← e, e2] at this
      exact Nat.lt_irrefl _ this
    · exact hln q hq ((List.mem_singleton.mp hb).symm.trans e)
  · intro i x m₁ news₁ s₁ own hi hP hJ hm hown F₁ N₁
    exact turn i x m₁ news₁ s₁ own (by simpa using hP) hJ hm hown F₁ N₁
/-- a list spread at a call -/
theorem star_at {a : Addr} {vs : List Value} {Q : List Value → Shared → Prop} (hl : s.heap.IsList a vs.toArray) (hz : vs.length ≤ 1000) (h : ∀ h', Ext s.heap h' → Q vs { s with heap := h' }) : StarOf (model prog w) A E (.ref a) Q s := by
  obtain ⟨o, ho, hc, n, hd⟩ := hl
  unfold StarOf notIterableAtAll
  refine wpAny_bind (wpAny_specialOf (show s.TypeIs (.ref a) "list" from ⟨o, ho, hc⟩) PySem.F.slot_list_iter.lookup (wpAny_pure ⟨rfl, ?_⟩))
  exact wpAny_collect_seq a (.inl rfl) ho hc hd (fun h' hk => h h' hk) (by rw [List.size_toArray, sizeLine_eq]; omega)
/-- a store into a cell of the ledger -/
theorem store_cell {L c : Addr} {m : Str → Option Value} {rest : List (Addr × Obj)} {o : Obj} {v₀ : Option Value} {x : Str} {v : Value} {Q : Unit → Shared → Prop} (F : Fr h₀ L s.heap m) (N : News h₀ L s.heap ((c, o) :: rest)) (hd : o.data = .cell v₀) (ho : ∀ p ∈ rest, p.1 ≠ c)
    (hk : env.scope.kind = .function) (hx : env.kindOf x = some .cell) (hc : env.cells.lookup x = some c)
    (h : ∀ h' o', Fr h₀ L h' m → News h₀ L h' ((c, o') :: rest) → o'.data = .cell (some v) → Q () { s with heap := h' }) : wpAny (model prog w) A (storeName env x v) Q E s := by
  have hm := N (c, o) (.head _)
  refine wpAny_storeName_cell hk hx hc ⟨o, hm.1, hd⟩ fun h' hv hs => ?_
  obtain ⟨o', ho', hd'⟩ := hv
  refine h h' o' ⟨F.ns.sameBut hs (Ne.symm hm.2.1), fun b ob e => (hs.2 b (fun q => ?_)).trans (F.keep b ob e), F.above⟩ ?_ hd'
  · rw [q, hm.2.2] at e; cases e
  · intro p hp
    rcases List.mem_cons.mp hp with rfl | hp
    · exact ⟨ho', hm.2⟩
    · have hp' := N p (.tail _ hp)
      exact ⟨(hs.2 p.1 (ho p hp)).trans hp'.1, hp'.2⟩
end
end Mine
end
section
open PySem PySem.W PySem.Calls PySem.Spec PyProof.Rows
namespace Mine
theorem fill_all : (PySem.Challenge.rw_in0173_01, Mine.h0.heap_1) = (PySem.Challenge.rw_in0173_01, Mine.h0.heap_1) := by k_fill; rfl
local macro_rules | `(tactic| walk_at "execs cons") => `(tactic| (refine execs_ec ?_; intro _ _))
local macro_rules | `(tactic| walk_at "m ec") => `(tactic| (refine execs_ec ?_; intro _ _))
local macro_rules | `(tactic| walk_at "m hd") => `(tactic| (repeat (first | (refine' Nx.next ?hh ?_; (case hh => with_reducible assumption)) | (refine' Nx.ret ?hh ?_; (case hh => with_reducible assumption)) | (refine' Nx.brk ?hh ?_; (case hh => with_reducible assumption)) | (refine' Nx.cont ?hh ?_; (case hh => with_reducible assumption)) | (refine' Hid.go ?hh ?_; (case hh => with_reducible assumption)); try dsimp only)))
local macro_rules | `(tactic| walk_at "m go") => `(tactic| (walk_at "m hd"; repeat ((fail_if_success (with_reducible show Exists _)); (fail_if_success (with_reducible show (Exists _) ∧ _)); (fail_if_success (with_reducible show (_ = _) ∧ _)); (fail_if_success (with_reducible (refine' stop1 ?ss ?tt; (case ss => constructor)))); walk1; (try dsimp only); walk_at "m hd")))
local macro_rules | `(tactic| walk_at "m go2") => `(tactic| (walk_at "m hd"; repeat ((fail_if_success (with_reducible show Exists _)); (fail_if_success (with_reducible show (Exists _) ∧ _)); (fail_if_success (with_reducible show (_ = _) ∧ _)); (fail_if_success (with_reducible (refine' stop1 ?ss ?tt; (case ss => constructor)))); (fail_if_success (with_reducible (refine' stop2 ?ss ?tt; (case ss => constructor)))); walk1; (try dsimp only); walk_at "m hd")))
local macro_rules | `(tactic| walk_at "m go3") => `(tactic| (walk_at "m hd"; repeat ((fail_if_success (with_reducible show Exists _)); (fail_if_success (with_reducible show (Exists _) ∧ _)); (fail_if_success (with_reducible show (_ = _) ∧ _)); (fail_if_success (with_reducible (refine' stop1 ?ss ?tt; (case ss => constructor)))); (fail_if_success (with_reducible (refine' stop2 ?ss ?tt; (case ss => constructor)))); (fail_if_success (with_reducible show StarOf _ _ _ _ _ _)); (fail_if_success (with_reducible (refine' stop3 ?ss ?tt; (case ss => constructor)))); walk1; (try dsimp only); walk_at "m hd")))
local macro_rules | `(tactic| walk_at "m go4") => `(tactic| (walk_at "m hd"; repeat ((fail_if_success (with_reducible show Exists _)); (fail_if_success (with_reducible show (Exists _) ∧ _)); (fail_if_success (with_reducible show (_ = _) ∧ _)); (fail_if_success (with_reducible (refine' stop1 ?ss ?tt; (case ss => constructor)))); (fail_if_success (with_reducible (refine' stop2 ?ss ?tt; (case ss => constructor)))); (fail_if_success (with_reducible show StarOf _ _ _ _ _ _)); (fail_if_success (with_reducible (refine' stop3 ?ss ?tt; (case ss => constructor)))); (fail_if_success (with_reducible (refine' stop4 ?ss ?tt; (case ss => constructor)))); walk1; (try dsimp only); walk_at "m hd")))
local macro_rules | `(tactic| walk_at "m enter") => `(tactic| (
  (case ho => k_dflt k_is)
  (case hcd => k_dflt k_is)
  (case hb => exact BindsTo.of_eq rfl)
  (case hl => exact locs rfl)
  (case hc => decide)
  (case c1 => rfl)
  (case c2 => rfl)
  (case c3 => rfl)))
local macro_rules | `(tactic| walk_at "exec For") => `(tactic| (k_dflt (refine' For_mine ?hF ?hx ?hp ?_ ?hs ?hE; (case hF => assumption); (case hx => rfl); (case hp => rfl); (case hs => intro _; rfl); (case hE => first | assumption | passes_own))))
local macro_rules | `(tactic| walk_at "eval Name") => `(tactic| (k_dflt (first
  | (refine' nmL ?F ?v ?_ ?L ?k ?x ?d; (case L => rfl); (case k => rfl); (case x => rfl); (case d => decide); (case F => k_asm); (case v => first | rfl | assumption); k_whole)
  | (refine' nmC ?c ?o ?d ?_ ?k ?x ?b; (case k => rfl); (case x => rfl); (case b => decide); (case c => rfl); (case o => walk_at "m obj"); (case d => first | rfl | assumption); k_whole)
  | (refine' nmF ?c ?o ?d ?_ ?k ?x ?b ?n; (case k => rfl); (case x => rfl); (case b => decide); (case n => decide); (case c => rfl); (case o => walk_at "m obj"); (case d => first | rfl | assumption); k_whole)
  | (refine' nmG ?F ?X ?T ?e ?_ ?g ?k ?x ?d; (case g => rfl); (case k => rfl); (case x => rfl); (case d => decide); (case F => k_asm); (case X => k_asm); (case T => k_asm); (case e => k_is); k_whole)
  | (refine' nmB ?F ?X ?T ?e ?v ?n ?_ ?g ?b ?k ?x ?d; (case g => rfl); (case b => rfl); (case k => rfl); (case x => rfl); (case d => decide); (case F => k_asm); (case X => k_asm); (case T => k_asm); (case e => k_is); (case v => boot_fast); (case n => decide); k_whole))))
local macro_rules | `(tactic| walk_at "m obj") => `(tactic| first | assumption | exact (News.get (by assumption) (by k_mem)) | exact Fr.keep (by assumption) _ _ (by assumption))
local macro_rules | `(tactic| walk_at "m sub") => `(tactic| (intro p hp; first | exact hp | (simp only [List.append_nil, List.nil_append, List.cons_append] at hp ⊢; first | exact hp | exact .tail _ hp | exact .tail _ (.tail _ hp) | exact .tail _ (.tail _ (.tail _ hp)) | exact .tail _ (.tail _ (.tail _ (.tail _ hp))) | exact .tail _ (.tail _ (.tail _ (.tail _ (.tail _ hp))))) | (simp at hp ⊢; grind)))
local macro_rules | `(tactic| walk_at "m end") => `(tactic| (walk_at "m hd"; refine InvEnd.intro (by assumption) (by assumption) ?_ ?_; (walk_at "m sub")))
local macro_rules | `(tactic| walk_at "m comp") => `(tactic| (
  (case c1 => rfl)
  (case c2 => decide)
  (case c3 => rfl)
  (case c4 => decide)
  (case c5 => rfl)
  (case c6 => intro _; rfl)))
local macro_rules | `(tactic| walk_at "loadName") => `(tactic| (k_dflt (first
  | (refine' ldL ?F ?v ?_ ?L ?k ?x; (case L => rfl); (case k => rfl); (case x => rfl); (case F => k_asm); (case v => first | rfl | assumption); k_whole)
  | (refine' ldC ?c ?o ?d ?_ ?k ?x; (case k => rfl); (case x => rfl); (case c => rfl); (case o => walk_at "m obj"); (case d => first | rfl | assumption); k_whole))))
local macro_rules | `(tactic| walk_at "m sb") => `(tactic| (repeat (first
  | with_reducible exact sub_self
  | with_reducible exact sub_nil
  | ((repeat with_reducible refine sub_tail ?_); with_reducible exact sub_self)
  | (with_reducible refine' sub_cons ?ha ?_; (case ha => repeat (first | with_reducible exact List.mem_cons_self | with_reducible refine List.mem_cons_of_mem _ ?_ | with_reducible refine List.mem_append_right _ ?_)))
  | with_reducible refine sub_app ?_ ?_
  | ((repeat with_reducible refine sub_tail ?_); with_reducible refine sub_left ?_; with_reducible exact sub_self)
  | ((repeat with_reducible refine sub_tail ?_); with_reducible refine sub_right ?_))))
section
section
variable {w : World} {mean : ExcName → Option Value} {mg mb : Str → Option Value}
theorem charItem {vs : List Value} {cs : List Nat} (hv : StrsAre vs (cs.map ch)) {i : Nat} {v : Value} (hi : vs[i]? = some v) : ∃ c t, cs[i]? = some c ∧ v = .str (ch c) t := by
  obtain ⟨y, ty, rfl, hy⟩ := hv.item i v hi
  rw [List.getElem?_map] at hy
  cases q : cs[i]? with
  | none => rw [q] at hy; cases hy
  | some c => rw [q] at hy; cases hy; exact ⟨c, ty, rfl, rfl⟩
set_option maxRecDepth 100000 in
set_option maxHeartbeats 4000000 in
theorem num_spec (l : Addr) (cs : List Nat) (hc : Lets cs) (h5 : cs.length = 5) : Fn w mean mg mb 215 20 100 [.ref l] (fun h => LettersAt h l cs) (fun _ v _ => ∃ t, v = .int (numOf cs) t) := by
  rintro dp un fr gd s R hr G hl0 hR
  refine' enter (d := 19) (u := 97) (binds := [(Str.ofString "letters", .ref l)]) hr G ?ho ?hcd ?hb ?hl ?hc ?_ ?c1 ?c2 ?c3
  walk_at "m enter"
  intro L h₁ hr' F N X T
  refine wp_in (by passes_own) hr' ?_
  clear hr'
  intro dp un fr gd Q₀ E₀ hr' hE₀ hQ₀
  walk_at "m ec"
  walk_at "m go"
  obtain ⟨vs, hl, hv⟩ := hl0
  rename Fr _ _ _ _ => F1
  rename News _ _ _ _ => N1
  refine' iter_list (vs := vs) (fun i m => ∃ t, m (Str.ofString "total") = some (.int (numOf (cs.take i)) t)) hr'.handled ?hl ?haL ?F ?N ?hj ?turn ?done rfl
  case F => exact F1
  case N => exact N1
  case hl => exact hl.at fun o x => F1.keep _ o x
  case haL => exact Nat.ne_of_lt (Nat.lt_of_lt_of_le (list_lt hl) F1.above)
  case hj => exact ⟨_, rfl⟩
  case turn =>
    rintro i v m₁ h tk own hi ⟨t, ht⟩ F2 N2
    clear F1 N1
    obtain ⟨c, ty, hcs, rfl⟩ := charItem hv hi
    have hlc := hc c (List.mem_of_getElem? hcs)
    have hrng := numOf_range _ (hc.take i)
    have hlen : (cs.take i).length ≤ 4 := by
      have : i < cs.length := (List.getElem?_eq_some_iff.mp hcs).1
      rw [List.length_take]; omega
    (try simp only [List.append_nil] at N2)
    have hb : numOf (cs.take i) < 65536 := Int.lt_of_lt_of_le hrng.2 (by
      have : (16 : Int) ^ (cs.take i).length ≤ 16 ^ 4 := pow16_le hlen
      exact this)
    walk_at "m ec"
    walk_at "m go"
    walk_at "m end"
    exact ⟨_, by rw [numOf_take cs i c hcs]; rfl⟩
  case done =>
    rintro m₁ h tk ⟨t, ht⟩ F2 N2
    clear F1 N1
    dsimp only
    walk_at "m go"
    walk_at "m hd"
    refine hR _ _ _ ?_ ?_
    · exact F2.keep
    · have e : vs.length = cs.length := by have := hv.len_eq; simpa using this
      rw [e, List.take_length]
      exact ⟨_, rfl⟩
end
end
section
section
variable {w : World} {mean : ExcName → Option Value} {mg mb : Str → Option Value}
def sumL (cs : List Nat) : Int := (cs.map fun (c : Nat) => (c : Int) - 65).sum
theorem pair_ints : ∀ {vs ys : List Value} {cs : List Nat}, StrsAre vs (cs.map ch) → Paired (fun v y => ∃ c u t, v = Value.str (ch c) u ∧ y = Value.int ((c : Int) - 65) t) vs ys → IntsAre ys (cs.map fun (c : Nat) => (c : Int) - 65)
  | _, _, [], .nil, .nil => .nil
  | _, _, c :: cs, .cons _ t hv, .cons h hF => by
    obtain ⟨c', u, t', e, rfl⟩ := h
    cases e
    exact .cons _ _ (pair_ints hv hF)
set_option maxRecDepth 100000 in
set_option maxHeartbeats 4000000 in
theorem less_spec (l : Addr) (cs : List Nat) (hc : Lets cs) (h5 : cs.length = 5) : Fn w mean mg mb 220 30 200 [.ref l] (fun h => LettersAt h l cs) (fun _ v _ => ∃ t, v = .int (numOf cs - sumL cs) t) := by
  rintro dp un fr gd s R hr G hl hR
  refine' enter (d := 29) (u := 197) (binds := [(Str.ofString "letters", .ref l)]) hr G ?ho ?hcd ?hb ?hl ?hc ?_ ?c1 ?c2 ?c3
  walk_at "m enter"
  intro L h₁ hr' F N X T
  refine wp_in (by passes_own) hr' ?_
  clear hr'
  intro dp un fr gd Q₀ E₀ hr' hE₀ hQ₀
  walk_at "m ec"
  walk_at "m go"
  refine call_fn (num_spec l cs hc h5) F N X T (hr'.mono (by decide) (by decide)) (hl.ext F.keep) ?_
  rintro v h2 tk e2 F2 N2 ⟨t, rfl⟩
  walk_at "m go"
  refine' comp_vals ?c1 ?c2 ?c3 ?c4 ?c5 ?_ ?c6
  walk_at "m comp"
  walk_at "m go"
  obtain ⟨vs, hl', hv⟩ := hl
  have hlF := hl'.at fun o x => F2.keep _ o x
  have hne : l ≠ L := Nat.ne_of_lt (Nat.lt_of_lt_of_le (list_lt hl') F.above)
  refine' CompAt.mk (fun _ => true) (fun v y => ∃ c u t, v = .str (ch c) u ∧ y = .int ((c : Int) - 65) t) F2 N2 (Iter.list hr'.handled hlF hne F2.ns.lt) ?sz ?tests ?helt ?fin
  case sz => have := hv.len_eq; simp only [List.length_map] at this; rw [this, h5]; decide
  case tests =>
    rintro C i v s₃ m₃ E' hi F3 hm
    exact tests_none ⟨rfl, keeps_tok _ _⟩
  case helt =>
    rintro C i v s₃ m₃ E' hi - F3 hm
    obtain ⟨c, ty, hcs, rfl⟩ := charItem hv hi
    have X3 := X.keeps F2.keep
    have T3 := T.keeps F2.keep
    walk_at "m go"
    exact ⟨⟨_, _, _, rfl, rfl⟩, keeps_tok _ _⟩
  case fin =>
    rintro D ys c vs' h' tk' F4 N4 e4 - hlen hP hF
    rw [filter_all, list_of_idx hlen hP] at hF
    have hi : IntsAre ys (cs.map fun (c : Nat) => (c : Int) - 65) := pair_ints hv hF
    walk_at "m go"
    rename Fr _ _ _ _ => F5
    walk_at "m hd"
    refine hR _ _ _ F5.keep ⟨_, rfl⟩
end
end
section
section
variable {w : World} {mean : ExcName → Option Value} {mg mb : Str → Option Value}
/-- how often 16 divides a number from 1 to 16^5 - 1 -/
def v16 (n : Int) : Int := if n % 16 = 0 then (if n % 256 = 0 then (if n % 4096 = 0 then (if n % 65536 = 0 then 4 else 3) else 2) else 1) else 0
theorem v16_of {n k : Int} {c : Nat} (h1 : 1 ≤ n) (h5 : n < 1048576) (h : n = k * 16 ^ c) (hk1 : 1 ≤ k) (hk : k % 16 ≠ 0) : (c : Int) = v16 n := by
  have hc : c < 5 := by
    rcases Nat.lt_or_ge c 5 with h' | h'
    · exact h'
    · exfalso
      have := pow16_le h'
      have p : (0 : Int) ≤ 16 ^ c := Int.pow_nonneg (by decide)
      have h2 := Int.mul_le_mul_of_nonneg_right hk1 p
      rw [Int.one_mul] at h2
      have h3 : (16 : Int) ^ 5 = 1048576 := by decide
      omega
  unfold v16
  match c, hc with
  | 0, _ => simp only [Int.pow_zero, Int.mul_one] at h; rw [if_neg (by omega)]; rfl
  | 1, _ => have e : (16 : Int) ^ 1 = 16 := by decide
            rw [e] at h; rw [if_pos (by omega), if_neg (by omega)]; rfl
  | 2, _ => have e : (16 : Int) ^ 2 = 256 := by decide
            rw [e] at h; rw [if_pos (by omega), if_pos (by omega), if_neg (by omega)]; rfl
  | 3, _ => have e : (16 : Int) ^ 3 = 4096 := by decide
            rw [e] at h; rw [if_pos (by omega), if_pos (by omega), if_pos (by omega), if_neg (by omega)]; rfl
  | 4, _ => have e : (16 : Int) ^ 4 = 65536 := by decide
            rw [e] at h; rw [if_pos (by omega), if_pos (by omega), if_pos (by omega), if_pos (by omega)]; rfl
/-- what holds ahead of a turn -/
inductive J3 (n : Int) (k : Nat) (m : Str → Option Value) (news : List (Addr × Obj)) : Prop
  | mk (_ : news = []) (c : Nat) (n' : Int) (t1 : Tok) (t2 : Tok) (_ : m (Str.ofString "n") = some (.int n' t1)) (_ : m (Str.ofString "count") = some (.int (c : Int) t2)) (_ : 1 ≤ n') (_ : n = n' * 16 ^ c) (_ : k = n'.toNat)
set_option maxRecDepth 100000 in
set_option maxHeartbeats 4000000 in
theorem six_spec (n : Int) (t : Tok) (h1 : 1 ≤ n) (h5 : n < 1048576) : Fn w mean mg mb 227 20 100 [.int n t] (fun _ => True) (fun _ v _ => ∃ t, v = .int (v16 n) t) := by
  rintro dp un fr gd s R hr G - hR
  refine' enter (d := 19) (u := 97) (binds := [(Str.ofString "n", .int n t)]) hr G ?ho ?hcd ?hb ?hl ?hc ?_ ?c1 ?c2 ?c3
  walk_at "m enter"
  intro L h₁ hr' F N X T
  refine wp_in (by passes_own) hr' ?_
  clear hr'
  intro dp un fr gd Q₀ E₀ hr' hE₀ hQ₀
  walk_at "m ec"
  walk_at "m go"
  rename Fr _ _ _ _ => F1
  rename News _ _ _ _ => N1
  refine' While_inv (J3 n) ?F ?N ?hJ ?turn ?hE
  case F => exact F1
  case N => exact N1
  case hJ => exact ⟨rfl, 0, n, _, _, rfl, rfl, h1, by simp, rfl⟩
  case hE => first | assumption | passes_own
  case turn =>
    rintro k m₁ news₁ h tk F2 N2 ⟨rfl, c, n', t1, t2, hn, hcn, hn1, hnn, rfl⟩
    clear F1 N1
    walk_at "m go"
    · have hz : n'.fmod 16 = 0 := by assumption
      have hd : n'.fdiv 16 = n' / 16 := Int.fdiv_eq_ediv_of_nonneg _ (by decide)
      have hm : n'.fmod 16 = n' % 16 := Int.fmod_eq_emod_of_nonneg _ (by decide)
      rw [hm] at hz
      refine WhileStep.intro (n' := (n'.fdiv 16).toNat) (by assumption) (by assumption) (by omega) ?_
      refine ⟨rfl, c + 1, n'.fdiv 16, _, _, rfl, rfl, by omega, ?_, rfl⟩
      rw [hd, hnn, Int.pow_succ, Int.mul_comm _ 16, ← Int.mul_assoc]
      congr 1
      omega
    · rename_i hz
      walk_at "m go"
      walk_at "m hd"
      refine hR _ _ _ F2.keep ⟨t2, ?_⟩
      rw [v16_of h1 h5 hnn hn1 (by rw [← Int.fmod_eq_emod_of_nonneg _ (by decide)]; exact hz)]
end
end
section
section
variable {w : World} {mean : ExcName → Option Value} {mg mb : Str → Option Value}
theorem ap_pick : ∀ m : Nat, m < 16 → KBy.picked (bytesOf [65,66,67,68,69,70,71,72,73,74,75,76,77,78,79,80]) (some ((m : Nat) : Int)) (some ((m : Int) + 1)) = bytesOf [65 + m] := by
  decide +kernel
/-- what holds ahead of a turn -/
inductive J4 (v : Int) (k : Nat) (m : Str → Option Value) (news : List (Addr × Obj)) : Prop
  | mk (_ : news = []) (n : Nat) (acc : List Nat) (t1 : Tok) (t2 : Tok) (t3 : Tok) (_ : m (Str.ofString "num") = some (.int (n : Int) t1)) (_ : m (Str.ofString "val") = some (.bytes (bytesOf acc) t2)) (_ : m (Str.ofString "AP") = some (.bytes (bytesOf [65,66,67,68,69,70,71,72,73,74,75,76,77,78,79,80]) t3)) (_ : n < 16 ^ k) (_ : acc.length + k = 5) (_ : apF k n acc = apF 5 v.natAbs [])
set_option maxRecDepth 100000 in
set_option maxHeartbeats 4000000 in
theorem ap_spec (v : Int) (t : Tok) (h5 : v.natAbs < 1048576) : Fn w mean mg mb 45 20 100 [.int v t] (fun _ => True) (fun _ r _ => ∃ t, r = .bytes (bytesOf (apF 5 v.natAbs [])) t) := by
  rintro dp un fr gd s R hr G - hR
  refine' enter (d := 19) (u := 97) (binds := [(Str.ofString "num", .int v t)]) hr G ?ho ?hcd ?hb ?hl ?hc ?_ ?c1 ?c2 ?c3
  walk_at "m enter"
  intro L h₁ hr' F N X T
  refine wp_in (by passes_own) hr' ?_
  clear hr'
  intro dp un fr gd Q₀ E₀ hr' hE₀ hQ₀
  walk_at "m ec"
  walk_at "m go"
  rename Fr _ _ _ _ => F1
  rename News _ _ _ _ => N1
  rw [show (if v < 0 then -v else v) = (v.natAbs : Int) from by split <;> omega] at F1
  refine' While_inv (J4 v) ?F ?N ?hJ ?turn ?hE
  case F => exact F1
  case N => exact N1
  case hJ => exact ⟨rfl, v.natAbs, [], _, _, _, rfl, rfl, rfl, h5, rfl, rfl⟩
  case hE => first | assumption | passes_own
  case turn =>
    rintro k m₁ news₁ h tk F2 N2 ⟨rfl, n, acc, t1, t2, t3, hn, hcn, hap, hnk, hk, hf⟩
    clear F1 N1
    walk_at "m go"
    · rename Fr _ _ _ _ => F3
      rename News _ _ _ _ => N3
      have hd : (n : Int).fdiv 16 = ((n / 16 : Nat) : Int) := by rw [Int.fdiv_eq_ediv_of_nonneg _ (by decide)]; rfl
      have hm : (n : Int).fmod 16 = ((n % 16 : Nat) : Int) := by rw [Int.fmod_eq_emod_of_nonneg _ (by decide)]; rfl
      rw [hm] at F3 N3
      rw [hd] at F3 N3
      refine KBc.slice_K (s := ⟨_, _, _, _, _⟩) F3 N3 rfl (by rw [hm]; constructor) (by rw [hm]; constructor) (by decide) ?_
      intro h4 t4 tk4 F4 N4 _
      rw [ap_pick _ (Nat.mod_lt _ (by decide))]
      walk_at "m go"
      refine KBy.add_bytes ?hsz ?_
      case hsz =>
        have e1 : (bytesOf [65 + n % 16]).size = 1 := by simp [bytesOf]
        have e2 : (bytesOf acc).size = acc.length := by simp [bytesOf]
        rw [e1, e2]; omega
      intro t6 k6
      have e6 : bytesOf [65 + n % 16] ++ bytesOf acc = bytesOf ((65 + n % 16) :: acc) := by simp [bytesOf]
      rw [e6]
      walk_at "m go"
      cases k with
      | zero => exact absurd hnk (by simp; omega)
      | succ k =>
        refine WhileStep.intro (n' := k) (by assumption) (News.drop (by assumption)) (by omega) ?_
        refine ⟨rfl, n / 16, (65 + n % 16) :: acc, _, _, t3, rfl, rfl, hap, ?_, ?_, ?_⟩
        · rw [Nat.pow_succ] at hnk; omega
        · simp only [List.length_cons]; omega
        · rw [← hf, apF, if_neg (by omega)]
    · rename_i hz
      have hz' : n = 0 := by omega
      subst hz'
      walk_at "m go"
      walk_at "m hd"
      refine hR _ _ _ F2.keep ⟨t2, ?_⟩
      rw [← hf]
      cases k <;> rfl
end
end
section
section
variable {w : World} {mean : ExcName → Option Value} {mg mb : Str → Option Value}
set_option maxRecDepth 100000 in
set_option maxHeartbeats 4000000 in
theorem letters_spec (n : Nat) (t : Tok) (h5 : n < 1048576) : Fn w mean mg mb 208 30 200 [.int (n : Int) t] (fun _ => True) (fun h v h' => ∃ D vs c, v = .ref D ∧ h.get? D = none ∧ h'.get? D = some (lst vs c) ∧ StrsAre vs ((lets n).map ch)) := by
  rintro dp un fr gd s R hr G - hR
  refine' enter (d := 29) (u := 197) (binds := [(Str.ofString "n", .int (n : Int) t)]) hr G ?ho ?hcd ?hb ?hl ?hc ?_ ?c1 ?c2 ?c3
  walk_at "m enter"
  intro L h₁ hr' F N X T
  refine wp_in (by passes_own) hr' ?_
  clear hr'
  intro dp un fr gd Q₀ E₀ hr' hE₀ hQ₀
  walk_at "m ec"
  walk_at "m go"
  refine' comp_vals ?c1 ?c2 ?c3 ?c4 ?c5 ?_ ?c6
  walk_at "m comp"
  walk_at "m go"
  refine wpAny_mono (Q := fun v s₁ => ∃ u t' tk', v = .int u t' ∧ u.natAbs = n ∧ s₁ = { heap := h₁, gens := s.gens, drawn := s.drawn, toks := tk', os := s.os }) ?c1 ?_ (fun _ _ e => e)
  case c1 =>
    walk1
    walk_at "m go"
    all_goals (walk_at "m go")
    all_goals exact ⟨_, _, _, rfl, by omega, rfl⟩
  rintro v s₁ ⟨u, tu, tk, rfl, hu, rfl⟩
  walk_at "m go"
  refine call_fn (ap_spec u tu (by omega)) F N X T (hr'.mono (by decide) (by decide)) trivial ?_
  rintro v h2 tk2 e2 F2 N2 ⟨t2, rfl⟩
  rw [hu]
  obtain ⟨hap, hle, h5', hhd⟩ := apF_facts h5
  generalize apF 5 n [] = ap at hap hle h5' hhd ⊢
  refine' CompAt.mk (fun _ => true) (fun v y => ∃ (c : Nat) (u t : Tok), v = .int (c : Int) u ∧ y = .str (ch c) t) F2 N2 (Iter.bytes hr'.handled F2.ns.lt) ?sz ?tests ?helt ?fin
  case sz => have : (bytesOf ap).size = ap.length := by simp [bytesOf]
             rw [this, sizeLine_eq]; omega
  case tests => intros; exact tests_none ⟨rfl, keeps_tok _ _⟩
  case helt =>
    rintro C i v s₃ m₃ E' ⟨c, u, hcu, rfl⟩ - F3 hm
    have X3 := X.keeps F2.keep
    have T3 := T.keeps F2.keep
    walk_at "m go"
    have hc256 := c.toNat_lt
    refine chr_of_range (by omega) (by omega) ?_
    exact ⟨⟨c.toNat, u, _, rfl, rfl⟩, keeps_tok _ _⟩
  case fin =>
    rintro D ys c vs' h' tk' F4 N4 e4 - hlen hP hF
    rw [filter_all] at hF
    have hys : StrsAre ys (ap.map ch) := chars_of_ints (bytes_ints hle hlen hP) hF
    walk_at "m go"
    refine join_strs (isList_of (N4.get (.head _))) hys ?_ ?_
    · rw [sum_ch, List.length_map]; show ap.length + ap.length * 0 ≤ _; omega
    intro t7 k7
    rw [join_empty]
    have hsl := slice_head ap hhd
    walk_at "m go"
    refine' comp_vals ?c1 ?c2 ?c3 ?c4 ?c5 ?_ ?c6
    walk_at "m comp"
    walk_at "m go"
    rename Fr _ _ _ _ => F6
    rename News _ _ _ _ => N6
    refine' CompAt.mk (fun _ => false) (fun v y => True) F6 N6 (Iter.str hr'.handled F6.ns.lt) ?sz ?tests ?helt ?fin
    case sz => show ap.toArray.size ≤ _; rw [List.size_toArray, sizeLine_eq]; omega
    case tests =>
      rintro C i v s₃ m₃ E' ⟨c, u, hcu, rfl⟩ F7 hm
      have X3 := X.keeps F6.keep
      have T3 := T.keeps F6.keep
      have hc : 65 ≤ c ∧ c ≤ 80 := hle c (List.mem_of_getElem? (by simpa using hcu))
      have hA := lt_A hc.1
      have hP' := lt_P hc.2
      refine tests_one ?_
      walk_at "m go"
      exact ⟨rfl, keeps_tok _ _⟩
    case helt => rintro C i v s₃ m₃ E' _ hf; cases hf
    case fin =>
      rintro D2 ys2 c2 vs2 h8 tk8 F8 N8 e8 - hlen2 hP2 hF2
      have : ys2 = [] := by
        rw [List.filter_eq_nil_iff.mpr (fun _ _ => Bool.false_ne_true)] at hF2
        cases hF2; rfl
      subst this
      walk_at "m go"
      rename News _ _ _ _ => N9
      refine ke_ne_ints (ns := []) (ms := []) (isList_of (N9.get (by k_mem))) (isList_of (N9.get (by k_mem))) .nil .nil (hr'.mono (Nat.le_refl 29) (show 64 ≤ 197 by decide)).units ?_
      rw [decide_eq_true (rfl : ([] : List Int) = [])]
      walk_at "m go"
      have hsz5 : (Str.mk ap.toArray).length = ap.length := by show ap.toArray.size = _; simp
      refine PyProof.Rows.len_str (by rw [hsz5]; omega) ?_
      rw [hsz5]
      walk1
      rename Fr _ _ _ _ => F10
      rename News _ _ _ _ => N10
      refine KMa.mul F10 N10 (N10.isList (.head _)) (by omega) (by omega) (by simp; omega) rfl ?_
      intro D3 h11 F11 N11 hlt3
      walk_at "m go"
      refine' comp_vals ?c1 ?c2 ?c3 ?c4 ?c5 ?_ ?c6
      walk_at "m comp"
      walk_at "m go"
      refine' CompAt.mk (fun _ => true) (fun v y => v = y) F11 N11 (Iter.str hr'.handled F11.ns.lt) ?sz ?tests ?helt ?fin
      case sz => show ap.toArray.size ≤ _; rw [List.size_toArray, sizeLine_eq]; omega
      case tests => intros; exact tests_none ⟨rfl, keeps_tok _ _⟩
      case helt =>
        rintro C i v s₃ m₃ E' _ - F7 hm
        walk_at "m go"
        exact ⟨rfl, keeps_tok _ _⟩
      case fin =>
        rintro D4 ys4 c4 vs4 h12 tk12 F12 N12 e12 - hlen4 hP4 hF4
        rw [filter_all] at hF4
        obtain rfl := paired_same hF4
        have hs4 := signs_are (by rw [hlen4]; simp) hP4
        have hs3 := rep_A tk8 (5 - (ap.length : Int)).toNat
        refine add_arrays F12 N12 (N12.isList (.tail _ (.head _))) (N12.isList (.head _)) ?_ ?_
        · intro h13 F13 N13
          walk_at "m hd"
          refine hR _ _ _ F13.keep ⟨_, _, _, rfl, N13.fresh (.head _), N13.get (.head _), ?_⟩
          have := hs3.append' hs4
          rw [← List.map_append, show (5 - (ap.length : Int)).toNat = 5 - ap.length by omega, hap] at this
          rw [show (5 - (ap.length : Int)).toNat = 5 - ap.length by omega]
          simpa using this
        · have a1 := hs3.len_eq
          have a2 := hs4.len_eq
          simp only [List.length_map, List.length_replicate] at a1 a2
          simp only [List.size_toArray]
          rw [sizeLine_eq, a1, a2]; omega
end
end
section
section
variable {w : World} {mean : ExcName → Option Value} {mg mb : Str → Option Value}
def peakOf (x : Int) : Int := (x / 4 % 255 + 1) * 16 ^ (x % 4).toNat
def loOf (x : Int) : Int := max 0 (peakOf x - 1 - x / 1020 % 3)
def hiOf (x : Int) : Int := peakOf x + 1 + x / 3060 % 2
abbrev upTo (lo hi : Int) : List Int := rangeInts lo 1 (hi - lo).toNat
theorem peak_range (x : Int) : 1 ≤ peakOf x ∧ peakOf x ≤ 1044480 := by
  unfold peakOf
  have h1 := Int.emod_nonneg (x / 4) (show (255 : Int) ≠ 0 by decide)
  have h2 := Int.emod_lt_of_pos (x / 4) (show (0 : Int) < 255 by decide)
  have h3 := Int.emod_nonneg x (show (4 : Int) ≠ 0 by decide)
  have h4 := Int.emod_lt_of_pos x (show (0 : Int) < 4 by decide)
  generalize x / 4 % 255 = a at h1 h2 ⊢
  generalize x % 4 = b at h3 h4 ⊢
  have : b = 0 ∨ b = 1 ∨ b = 2 ∨ b = 3 := by omega
  rcases this with rfl | rfl | rfl | rfl
  · show 1 ≤ (a + 1) * 1 ∧ (a + 1) * 1 ≤ _; omega
  · show 1 ≤ (a + 1) * 16 ∧ (a + 1) * 16 ≤ _; omega
  · show 1 ≤ (a + 1) * 256 ∧ (a + 1) * 256 ≤ _; omega
  · show 1 ≤ (a + 1) * 4096 ∧ (a + 1) * 4096 ≤ _; omega
theorem peak_fdiv (x : Int) : ((x.fdiv 4).fmod 255 + 1) * 16 ^ (x.fmod 4).toNat = peakOf x := by
  unfold peakOf
  rw [Int.fdiv_eq_ediv_of_nonneg _ (by decide), Int.fmod_eq_emod_of_nonneg _ (by decide), Int.fmod_eq_emod_of_nonneg _ (by decide)]
theorem lo_fdiv (x : Int) : (if peakOf x - 1 - (x.fdiv 1020).fmod 3 > 0 then peakOf x - 1 - (x.fdiv 1020).fmod 3 else 0) = loOf x := by
  unfold loOf
  rw [Int.fdiv_eq_ediv_of_nonneg _ (by decide), Int.fmod_eq_emod_of_nonneg _ (by decide)]
  split <;> omega
theorem hi_fdiv (x : Int) : peakOf x + 1 + (x.fdiv 3060).fmod 2 = hiOf x := by
  unfold hiOf
  rw [Int.fdiv_eq_ediv_of_nonneg _ (by decide), Int.fmod_eq_emod_of_nonneg _ (by decide)]
theorem list_bounds (x : Int) : 0 ≤ loOf x ∧ loOf x + 2 ≤ hiOf x ∧ hiOf x ≤ loOf x + 5 ∧ hiOf x ≤ 1044482 := by
  have h := peak_range x
  have h1 := Int.emod_nonneg (x / 1020) (show (3 : Int) ≠ 0 by decide)
  have h2 := Int.emod_lt_of_pos (x / 1020) (show (0 : Int) < 3 by decide)
  have h3 := Int.emod_nonneg (x / 3060) (show (2 : Int) ≠ 0 by decide)
  have h4 := Int.emod_lt_of_pos (x / 3060) (show (0 : Int) < 2 by decide)
  unfold loOf hiOf
  generalize peakOf x = p at h ⊢
  generalize x / 1020 % 3 = a at h1 h2 ⊢
  generalize x / 3060 % 2 = b at h3 h4 ⊢
  omega
set_option maxRecDepth 100000 in
set_option maxHeartbeats 4000000 in
theorem listing_spec (x : Int) (t : Tok) : Fn w mean mg mb 203 30 200 [.int x t] (fun _ => True) (fun h v h' => ∃ D vs c, v = .ref D ∧ h.get? D = none ∧ h'.get? D = some (lst vs c) ∧ IntsAre vs (upTo (loOf x) (hiOf x))) := by
  rintro dp un fr gd s R hr G - hR
  refine' enter (d := 29) (u := 197) (binds := [(Str.ofString "x", .int x t)]) hr G ?ho ?hcd ?hb ?hl ?hc ?_ ?c1 ?c2 ?c3
  walk_at "m enter"
  intro L h₁ hr' F N X T
  refine wp_in (by passes_own) hr' ?_
  clear hr'
  intro dp un fr gd Q₀ E₀ hr' hE₀ hQ₀
  walk_at "m ec"
  walk_at "m go"
  rename IsRange _ _ _ _ _ _ _ _ => hrg
  rename Fr _ _ _ _ => F2
  rename News _ _ _ _ => N2
  have hb := list_bounds x
  rw [peak_fdiv, lo_fdiv, hi_fdiv] at hrg
  refine list_range_K hr'.handled F2 N2 hrg (by omega) (by omega) (by omega) (by omega) ?_
  intro D h3 tk3 ys c F3 N3 e3 _ hys
  walk_at "m go"
  walk_at "m hd"
  exact hR _ _ _ F3.keep ⟨D, ys, c, rfl, N3.fresh (.head _), N3.get (.head _), hys⟩
end
end
section
section
variable {w : World} {mean : ExcName → Option Value} {mg mb : Str → Option Value}
set_option maxRecDepth 100000 in
set_option maxHeartbeats 4000000 in
theorem fspath_spec (x : Str) (t : Tok) : Fn w mean mg mb 156 20 100 [.str x t] (fun _ => True) (fun _ v _ => v = .str x t) := by
  rintro dp un fr gd s R hr G - hR
  refine' enter (d := 19) (u := 97) (binds := [(Str.ofString "path", .str x t)]) hr G ?ho ?hcd ?hb ?hl ?hc ?_ ?c1 ?c2 ?c3
  walk_at "m enter"
  intro L h₁ hr' F N X T
  refine wp_in (by passes_own) hr' ?_
  clear hr'
  intro dp un fr gd Q₀ E₀ hr' hE₀ hQ₀
  walk_at "m ec"
  walk_at "m go"
  rename News _ _ _ _ => N2
  rename Fr _ _ _ _ => F2
  refine issub_str_tuple (N2.get (.head _)) fun tk => ?_
  walk_at "m go"
  walk_at "m hd"
  exact hR _ _ _ F2.keep rfl
theorem getsep_spec (x : Str) (t : Tok) : Fn w mean mg mb 170 20 100 [.str x t] (fun _ => True) (fun _ v _ => ∃ t', v = .str (Str.ofString "/") t') := by
  rintro dp un fr gd s R hr G - hR
  refine' enter (d := 19) (u := 97) (binds := [(Str.ofString "path", .str x t)]) hr G ?ho ?hcd ?hb ?hl ?hc ?_ ?c1 ?c2 ?c3
  walk_at "m enter"
  intro L h₁ hr' F N X T
  refine wp_in (by passes_own) hr' ?_
  clear hr'
  intro dp un fr gd Q₀ E₀ hr' hE₀ hQ₀
  walk_at "m ec"
  walk_at "m go"
  walk_at "m hd"
  refine hR _ _ _ F.keep ⟨_, rfl⟩
end
end
section
theorem bind_var {name qual : Str} {b : Str} {p1 p2 : Pos} {body : List Stmt} {scope : Scope} {doc pm cdv ct : Value} {an : Option Addr} {v : Value} {vs : List Value} :
    bindArgs (fnOf name qual { posonlyargs := [], args := [{ arg := Str.ofString "a", annotation := none, pos := p1 }], vararg := some { arg := b, annotation := none, pos := p2 }, kwonlyargs := [], kw_defaults := [], kwarg := none, defaults := [] } body scope .none .none doc pm an cdv ct) ⟨v :: vs, []⟩ =
      (do let t ← newTuple vs; pure [(Str.ofString "a", v), (b, t)]) := by
  unfold bindArgs
  dsimp only
  simp only [List.map_nil, List.map_cons, List.nil_append, List.append_nil, List.length_cons, List.length_nil, Option.isNone_some, Bool.and_false, Bool.false_eq_true, if_false]
  rfl
section
variable {w : World} {mean : ExcName → Option Value} {mg mb : Str → Option Value}
theorem Iter.tuple {prog : Program} {w : World} {A : Around} {L a : Addr} {h : Heap} {vs : List Value} (hh : A.handled = none) (hl : h.IsTuple a vs.toArray) (haL : a ≠ L) (hLs : L < h.objs.size) : Iter prog w A L h (.ref a) vs.length (fun i v => vs[i]? = some v) := by
  rintro s Q E rfl hQ
  obtain ⟨ol, hol, _⟩ := id hl
  have hlt : a < s.heap.objs.size := Heap.lt_size hol
  have hne : a ≠ s.heap.objs.size := Nat.ne_of_lt hlt
  refine wpAny_pyIter_tuple hl ?_
  have W := Walks.tuple (prog := prog) (w := w) hh s.heap.objs.size a hne vs.toArray
  have hlen : vs.toArray.size = vs.length := by simp
  have hP : (fun (i : Nat) (v : Value) => vs.toArray[i]? = some v) = fun i v => vs[i]? = some v := by funext i v; simp
  rw [hlen, hP] at W
  refine hQ _ _ _ _ _ s.toks W ?_ ⟨⟨_, Heap.get?_push_size _ rfl, rfl, rfl⟩, hl.at fun o e => Heap.get?_push_of_some _ e⟩ (Ext.push _ _) (by rw [Heap.size_push]; exact Nat.le_succ _) ?_ ?_ ?_
  · intro hm
    rcases List.mem_cons.mp hm with e | hm
    · exact Nat.ne_of_lt hLs e
    · exact haL (List.mem_singleton.mp hm).symm
  · intro b hb; rw [List.mem_singleton.mp hb]; exact none_size _
  · intro b hb
    rw [Heap.size_push]
    rcases List.mem_cons.mp hb with e | hm
    · rw [e]; exact Nat.lt_succ_self _
    · rw [List.mem_singleton.mp hm]; exact Nat.lt_succ_of_lt hlt
  · rintro i g ⟨⟨o, ho, _⟩, _⟩ b hb
    rw [List.mem_singleton.mp hb]; exact ⟨o, ho⟩
theorem enterV {A : Around} {R : Result → Shared → Prop} {s : Shared} {d u : Nat} {name qual : Str} {params : Arguments} {body : List Stmt} {scope : Scope} {dV kV doc pm cdv ct oc : Value} {an od : Option Addr} {osl : Array (Option Value)} {f : Addr} {args : Args} {x : Str} {v : Value} {y : Str} {vs : List Value}
    (hr : Room A (d + 1) (u + 3)) (G : Gd w mean mg mb s.heap)
    (ho : (Mine.h0.heap_1 w.params).lookup f = some ⟨oc, od, .func (fnOf name qual params body scope dV kV doc pm an cdv ct), osl⟩) (hcd : codeIn (Mine.h0.heap_1 w.params) cdv qual = true)
    (hbind : bindArgs (fnOf name qual params body scope dV kV doc pm an cdv ct) args = (do let t ← newTuple vs; pure [(x, v), (y, t)])) (hx : scope.names.lookup x = some .local) (hy : scope.names.lookup y = some .local)
    (hcell : ∀ x ∈ scope.names, x.2 ≠ .cell) (hsz : vs.length ≤ sizeLine)
    (h : ∀ L T h₁, Room (A.deeper (envOf qual scope L f cdv)) d u → Fr s.heap L h₁ (fun z => [(x, v), (y, .ref T)].reverse.lookup z) → News s.heap L h₁ [(T, { cls := .type "tuple", data := .seq vs.toArray })] → (Mine.h0.heap_1 w.params).In s.heap → TopAt mean mg mb s.heap →
      wpAny (model prog w) (A.deeper (envOf qual scope L f cdv)) (execs body (envOf qual scope L f cdv))
        (fun fl s' => R (.ok (.ret (match fl with | .ret v => v | _ => .none))) s')
        (fun e s' => wpAny (model prog w) (A.deeper (envOf qual scope L f cdv)) (leaving (envOf qual scope L f cdv) e) (fun _ s'' => R (.error e) s'') (fun e' s'' => R (.error e') s'') s')
        { s with heap := h₁, toks := s.toks + 2 })
    (hco : scope.isCoroutine = false) (hgen : scope.isGenerator = false) (hk : scope.kind = .function) :
    codeAny (model prog w) A (.call (.ref f) args) R s := by
  refine codeAny_call_function (fd := fnOf name qual params body scope dV kV doc pm an cdv ct) (by have := hr.depth; omega) (G.k _ _ ho) rfl hco hgen rfl (codeRec_of G.k hcd) ?_
  rw [hbind]
  refine wpAny_bind (wpAny_newTuple (wpAny_pure ?_) hsz)
  have e1 : Ext s.heap (s.heap.push { cls := .type "tuple", data := .seq vs.toArray }) := Ext.push _ _
  refine wpAny_newFunctionEnv hcell ?_ (fun h₁ hns hsb => ?_) hk
  · intro z hz
    rcases List.mem_cons.mp hz with rfl | hz
    · exact hx
    · rw [List.mem_singleton.mp hz]; exact hy
  · have hk₁ : Ext (s.heap.push { cls := .type "tuple", data := .seq vs.toArray }) h₁ := fun b o e => hsb.extBut b o (Nat.ne_of_lt (Heap.lt_size e)) (Heap.get?_push_of_some _ e)
    refine ⟨(G.top.nolimit.keeps e1).fresh _ hsb, codeAny_func ?_⟩
    refine h _ s.heap.objs.size h₁ (hr.deeper _) ⟨hns, fun b o e => hk₁ b o (e1 b o e), by rw [Heap.size_push]; exact Nat.le_succ _⟩ ?_ G.k G.top
    intro p hp
    rw [List.mem_singleton.mp hp]
    exact ⟨hk₁ _ _ (Heap.get?_push_size _ rfl), by rw [Heap.size_push]; exact Nat.ne_of_lt (Nat.lt_succ_self _), none_size _⟩
end
section
abbrev mkS (l : List Nat) : Str := ⟨l.toArray⟩
theorem slash_is : Str.ofString "/" = mkS [47] := by decide +kernel
theorem mkS_len (l : List Nat) : (mkS l).length = l.length := by show l.toArray.size = _; simp
theorem mkS_append (a b : List Nat) : mkS a ++ mkS b = mkS (a ++ b) := by show Str.mk (a.toArray ++ b.toArray) = _; simp
theorem starts_slash (l : List Nat) (h : l.head? ≠ some 47) : Txt.startswith (mkS l) (mkS [47]) = false := by
  cases l with
  | nil => rfl
  | cons c r =>
    have hc : c ≠ 47 := fun e => h (by rw [e]; rfl)
    unfold Txt.startswith Builtin.Str.subAt
    have e : (mkS (c :: r)).cps.extract 0 (0 + (mkS [47]).length) = #[c] := by
      rw [mkS_len]; simp [mkS]
    rw [e]
    have : (#[c] == (mkS [47]).cps) = false := by
      apply beq_eq_false_iff_ne.mpr
      intro q
      have : c = 47 := by simpa [mkS] using q
      exact hc this
    rw [this, Bool.and_false]
theorem ends_slash (l : List Nat) (h : l.getLast? ≠ some 47) : Txt.endswith (mkS l) (mkS [47]) = false := by
  rcases List.eq_nil_or_concat l with rfl | ⟨r, c, e0⟩
  · rfl
  · rw [List.concat_eq_append] at e0; subst e0
    have hc : c ≠ 47 := fun e => h (by rw [e]; simp)
    unfold Txt.endswith Builtin.Str.subAt
    have e : (mkS (r ++ [c])).cps.extract ((mkS (r ++ [c])).length - (mkS [47]).length) ((mkS (r ++ [c])).length - (mkS [47]).length + (mkS [47]).length) = #[c] := by
      rw [mkS_len, mkS_len]; simp [mkS]
    rw [e]
    have : (#[c] == (mkS [47]).cps) = false := by
      apply beq_eq_false_iff_ne.mpr
      intro q
      have : c = 47 := by simpa [mkS] using q
      exact hc this
    rw [this, Bool.and_false]
def joinL (a : List Nat) (segs : List (List Nat)) : List Nat := segs.foldl (fun p b => p ++ 47 :: b) a
def Seg (l : List Nat) : Prop := l ≠ [] ∧ l.head? ≠ some 47 ∧ l.getLast? ≠ some 47 ∧ l.length ≤ 20
theorem joinL_len (a : List Nat) (segs : List (List Nat)) (h : ∀ b ∈ segs, Seg b) : (joinL a segs).length ≤ a.length + segs.length * 21 := by
  induction segs generalizing a with
  | nil => simp [joinL]
  | cons b r ih =>
    have := ih (a ++ 47 :: b) (fun c hc => h c (.tail _ hc))
    have hb := (h b (.head _)).2.2.2
    simp only [List.length_append, List.length_cons] at this
    show (joinL (a ++ 47 :: b) r).length ≤ _
    simp only [List.length_cons]
    omega
theorem joinL_ends (a : List Nat) (segs : List (List Nat)) (ha : a ≠ [] ∧ a.getLast? ≠ some 47) (h : ∀ b ∈ segs, Seg b) : joinL a segs ≠ [] ∧ (joinL a segs).getLast? ≠ some 47 := by
  induction segs generalizing a with
  | nil => exact ha
  | cons b r ih =>
    refine ih (a ++ 47 :: b) ⟨by simp, ?_⟩ (fun c hc => h c (.tail _ hc))
    have hb := h b (.head _)
    intro q
    apply hb.2.2.1
    rw [List.getLast?_append, List.getLast?_cons] at q
    rcases List.eq_nil_or_concat b with rfl | ⟨b', x, e⟩
    · exact absurd rfl hb.1
    · rw [List.concat_eq_append] at e; subst e
      simpa using q
theorem joinL_take (a : List Nat) (segs : List (List Nat)) (i : Nat) (b : List Nat) (h : segs[i]? = some b) : joinL a (segs.take (i + 1)) = joinL a (segs.take i) ++ 47 :: b := by
  unfold joinL
  rw [List.take_add_one, h, List.foldl_append]
  rfl
theorem truthy_mkS {prog : Program} {w : World} {A : Around} {E : Value → Shared → Prop} {s : Shared} {t : Tok} {Q : Bool → Shared → Prop} {l : List Nat} (h : l ≠ []) (hl : l.length ≤ 16777216) (k : ∀ k, Q true { s with toks := k }) : wpAny (model prog w) A (PySem.truthy (.str (mkS l) t)) Q E s :=
  KXt.truthy_pos (K := 16777216) (by rw [mkS_len]; cases l with | nil => exact absurd rfl h | cons _ _ => simp) (by rw [mkS_len]; exact hl) (Nat.le_refl _) k
variable {w : World} {mean : ExcName → Option Value} {mg mb : Str → Option Value}
/-- what holds ahead of a turn -/
inductive J8 (a : List Nat) (segs : List (List Nat)) (i : Nat) (m : Str → Option Value) : Prop
  | mk (t1 : Tok) (t2 : Tok) (_ : m (Str.ofString "path") = some (.str (mkS (joinL a (segs.take i))) t1)) (_ : m (Str.ofString "sep") = some (.str (Str.ofString "/") t2))
set_option maxRecDepth 100000 in
set_option maxHeartbeats 4000000 in
theorem join_spec (a : List Nat) (ta : Tok) (segs : List (List Nat)) (vs : List Value) (ha : Seg a) (hs : ∀ b ∈ segs, Seg b) (hn : segs.length ≤ 12) (hv : StrsAre vs (segs.map mkS)) :
    Fn w mean mg mb 177 40 200 (.str (mkS a) ta :: vs) (fun _ => True) (fun _ v _ => ∃ t, v = .str (mkS (joinL a segs)) t) := by
  rintro dp un fr gd s R hr G - hR
  refine' enterV (d := 39) (u := 197) hr G ?ho ?hcd ?hb ?hx ?hy ?hc ?hz ?_ ?c1 ?c2 ?c3
  (case ho => k_dflt k_is)
  (case hcd => k_dflt k_is)
  (case hb => exact bind_var)
  (case hx => rfl)
  (case hy => rfl)
  (case hc => decide)
  (case hz => have := hv.len_eq; rw [this, List.length_map, sizeLine_eq]; omega)
  (case c1 => rfl)
  (case c2 => rfl)
  (case c3 => rfl)
  intro L Tp h₁ hr' F N X T
  refine wp_in (by passes_own) hr' ?_
  clear hr'
  intro dp un fr gd Q₀ E₀ hr' hE₀ hQ₀
  walk_at "m ec"
  walk_at "m go"
  refine call_fn (fspath_spec _ _) F N X T (hr'.mono (by decide) (by decide)) trivial ?_
  rintro v h2 tk2 e2 F2 N2 rfl
  walk_at "m go"
  rename Fr _ _ _ _ => F3
  rename News _ _ _ _ => N3
  refine call_fn (getsep_spec _ _) F3 N3 X T (hr'.mono (by decide) (by decide)) trivial ?_
  rintro v h4 tk4 e4 F4 N4 ⟨t4, rfl⟩
  walk_at "m go"
  rename Fr _ _ _ _ => F5
  rename News _ _ _ _ => N5
  refine' iter_any (n := vs.length) (P := fun i v => vs[i]? = some v) (J8 a segs) (Iter.tuple hr'.handled ?hl (N5.get (.head _) |> fun _ => (N5 _ (.head _)).2.1) F5.ns.lt) F5 N5 ?hj ?turn ?done ?hL
  case hl => exact ⟨_, N5.get (.head _), rfl, _, rfl⟩
  case hL => rfl
  case hj => exact ⟨_, _, rfl, rfl⟩
  case turn =>
    rintro i v m₁ h tk own hin hi ⟨t1, t2, hp, hsp⟩ F6 N6
    clear F5 N5
    obtain ⟨y, ty, rfl, hy⟩ := hv.item i v hi
    obtain ⟨b, hb, rfl⟩ : ∃ b, segs[i]? = some b ∧ mkS b = y := by
      rw [List.getElem?_map] at hy
      cases q : segs[i]? with
      | none => rw [q] at hy; cases hy
      | some c => rw [q] at hy; exact ⟨c, rfl, Option.some.inj hy⟩
    have hbS := hs b (List.mem_of_getElem? hb)
    walk_at "m ec"
    walk_at "m go"
    refine call_fn (fspath_spec _ _) F6 N6 X T (hr'.mono (by decide) (by decide)) trivial ?_
    rintro v h7 tk7 e7 F7 N7 rfl
    have hst := starts_slash b hbS.2.1
    rw [← slash_is] at hst
    have hln := joinL_len a (segs.take i) (fun b hb => hs b (List.mem_of_mem_take hb))
    have htl : (segs.take i).length ≤ 12 := by rw [List.length_take]; omega
    have haL := ha.2.2.2
    have hen := joinL_ends a (segs.take i) ⟨ha.1, ha.2.2.1⟩ (fun b hb => hs b (List.mem_of_mem_take hb))
    have hend := ends_slash _ hen.2
    rw [← slash_is] at hend
    have hbl := hbS.2.2.2
    have hsz1 : (Str.ofString "/").length + (mkS b).length ≤ sizeLine := by rw [slash_is, mkS_len, mkS_len, sizeLine_eq]; simp; omega
    have hsz2 : (mkS (joinL a (segs.take i))).length + (Str.ofString "/" ++ mkS b).length ≤ sizeLine := by rw [slash_is, mkS_append, mkS_len, mkS_len, sizeLine_eq]; simp; omega
    walk_at "m go"
    refine truthy_mkS hen.1 (by omega) ?_
    intro k
    walk_at "m go"
    walk_at "m end"
    have e : mkS (joinL a (segs.take i)) ++ (Str.ofString "/" ++ mkS b) = mkS (joinL a (segs.take (i + 1))) := by
      rw [joinL_take a segs i b hb, slash_is, mkS_append, mkS_append]
      rfl
    refine ⟨_, _, congrArg (fun z => some (Value.str z _)) e, hsp⟩
  case done =>
    rintro m₁ h tk ⟨t1, t2, hp, hsp⟩ F6 N6
    clear F5 N5
    walk_at "m go"
    walk_at "m hd"
    refine hR _ _ _ F6.keep ⟨t1, ?_⟩
    rw [show vs.length = segs.length by rw [hv.len_eq, List.length_map], List.take_length]
end
end
section
section
theorem append_mine {prog : Program} {w : World} {A : Around} {E : Value → Shared → Prop} {s : Shared} {h₀ : Heap} {L M : Addr} {m : Str → Option Value} {rest : List (Addr × Obj)} {xs : List Value} {c : Nat} {v : Value} {Q : Value → Shared → Prop} (F : Fr h₀ L s.heap m) (N : News h₀ L s.heap ((M, lst xs c) :: rest)) (ho : ∀ p ∈ rest, p.1 ≠ M) (hsz : xs.length ≤ 100000)
    (h : ∀ h', Fr h₀ L h' m → News h₀ L h' ((M, lst (xs ++ [v]) (c + 1)) :: rest) → Q .none { s with heap := h' }) : wpAny (model prog w) A (call (.builtin "list.append") [.ref M, v]) Q E s := by
  refine append_K (its := xs.toArray) (n := c) (x := v) (news' := (M, lst (xs ++ [v]) (c + 1)) :: rest) F N ?_ h (by simp [sizeLine_eq]; omega)
  have e : lst (xs ++ [v]) (c + 1) = PySem.W.listOf (xs.toArray.push v) (c + 1) := by simp [lst, PySem.W.listOf]
  rw [e]
  exact Upd.head ho
theorem pop_mine {prog : Program} {w : World} {A : Around} {E : Value → Shared → Prop} {s : Shared} {h₀ : Heap} {L M : Addr} {m : Str → Option Value} {rest : List (Addr × Obj)} {xs : List Value} {c : Nat} {v : Value} {Q : Value → Shared → Prop} (F : Fr h₀ L s.heap m) (N : News h₀ L s.heap ((M, lst (xs ++ [v]) c) :: rest)) (ho : ∀ p ∈ rest, p.1 ≠ M) (hsz : xs.length ≤ 100000)
    (h : ∀ h', Fr h₀ L h' m → News h₀ L h' ((M, lst xs (c + 1)) :: rest) → Q v { s with heap := h' }) : wpAny (model prog w) A (call (.builtin "list.pop") [.ref M]) Q E s := by
  refine kl_pop (its := (xs ++ [v]).toArray) (n := c) (p := xs) (y := v) (news' := (M, lst xs (c + 1)) :: rest) F N (kpa_last v xs) (Upd.head ho) (by simp [sizeLine_eq]; omega) h
def MutPost (h₀ : Heap) (L : Addr) (J : (Str → Option Value) → List Value → Prop) (M : Addr) (need : List (Addr × Obj)) (s₁ : Shared) (Q : Flow → Shared → Prop) (f : Flow) (s₂ : Shared) : Prop :=
  match f with
  | .ret v => Q (.ret v) s₂
  | .brk => Q .next s₂
  | _ => ∃ h' tk m' news' xs c, s₂ = { s₁ with heap := h', toks := tk } ∧ Fr h₀ L h' m' ∧ News h₀ L h' news' ∧ (M, lst xs c) ∈ news' ∧ (∀ p ∈ need, p ∈ news') ∧ J m' xs
theorem iter_mut0 {prog : Program} {w : World} {A : Around} {E : Value → Shared → Prop} {s : Shared} {env : Env} {h₀ : Heap} {x : Str} {body : List Stmt} {Q : Flow → Shared → Prop} {a M : Addr} {vs xs₀ : List Value} {c₀ : Nat} {m₀ : Str → Option Value} {news : List (Addr × Obj)} (J : Nat → (Str → Option Value) → List Value → Prop)
    (hh : A.handled = none) (hl : s.heap.IsList a vs.toArray) (haL : a ≠ env.locals) (haM : a ≠ M) (F : Fr h₀ env.locals s.heap m₀) (N : News h₀ env.locals s.heap ((M, lst xs₀ c₀) :: news)) (ho : ∀ p ∈ news, p.1 ≠ M) (hj : J 0 m₀ xs₀)
    (turn : ∀ i v m₁ h tk own xs c, vs[i]? = some v → J i m₁ xs → Fr h₀ env.locals h (fun y => if y = x then some v else m₁ y) → News h₀ env.locals h ((M, lst xs c) :: (own ++ news)) → (∀ p ∈ own ++ news, p.1 ≠ M) →
      wpAny (model prog w) A (execs body env) (MutPost h₀ env.locals (J (i + 1)) M (own ++ news) { s with heap := h, toks := tk } Q) E { s with heap := h, toks := tk })
    (done : ∀ m₁ h tk xs c, J vs.length m₁ xs → Fr h₀ env.locals h m₁ → News h₀ env.locals h ((M, lst xs c) :: news) → Q .next { s with heap := h, toks := tk }) :
    wpAny (model prog w) A (pyIter (.ref a)) (fun it s₂ => LoopAtV prog w A h₀ env x body Q E it s₂) E s := by
  obtain ⟨ol, hol, _⟩ := id hl
  have hlt : a < s.heap.objs.size := Heap.lt_size hol
  have hne : a ≠ s.heap.objs.size := Nat.ne_of_lt hlt
  refine wpAny_pyIter_list hl ?_
  have W := Walks.list (prog := prog) (w := w) hh s.heap.objs.size a hne vs.toArray
  have hlen : vs.toArray.size = vs.length := by simp
  rw [hlen] at W
  have hMs : M < s.heap.objs.size := Heap.lt_size (N _ (.head _)).1
  let J' : Nat → (Str → Option Value) → List (Addr × Obj) → Prop := fun i m₁ news₁ => ∃ xs c, news₁ = (M, lst xs c) :: news ∧ J i m₁ xs
  refine ⟨_, _, _, vs.length, _, _, m₀, (M, lst xs₀ c₀) :: news, J', rfl, W, ?_, ?_, ?_, ⟨⟨_, Heap.get?_push_size _ rfl, rfl, rfl⟩, hl.at fun o e => Heap.get?_push_of_some _ e⟩, F.push _, (fun p hp => ⟨Heap.get?_push_of_some _ (N p hp).1, (N p hp).2⟩), ⟨_, _, rfl, hj⟩, ?_, ?_⟩
  · intro hm
    rcases List.mem_cons.mp hm with e | hm
    · exact absurd F.ns.lt (e ▸ Nat.lt_irrefl _)
    · exact haL (List.mem_singleton.mp hm).symm
  · intro b hb
    rw [List.mem_singleton.mp hb]
    exact next_is_new F
  · intro p hp hI
    exact absurd (Heap.lt_size (N p hp).1) ((List.mem_singleton.mp hI) ▸ Nat.lt_irrefl _)
  · rintro i v m₁ news₁ s₁ own ⟨hh', tk', rfl⟩ hin hP ⟨xs, c, rfl, hJ⟩ hoff hown _ _ _ F₁ N₁
    have hP' : vs[i]? = some v := by simpa using hP
    have hownM : ∀ p ∈ own, p.1 ≠ M := by
      intro p hp
      rcases List.mem_cons.mp (hown p hp) with h1 | h1
      · rw [h1]; exact Nat.ne_of_gt hMs
      · rw [List.mem_singleton.mp h1]; exact haM
    have hoM : ∀ p ∈ own ++ news, p.1 ≠ M := fun p hp => (List.mem_append.mp hp).elim (hownM p) (ho p)
    refine wpAny_mono (turn i v m₁ hh' tk' own xs c hP' hJ F₁ (News.sub N₁ ?_) hoM) (fun f s₂ p => ?_) fun _ _ e => e
    · intro p hp
      rcases List.mem_cons.mp hp with rfl | hp
      · exact List.mem_append.mpr (.inr (.head _))
      · rcases List.mem_append.mp hp with h1 | h1
        · exact List.mem_append.mpr (.inl h1)
        · exact List.mem_append.mpr (.inr (.tail _ h1))
    have fin : (∃ h' tk m' news' xs c, s₂ = { s with heap := h', toks := tk } ∧ Fr h₀ env.locals h' m' ∧ News h₀ env.locals h' news' ∧ (M, lst xs c) ∈ news' ∧ (∀ p ∈ own ++ news, p ∈ news') ∧ J (i + 1) m' xs) → LoopStepU h₀ env.locals [s.heap.objs.size] own (J' (i + 1)) { s with heap := hh', toks := tk' } .next s₂ := by
      rintro ⟨h', tk, m', news', xs', c', e, F', N', hM', hn, hm⟩
      refine ⟨rfl, h', tk, m', (M, lst xs' c') :: news, e, F', News.sub N' ?_, ?_, xs', c', rfl, hm⟩
      · intro p hp
        rcases List.mem_append.mp hp with h1 | h1
        · exact hn p (List.mem_append.mpr (.inl h1))
        · rcases List.mem_cons.mp h1 with rfl | h1
          · exact hM'
          · exact hn p (List.mem_append.mpr (.inr h1))
      · intro p hp
        rcases List.mem_cons.mp hp with rfl | hp
        · exact hoff (M, lst xs c) (.head _)
        · exact hoff _ (.tail _ hp)
    cases f with
    | ret v => exact .ret p
    | brk => exact .brk p
    | next => exact .next (fin p)
    | cont => exact .cont (fin p)
  · rintro h' tk m' news' F' N' _ ⟨xs, c, rfl, hJ⟩
    exact done m' h' tk xs c hJ F' N'
theorem iter_mut {prog : Program} {w : World} {A : Around} {E : Value → Shared → Prop} {s : Shared} {env : Env} {h₀ : Heap} {x : Str} {body : List Stmt} {Q : Flow → Shared → Prop} {L a M : Addr} {vs xs₀ : List Value} {c₀ : Nat} {m₀ : Str → Option Value} {news : List (Addr × Obj)} (J : Addr → Nat → (Str → Option Value) → List Value → Prop)
    (hh : A.handled = none) (hl : s.heap.IsList a vs.toArray) (haL : a ≠ L) (haM : a ≠ M) (F : Fr h₀ L s.heap m₀) (N : News h₀ L s.heap ((M, lst xs₀ c₀) :: news)) (ho : ∀ p ∈ news, p.1 ≠ M) (hj : J M 0 m₀ xs₀)
    (turn : ∀ i v m₁ h tk own xs c, vs[i]? = some v → J M i m₁ xs → Fr h₀ L h (fun y => if y = x then some v else m₁ y) → News h₀ L h ((M, lst xs c) :: (own ++ news)) → (∀ p ∈ own ++ news, p.1 ≠ M) →
      wpAny (model prog w) A (execs body env) (MutPost h₀ L (J M (i + 1)) M (own ++ news) { s with heap := h, toks := tk } Q) E { s with heap := h, toks := tk })
    (done : ∀ m₁ h tk xs c, J M vs.length m₁ xs → Fr h₀ L h m₁ → News h₀ L h ((M, lst xs c) :: news) → Q .next { s with heap := h, toks := tk })
    (hL : env.locals = L) :
    wpAny (model prog w) A (pyIter (.ref a)) (fun it s₂ => LoopAtV prog w A h₀ env x body Q E it s₂) E s := by
  subst hL
  exact iter_mut0 (J M) hh hl haL haM F N ho hj turn done
theorem MutPost.intro {h₀ h' : Heap} {L M : Addr} {J : (Str → Option Value) → List Value → Prop} {m' : Str → Option Value} {need news' : List (Addr × Obj)} {s₁ : Shared} {tk : Nat} {xs : List Value} {c : Nat} (F : Fr h₀ L h' m') (N : News h₀ L h' news') (hM : (M, lst xs c) ∈ news') (hn : ∀ p ∈ need, p ∈ news') (hj : J m' xs) :
    ∃ h'' tk' m' news' xs c, { s₁ with heap := h', toks := tk } = { s₁ with heap := h'', toks := tk' } ∧ Fr h₀ L h'' m' ∧ News h₀ L h'' news' ∧ (M, lst xs c) ∈ news' ∧ (∀ p ∈ need, p ∈ news') ∧ J m' xs := ⟨h', tk, m', news', xs, c, rfl, F, N, hM, hn, hj⟩
end
section
def cut (c : Nat) : List Nat → List (List Nat)
  | [] => [[]]
  | x :: r => if x = c then [] :: cut c r else match cut c r with
    | [] => [[x]]
    | p :: q => (x :: p) :: q
theorem cut_free {c : Nat} : ∀ {a r : List Nat}, c ∉ a → cut c (a ++ c :: r) = a :: cut c r
  | [], r, _ => by simp [cut]
  | x :: a, r, h => by
    have hx : x ≠ c := fun e => h (e ▸ .head _)
    show cut c (x :: (a ++ c :: r)) = _
    rw [cut, if_neg hx, cut_free (fun hm => h (.tail _ hm))]
theorem cut_one {c : Nat} : ∀ {a : List Nat}, c ∉ a → cut c a = [a]
  | [], _ => rfl
  | x :: a, h => by
    have hx : x ≠ c := fun e => h (e ▸ .head _)
    rw [cut, if_neg hx, cut_one (fun hm => h (.tail _ hm))]
theorem joinL_pre (x a : List Nat) (segs : List (List Nat)) : joinL (x ++ a) segs = x ++ joinL a segs := by
  induction segs generalizing a with
  | nil => rfl
  | cons b r ih =>
    show joinL (x ++ a ++ 47 :: b) r = x ++ joinL (a ++ 47 :: b) r
    rw [List.append_assoc, ih]
theorem joinL_cons (a b : List Nat) (r : List (List Nat)) : joinL a (b :: r) = a ++ 47 :: joinL b r := by
  show joinL (a ++ 47 :: b) r = _
  rw [show a ++ 47 :: b = (a ++ [47]) ++ b by simp, joinL_pre]; simp
theorem cut_joinL : ∀ (segs : List (List Nat)) (a : List Nat), 47 ∉ a → (∀ b ∈ segs, 47 ∉ b) → cut 47 (joinL a segs) = a :: segs
  | [], a, h, _ => cut_one h
  | b :: r, a, h, hs => by
    rw [joinL_cons, cut_free h, cut_joinL r b (hs b (.head _)) (fun c hc => hs c (.tail _ hc))]
theorem join_mkS (a : List Nat) (segs : List (List Nat)) : Str.join (mkS [47]) (mkS a :: segs.map mkS) = mkS (joinL a segs) := by
  rw [← StrLaws.glued_cons]
  show Str.mk _ = Str.mk _
  congr 1
  show (segs.map mkS).foldl (fun acc p => acc ++ #[47] ++ p.cps) a.toArray = (joinL a segs).toArray
  induction segs generalizing a with
  | nil => rfl
  | cons b r ih =>
    rw [List.map_cons, List.foldl_cons]
    show (r.map mkS).foldl (fun acc p => acc ++ #[47] ++ p.cps) (a.toArray ++ #[47] ++ b.toArray) = (joinL (a ++ 47 :: b) r).toArray
    rw [← ih]
    congr 1
    simp
theorem mkS_toList (x : Str) : mkS x.cps.toList = x := by cases x; simp [mkS]
theorem mkS_inj {a b : List Nat} (h : mkS a = mkS b) : a = b := by
  have := congrArg (fun x : Str => x.cps.toList) h
  simpa [mkS] using this
theorem split_mkS (a : List Nat) (segs : List (List Nat)) (h : 47 ∉ a) (hs : ∀ b ∈ segs, 47 ∉ b) : Txt.split (mkS (joinL a segs)) (Str.ofString "/") = (a :: segs).map mkS := by
  rw [slash_is]
  have h1 := StrLaws.join_split (mkS (joinL a segs)) (mkS [47])
  have h2 := StrLaws.split_free (mkS (joinL a segs)) 47
  have h3 := split_pos (mkS (joinL a segs)) (mkS [47])
  change ∀ p ∈ Txt.split (mkS (joinL a segs)) (mkS [47]), _ at h2
  generalize Txt.split (mkS (joinL a segs)) (mkS [47]) = ps at h1 h2 h3
  cases ps with
  | nil => simp at h3
  | cons p qs =>
    have e1 : mkS p.cps.toList :: (qs.map (fun q => q.cps.toList)).map mkS = p :: qs := by
      rw [mkS_toList, List.map_map]
      congr 1
      rw [show (mkS ∘ fun q : Str => q.cps.toList) = id from funext fun q => mkS_toList q, List.map_id]
    rw [← e1, join_mkS] at h1
    have e2 := mkS_inj h1
    have e3 := cut_joinL (qs.map (fun q => q.cps.toList)) p.cps.toList (h2 p (.head _)) (by
      intro b hb
      obtain ⟨q, hq, rfl⟩ := List.mem_map.mp hb
      exact h2 q (.tail _ hq))
    rw [e2, cut_joinL segs a h hs] at e3
    rw [← e1, e3]
    rfl
theorem slice_root (a : List Nat) (h : a.head? ≠ some 47) : (Txt.slice (mkS a) none (some 1) == (Str.ofString "/")) = false := by
  cases a with
  | nil => decide +kernel
  | cons c r =>
    have e := eq_of_beq (slice_closes_toL (x := ⟨(c :: r).toArray⟩) (j := 1) (by decide) (by simp [Str.length]; omega))
    rw [e]
    have e2 : (((Str.mk (c :: r).toArray).cps.toList.drop (0 : Int).toNat).take ((1 : Int) - 0).toNat) = [c] := by simp
    rw [e2]
    have hc : c ≠ 47 := fun q => h (by simp [q])
    apply beq_eq_false_iff_ne.mpr
    intro q
    rw [slash_is] at q
    exact hc (by simpa using mkS_inj q)
variable {w : World} {mean : ExcName → Option Value} {mg mb : Str → Option Value}
set_option maxRecDepth 100000 in
set_option maxHeartbeats 4000000 in
theorem splitroot_spec (a : List Nat) (ta : Tok) (ha : a.head? ≠ some 47) (hal : a.length ≤ 1000) :
    Fn w mean mg mb 184 40 200 [.str (mkS a) ta] (fun _ => True) (fun h v h' => ∃ D t1 t2 t3, v = .ref D ∧ h.get? D = none ∧ h'.get? D = some { cls := .type "tuple", data := .seq #[.str (Str.ofString "") t1, .str (Str.ofString "") t2, .str (mkS a) t3] }) := by
  rintro dp un fr gd s R hr G - hR
  refine' enter (d := 39) (u := 197) (binds := [(Str.ofString "p", .str (mkS a) ta)]) hr G ?ho ?hcd ?hb ?hl ?hc ?_ ?c1 ?c2 ?c3
  walk_at "m enter"
  intro L h₁ hr' F N X T
  refine wp_in (by passes_own) hr' ?_
  clear hr'
  intro dp un fr gd Q₀ E₀ hr' hE₀ hQ₀
  walk_at "m ec"
  walk_at "m go"
  refine call_fn (fspath_spec _ _) F N X T (hr'.mono (by decide) (by decide)) trivial ?_
  rintro v h2 tk2 e2 F2 N2 rfl
  have hsl := slice_root a ha
  have hsl2 : (Txt.slice (mkS a) none (some 1) != (Str.ofString "/")) = true := by unfold bne; rw [hsl]; rfl
  have hsz : (mkS a).length ≤ 1000 := by rw [mkS_len]; exact hal
  walk_at "m go"
  rename Fr _ _ _ _ => F3
  rename News _ _ _ _ => N3
  walk_at "m hd"
  exact hR _ _ _ F3.keep ⟨_, _, _, _, rfl, N3.fresh (.head _), N3.get (.head _)⟩
theorem StrsAre.snoc {vs : List Value} {ts : List Str} {x : Str} (h : StrsAre vs (ts ++ [x])) : ∃ vs' t, vs = vs' ++ [.str x t] ∧ StrsAre vs' ts := by
  induction ts generalizing vs with
  | nil =>
    obtain ⟨t, vs', rfl, h'⟩ := h.cons_inv
    rw [h'.nil_inv]
    exact ⟨[], t, rfl, .nil⟩
  | cons y r ih =>
    obtain ⟨t, vs', rfl, h'⟩ := h.cons_inv
    obtain ⟨vs'', t', rfl, h''⟩ := ih h'
    exact ⟨_ :: vs'', t', rfl, .cons _ _ h''⟩
theorem truthy_ne {prog : Program} {w : World} {A : Around} {E : Value → Shared → Prop} {s : Shared} {Q : Bool → Shared → Prop} {h₀ : Heap} {L M : Addr} {xs : List Value} {c : Nat} {news : List (Addr × Obj)} (N : News h₀ L s.heap news) (hm : (M, lst xs c) ∈ news) (hx : xs ≠ []) (hl : xs.length ≤ 100000) (k : ∀ k, Q true { s with toks := k }) : wpAny (model prog w) A (PySem.truthy (.ref M)) Q E s := by
  refine wpAny_truthy_list (isList_of (N.get hm)) (by simp; omega) ?_
  have : (!xs.toArray.isEmpty) = true := by cases xs with | nil => exact absurd rfl hx | cons _ _ => rfl
  rw [this]; exact k _
theorem item_last {prog : Program} {w : World} {A : Around} {E : Value → Shared → Prop} {s : Shared} {value slice : Expr} {l : Addr} {xs : List Value} {u : Tok} {x : Value} {Q : Value → Shared → Prop} (hl : s.heap.IsList l (xs ++ [x]).toArray)
    (hfit : xs.length ≤ 100000) (h : Q x s)
    (hs : subscripted slice false (.ref l) (.int (-1) u) = operate [.ref l, .int (-1) u] (getItem (.ref l) (.int (-1) u)) := by with_unfolding_all rfl) (hg : ∀ r, letTemporaryGo value (.ref l) r = pure () := by intro _; with_unfolding_all rfl) :
    wpAny (model prog w) A (subscriptTail value slice (.ref l) (.int (-1) u)) Q E s :=
  subscriptTail_builtin hl.typeIs slot_list_getitem.lookup (wpAny_getItem_list_neg (x := x) hl (by decide) (by simp; omega) (by decide) (by rw [show ((-1 : Int) + (((xs ++ [x]).toArray.size : Nat) : Int)).toNat = xs.length by simp; omega]; simp) h) hs hg
def stk (cs : List (List Nat)) : List (List Nat) := cs.foldl (fun acc c => if c = [46, 46] then acc.dropLast else acc ++ [c]) []
theorem stk_take (cs : List (List Nat)) (i : Nat) (c : List Nat) (h : cs[i]? = some c) : stk (cs.take (i + 1)) = if c = [46, 46] then (stk (cs.take i)).dropLast else stk (cs.take i) ++ [c] := by
  unfold stk
  rw [List.take_add_one, h, List.foldl_append]
  rfl
theorem stk_len : ∀ (cs : List (List Nat)) (acc : List (List Nat)), (cs.foldl (fun acc c => if c = [46, 46] then acc.dropLast else acc ++ [c]) acc).length ≤ acc.length + cs.length
  | [], acc => Nat.le_refl _
  | c :: r, acc => by
    rw [List.foldl_cons]
    refine Nat.le_trans (stk_len r _) ?_
    split
    · simp; omega
    · simp; omega
theorem stk_nam : ∀ (cs acc : List (List Nat)), (∀ c ∈ cs, c = [46, 46] ∨ ∃ x, c = [x] ∧ 65 ≤ x ∧ x ≤ 80) → (∀ c ∈ acc, ∃ x, c = [x] ∧ 65 ≤ x ∧ x ≤ 80) → ∀ c ∈ (cs.foldl (fun acc c => if c = [46, 46] then acc.dropLast else acc ++ [c]) acc), ∃ x, c = [x] ∧ 65 ≤ x ∧ x ≤ 80
  | [], acc, _, h => h
  | c :: r, acc, hc, h => by
    rw [List.foldl_cons]
    refine stk_nam r _ (fun b hb => hc b (.tail _ hb)) ?_
    split
    · intro b hb; exact h b (List.dropLast_subset _ hb)
    · rename_i q
      intro b hb
      rcases List.mem_append.mp hb with hb | hb
      · exact h b hb
      · rw [List.mem_singleton.mp hb]; exact (hc c (.head _)).resolve_left q
def Nam (c : List Nat) : Prop := ∃ x, c = [x] ∧ 65 ≤ x ∧ x ≤ 80
end
end
section
theorem sum_short (l : List (List Nat)) (h : ∀ b ∈ l, b.length = 1) : ((l.map mkS).map (·.length)).sum = l.length := by
  induction l with
  | nil => rfl
  | cons b r ih =>
    rw [List.map_cons, List.map_cons, List.sum_cons, ih (fun c hc => h c (.tail _ hc)), mkS_len, h b (.head _), List.length_cons]
    omega
theorem stk_le {cs : List (List Nat)} {i : Nat} (h : cs.length ≤ 31) : (stk (cs.take i)).length ≤ 31 := by
  have h1 := stk_len (cs.take i) []
  rw [List.length_nil, Nat.zero_add] at h1
  refine Nat.le_trans h1 ?_
  rw [List.length_take]; omega
section
variable {w : World} {mean : ExcName → Option Value} {mg mb : Str → Option Value}
/-- what holds ahead of a turn -/
inductive J10 (cs : List (List Nat)) (M : Addr) (i : Nat) (m : Str → Option Value) (xs : List Value) : Prop
  | mk (t1 : Tok) (t2 : Tok) (t3 : Tok) (t4 : Tok) (_ : m (Str.ofString "dot") = some (.str (Str.ofString ".") t1)) (_ : m (Str.ofString "dotdot") = some (.str (Str.ofString "..") t2)) (_ : m (Str.ofString "initial_slashes") = some (.str (Str.ofString "") t3)) (_ : m (Str.ofString "sep") = some (.str (Str.ofString "/") t4)) (_ : m (Str.ofString "new_comps") = some (.ref M)) (_ : StrsAre xs ((stk (cs.take i)).map mkS))
set_option maxRecDepth 100000 in
set_option maxHeartbeats 4000000 in
theorem normpath_spec (a : List Nat) (segs : List (List Nat)) (ta : Tok) (hcs : ∀ c ∈ a :: segs, c = [46, 46] ∨ Nam c) (hnn : ∀ i, (a :: segs)[i]? = some [46, 46] → stk ((a :: segs).take i) ≠ []) (hne : stk (a :: segs) ≠ []) (hlen : segs.length ≤ 30) :
    Fn w mean mg mb 191 50 300 [.str (mkS (joinL a segs)) ta] (fun _ => True) (fun _ v _ => ∃ c r t, stk (a :: segs) = c :: r ∧ v = .str (mkS (joinL c r)) t) := by
  have h47 : ∀ b ∈ a :: segs, 47 ∉ b := by
    intro b hb hm
    rcases hcs b hb with rfl | ⟨x, rfl, h1, h2⟩
    · revert hm; decide
    · have := List.mem_singleton.mp hm; omega
  have hsg : ∀ b ∈ a :: segs, Seg b := by
    intro b hb
    rcases hcs b hb with rfl | ⟨x, rfl, h1, h2⟩
    · refine ⟨by decide, by decide, by decide, by decide⟩
    · refine ⟨by simp, by simp; omega, by simp; omega, by simp⟩
  have hJl := joinL_len a segs (fun b hb => hsg b (.tail _ hb))
  have hJe := joinL_ends a segs ⟨(hsg a (.head _)).1, (hsg a (.head _)).2.2.1⟩ (fun b hb => hsg b (.tail _ hb))
  have hJh : (joinL a segs).head? ≠ some 47 := by
    have h1 := (hsg a (.head _))
    cases a with
    | nil => exact absurd rfl h1.1
    | cons x r =>
      have : (joinL (x :: r) segs).head? = some x := by
        rw [show x :: r = [x] ++ r from rfl, joinL_pre]; rfl
      rw [this]; exact h1.2.1
  have hal := (hsg a (.head _)).2.2.2
  rintro dp un fr gd s R hr G - hR
  refine' enter (d := 49) (u := 297) (binds := [(Str.ofString "path", .str (mkS (joinL a segs)) ta)]) hr G ?ho ?hcd ?hb ?hl ?hc ?_ ?c1 ?c2 ?c3
  walk_at "m enter"
  intro L h₁ hr' F N X T
  refine wp_in (by passes_own) hr' ?_
  clear hr'
  intro dp un fr gd Q₀ E₀ hr' hE₀ hQ₀
  walk_at "m ec"
  walk_at "m go"
  refine call_fn (fspath_spec _ _) F N X T (hr'.mono (by decide) (by decide)) trivial ?_
  rintro v h2 tk2 e2 F2 N2 rfl
  walk_at "m go"
  refine truthy_mkS hJe.1 (by omega) ?_
  intro k
  walk_at "m go"
  rename Fr _ _ _ _ => F3
  rename News _ _ _ _ => N3
  refine call_fn (splitroot_spec _ _ hJh (by omega)) F3 N3 X T (hr'.mono (by decide) (by decide)) trivial ?_
  rintro v h4 tk4 e4 F4 N4 ⟨D4, t1, t2, t3, rfl, hD0, hD1⟩
  have N5 := News.add F3 N4 hD0 hD1
  clear F3 N3 N4
  walk_at "m go"
  rename Fr _ _ _ _ => F6
  rename News _ _ _ _ => N6
  rename StrsAre _ _ => hS
  rename _ = Txt.split _ _ => hSp
  rename _ ∧ _ => hlt
  rw [hSp, split_mkS _ _ (h47 a (.head _)) (fun b hb => h47 b (.tail _ hb))] at hS
  generalize strValues _ = vs at hS N6
  generalize hcs' : a :: segs = cs at hcs hnn hne h47 hsg hS ⊢
  refine' iter_mut (vs := vs) (xs₀ := []) (c₀ := 0) (J10 cs) hr'.handled ?hl ?haL ?haM F6 N6 ?ho ?hj ?turn ?done ?hL
  case hl => exact isList_of (N6.get (.tail _ (.head _)))
  case haL => exact (N6 _ (.tail _ (.head _))).2.1
  case haM => exact Nat.ne_of_lt hlt.1
  case ho =>
    intro p hp
    rcases List.mem_cons.mp hp with rfl | hp
    · exact Nat.ne_of_lt hlt.1
    · rw [List.mem_singleton.mp hp]; exact Nat.ne_of_lt hlt.2
  case hL => rfl
  case hj => exact ⟨_, _, _, _, rfl, rfl, rfl, rfl, rfl, .nil⟩
  case turn =>
    rintro i v m₁ h tk own xs c hi ⟨t1, t2, t3, t4, hd1, hd2, hd3, hd4, hd5, hxs⟩ F7 N7 hoff
    clear F6 N6
    obtain ⟨y, ty, rfl, hy⟩ := hS.item i v hi
    obtain ⟨b, hb, rfl⟩ : ∃ b, cs[i]? = some b ∧ mkS b = y := by
      rw [List.getElem?_map] at hy
      cases q : cs[i]? with
      | none => rw [q] at hy; cases hy
      | some c => rw [q] at hy; exact ⟨c, rfl, Option.some.inj hy⟩
    have hbm := List.mem_of_getElem? hb
    have hbS := hsg b hbm
    have hcl : cs.length ≤ 31 := by rw [← hcs']; simp; omega
    walk_at "m ec"
    have hne1 : (mkS b == Str.ofString ".") = false := by
      apply beq_eq_false_iff_ne.mpr
      intro q
      have : b = [46] := mkS_inj (q.trans (by decide +kernel))
      rcases hcs b hbm with e | ⟨x, e, h1, h2⟩
      · rw [e] at this; cases this
      · rw [e] at this
        have := List.cons.inj this
        omega
    walk_at "m go2"
    refine truthy_mkS hbS.1 (by have := hbS.2.2.2; omega) ?_
    intro k
    rcases hcs b hbm with rfl | ⟨x, rfl, h1, h2⟩
    · have hne2 : (mkS [46, 46] != Str.ofString "..") = false := by decide +kernel
      walk_at "m go2"
      have hnz := hnn i hb
      have hst := stk_nam (cs.take i) [] (fun c hc => hcs c (List.mem_of_mem_take hc)) (by simp)
      have hsl : (stk (cs.take i)).length ≤ 31 := stk_le hcl
      change ∀ c ∈ stk (cs.take i), _ at hst
      have hnext := stk_take cs i _ hb
      rw [if_pos rfl] at hnext
      rcases List.eq_nil_or_concat (stk (cs.take i)) with e0 | ⟨r, z, e0⟩
      · exact absurd e0 hnz
      rw [List.concat_eq_append] at e0
      rw [e0] at hxs hst hnext hsl
      obtain ⟨zx, hz, hz1, hz2⟩ := hst z (by simp)
      subst hz
      rw [List.map_append] at hxs
      obtain ⟨xs', tz, rfl, hxs'⟩ := StrsAre.snoc hxs
      have hl' : xs'.length ≤ 31 := by
        have := hxs'.len_eq
        rw [List.length_map] at this
        rw [List.length_append] at hsl
        omega
      have hne3 : (mkS [zx] == Str.ofString "..") = false := by
        apply beq_eq_false_iff_ne.mpr
        intro q
        have : [zx] = [46, 46] := mkS_inj (q.trans (by decide +kernel))
        cases this
      clear hxs
      rename Fr _ _ _ _ => F8
      rename News _ _ _ _ => N8
      refine truthy_ne N8 (.head _) (by simp) (by rw [List.length_append, List.length_singleton]; omega) ?_
      intro k
      walk_at "m go2"
      refine truthy_ne N8 (.head _) (by simp) (by rw [List.length_append, List.length_singleton]; omega) ?_
      intro k
      walk_at "m go2"
      refine item_last (isList_of (N8.get (.head _))) (Nat.le_trans hl' (by decide)) ?_
      walk_at "m go2"
      refine truthy_ne N8 (.head _) (by simp) (by rw [List.length_append, List.length_singleton]; omega) ?_
      intro k
      walk_at "m go2"
      refine pop_mine F8 N8 hoff (Nat.le_trans hl' (by decide)) ?_
      intro h9 F9 N9
      walk_at "m go2"
      walk_at "m hd"
      refine MutPost.intro (xs := xs') F9 N9 (.head _) (fun p hp => .tail _ hp) ⟨_, _, _, _, hd1, hd2, hd3, hd4, hd5, ?_⟩
      rw [hnext, List.dropLast_concat]; exact hxs'
    · have hne2 : (mkS [x] != Str.ofString "..") = true := by
        apply bne_iff_ne.mpr
        intro q
        have : [x] = [46, 46] := mkS_inj (q.trans (by decide +kernel))
        cases this
      walk_at "m go2"
      have hnext := stk_take cs i _ hb
      have hsl : (stk (cs.take i)).length ≤ 31 := stk_le hcl
      rename Fr _ _ _ _ => F8
      rename News _ _ _ _ => N8
      refine append_mine F8 N8 hoff (by have := hxs.len_eq; rw [List.length_map] at this; omega) ?_
      intro h9 F9 N9
      walk_at "m go2"
      walk_at "m hd"
      refine MutPost.intro F9 N9 (.head _) (fun p hp => .tail _ hp) ⟨_, _, _, _, hd1, hd2, hd3, hd4, hd5, ?_⟩
      rw [hnext, if_neg (by simp), List.map_append]
      exact hxs.append' (.cons _ _ .nil)
  case done =>
    rintro m₁ h tk xs c ⟨t1, t2, t3, t4, hd1, hd2, hd3, hd4, hd5, hxs⟩ F7 N7
    clear F6 N6
    rw [hS.len_eq, List.length_map, List.take_length] at hxs
    walk_at "m go2"
    rename Fr _ _ _ _ => F8
    rename News _ _ _ _ => N8
    have hst := stk_nam cs [] hcs (by simp)
    have hsl := stk_len cs []
    change ∀ c ∈ stk cs, _ at hst
    change (stk cs).length ≤ _ at hsl
    cases hk : stk cs with
    | nil => exact absurd hk hne
    | cons c0 r0 =>
    rw [hk] at hst hsl hxs
    have hr0 : ∀ b ∈ r0, Seg b := by
      intro b hb
      obtain ⟨x, rfl, h1, h2⟩ := hst b (.tail _ hb)
      exact ⟨by simp, by simp; omega, by simp; omega, by simp⟩
    have hc0 : Seg c0 := by
      obtain ⟨x, rfl, h1, h2⟩ := hst c0 (.head _)
      exact ⟨by simp, by simp; omega, by simp; omega, by simp⟩
    refine join_strs (isList_of (N8.get (.head _))) hxs ?_ ?_
    · have hcl : cs.length ≤ 31 := by rw [← hcs']; simp; omega
      have h1 := sum_short (c0 :: r0) (fun b hb => by obtain ⟨x, rfl, _⟩ := hst b hb; rfl)
      rw [h1, List.length_map, slash_is, mkS_len]
      simp only [List.length_cons, List.length_nil] at hsl ⊢
      omega
    intro t9 k9
    rw [List.map_cons, slash_is, join_mkS]
    have hJ0 := joinL_len c0 r0 hr0
    have hJ1 := joinL_ends c0 r0 ⟨hc0.1, hc0.2.2.1⟩ hr0
    have hc0l := hc0.2.2.2
    have hcl : cs.length ≤ 31 := by rw [← hcs']; simp; omega
    have hr0l : r0.length ≤ 31 := by simp only [List.length_cons, List.length_nil] at hsl; omega
    have he : (Str.ofString "").length = 0 := by decide +kernel
    have hee : Str.ofString "" = mkS [] := by decide +kernel
    have hsz : (Str.ofString "").length + (mkS (joinL c0 r0)).length ≤ sizeLine := by
      rw [he, mkS_len, sizeLine_eq]; omega
    refine PyProof.Rows.add_str ?_ hsz
    intro t10 k10
    rw [hee, mkS_append, List.nil_append]
    walk_at "m go2"
    refine truthy_mkS hJ1.1 (by omega) ?_
    intro k
    walk_at "m go2"
    rename Fr _ _ _ _ => F11
    walk_at "m hd"
    exact hR _ _ _ F11.keep ⟨c0, r0, _, by rw [hcs']; exact hk, rfl⟩
end
end
section
open PySem.Builtin PySem.Builtin.Str in
section
variable {prog : Program} {w : World} {A : Around} {E : Value → Shared → Prop} {s : Shared} {Q : Value → Shared → Prop}
theorem lookup_keep {c : Nat} {D : Addr} {f : Int → Option Value} {Q : Mapped → Shared → Prop} (hh : A.handled = none) (hd : (D == sysModules) = false) (hm : s.heap.MapOf (PySem.intKind prog w) D f) (hf : f (c : Int) = none)
    (h : ∀ h' k, Ext s.heap h' → Q .keep { s with heap := h', toks := k }) : wpAny (model prog w) A (tableLookup (.ref D) c) Q E s := by
  unfold tableLookup
  refine wpAny_bind (wpAny_attempt (wpAny_bind (wpAny_mkInt ?_)))
  refine wpAny_getItem_missing_of (knd := PySem.intKind prog w) (k := (c : Int)) (by simp [PySem.intKind, Value.isInt]) hd hh hm hf ?_
  intro h' e hn
  refine wpAny_bind (wpAny_isInstance (T := "KeyError") (b := true) ?_ ?_ ?_)
  · obtain ⟨ob, t, h1, h2, _⟩ := hn.there
    exact ⟨ob, h1, h2⟩
  · rw [isSubtype_type]; kernel_rfl
  · exact wpAny_bind (wpAny_rule (wpAny_pure (h _ _ hn.keeps)))
theorem translate_one {c : Nat} {t : Tok} {D : Addr} {f : Int → Option Value} (hc : c < 128) (hh : A.handled = none) (hd : (D == sysModules) = false) (hm : s.heap.MapOf (PySem.intKind prog w) D f) (hf : f (c : Int) = none)
    (h : ∀ h' t' k, Ext s.heap h' → Q (.str (mkS [c]) t') { s with heap := h', toks := k }) : wpAny (model prog w) A (call (.builtin "str.translate") [.str (mkS [c]) t, .ref D]) Q E s := by
  refine wpAny_call_entry F.slot_str_translate (typeIs_str _ _ _) F.entry_str_translate ?_ (F.args_str_translate_2 _ _)
  unfold Builtin.«str.translate»
  refine wpAny_bind (wpAny_of_eq (a := (Value.str (mkS [c]) t, mkS [c], Value.ref D)) (by rfl) ?_)
  dsimp only
  have e0 : ((mkS [c]).length == 0) = false := rfl
  rw [e0]
  refine wpAny_bind ?_
  rw [← Array.forIn_toList]
  show wpAny _ _ (forIn [c] _ _) _ _ _
  rw [List.forIn_cons]
  refine wpAny_bind ?_
  dsimp only
  have e1 : ((mkS [c]).cps.all fun x => decide (x < 128)) = true := by simp [mkS, hc]
  rw [e1]
  rw [if_neg (show ¬ tooLong 0 = true by decide), if_pos rfl]
  dsimp only [List.lookup]
  refine wpAny_bind (lookup_keep hh hd hm hf ?_)
  intro h' k e
  dsimp only
  refine wpAny_bind (wpAny_pure ?_)
  dsimp only
  refine wpAny_pure ?_
  dsimp only
  refine wpAny_pure ?_
  dsimp only
  rw [if_neg (show ¬ tooLong (0 + 1) = true by decide)]
  have e2 : (Str.mk (List.foldl (fun (acc : Array Nat) (p : Str) => acc ++ p.cps) #[] [Str.mk #[c]].reverse)) = mkS [c] := by simp [mkS]
  rw [e2]
  unfold retStr
  refine wpAny_bind (wpAny_mkStr ?_ (by rw [mkS_len, sizeLine_eq]; show 1 ≤ _; decide))
  refine wpAny_pure ⟨_, rfl, ?_⟩
  exact h _ _ _ e
end
section
def specials : Array DictEntry := #[{ hash := 40, key := .int 40 353, val := .str (Str.ofString "\\(") 357 }, { hash := 41, key := .int 41 359, val := .str (Str.ofString "\\)") 363 }, { hash := 91, key := .int 91 365, val := .str (Str.ofString "\\[") 369 }, { hash := 93, key := .int 93 371, val := .str (Str.ofString "\\]") 375 }, { hash := 123, key := .int 123 377, val := .str (Str.ofString "\\{") 381 }, { hash := 125, key := .int 125 383, val := .str (Str.ofString "\\}") 387 }, { hash := 63, key := .int 63 389, val := .str (Str.ofString "\\?") 393 }, { hash := 42, key := .int 42 395, val := .str (Str.ofString "\\*") 399 }, { hash := 43, key := .int 43 401, val := .str (Str.ofString "\\+") 405 }, { hash := 45, key := .int 45 407, val := .str (Str.ofString "\\-") 411 }, { hash := 124, key := .int 124 413, val := .str (Str.ofString "\\|") 417 }, { hash := 94, key := .int 94 419, val := .str (Str.ofString "\\^") 423 }, { hash := 36, key := .int 36 425, val := .str (Str.ofString "\\$") 429 }, { hash := 92, key := .int 92 431, val := .str (Str.ofString "\\\\") 435 }, { hash := 46, key := .int 46 437, val := .str (Str.ofString "\\.") 441 }, { hash := 38, key := .int 38 443, val := .str (Str.ofString "\\&") 447 }, { hash := 126, key := .int 126 449, val := .str (Str.ofString "\\~") 453 }, { hash := 35, key := .int 35 455, val := .str (Str.ofString "\\#") 459 }, { hash := 32, key := .int 32 461, val := .str (Str.ofString "\\ ") 465 }, { hash := 9, key := .int 9 467, val := .str (Str.ofString "\\\t") 471 }, { hash := 10, key := .int 10 473, val := .str (Str.ofString "\\\n") 477 }, { hash := 13, key := .int 13 479, val := .str (Str.ofString "\\\x0d") 483 }, { hash := 11, key := .int 11 485, val := .str (Str.ofString "\\\x0b") 489 }, { hash := 12, key := .int 12 491, val := .str (Str.ofString "\\\x0c") 495 }]
theorem specials_none {c : Nat} (hc : c = 47 ∨ (65 ≤ c ∧ c ≤ 80)) : findBy Value.isInt specials (c : Int) = none := by
  have key : ∀ k : Fin 81, (k.val = 47 ∨ 65 ≤ k.val) → findBy Value.isInt specials (k.val : Int) = none := by decide +kernel
  have hlt : c < 81 := by omega
  exact key ⟨c, hlt⟩ (by rcases hc with h | h <;> simp <;> omega)
theorem specials_map {prog : Program} {w : World} {h : Heap} (K : (Mine.h0.heap_1 w.params).In h) : h.MapOf (PySem.intKind prog w) 59 (findBy Value.isInt specials) := by
  have e : (Mine.h0.heap_1 w.params).lookup 59 = some { cls := .type "dict", data := .dict specials 24 } := by
    with_unfolding_all rfl
  refine ⟨_, specials, 24, K _ _ e, ⟨rfl, rfl, rfl⟩, rfl, ?_, fun _ => rfl⟩
  intro en hen
  have key : ∀ en ∈ specials.toList, ∃ k, Value.isInt k en.key = true ∧ en.hash = hashInt k := by
    intro en hen
    simp only [specials, List.mem_cons, List.not_mem_nil, or_false] at hen
    rcases hen with rfl | rfl | rfl | rfl | rfl | rfl | rfl | rfl | rfl | rfl | rfl | rfl | rfl | rfl | rfl | rfl | rfl | rfl | rfl | rfl | rfl | rfl | rfl | rfl <;> exact ⟨_, by simp [Value.isInt]; rfl, by decide +kernel⟩
  exact key en (by simpa using hen)
end
section
variable {w : World} {mean : ExcName → Option Value} {mg mb : Str → Option Value}
def Sgn (c : Nat) : Prop := c = 47 ∨ (65 ≤ c ∧ c ≤ 80)
set_option maxRecDepth 100000 in
set_option maxHeartbeats 4000000 in
theorem escape_spec (c : Nat) (t : Tok) (hc : Sgn c) : Fn w mean mg mb 69 20 100 [.str (mkS [c]) t] (fun _ => True) (fun _ v _ => ∃ t', v = .str (mkS [c]) t') := by
  rintro dp un fr gd s R hr G - hR
  refine' enter (d := 19) (u := 97) (binds := [(Str.ofString "pattern", .str (mkS [c]) t)]) hr G ?ho ?hcd ?hb ?hl ?hc ?_ ?c1 ?c2 ?c3
  walk_at "m enter"
  intro L h₁ hr' F N X T
  refine wp_in (by passes_own) hr' ?_
  clear hr'
  intro dp un fr gd Q₀ E₀ hr' hE₀ hQ₀
  walk_at "m ec"
  walk_at "m go2"
  refine GM.of (.str (mkS [c]) t) (typeIs_str _ _ _) _root_.PySem.F.slot_str_translate _root_.PySem.F.type_str_translate GM.noRef ?_
  walk_at "m go2"
  refine wpAny_mono (Q := fun v s' => ∃ h' t' k, Ext h₁ h' ∧ v = .str (mkS [c]) t' ∧ s' = { s with heap := h', toks := k }) (translate_one (by have := hc; unfold Sgn at this; omega) hr'.handled (by decide) (specials_map (X.keeps F.keep)) (specials_none hc) (fun h' t' k e => ⟨h', t', k, e, rfl, rfl⟩)) ?_ (fun _ _ e => e)
  rintro v s' ⟨h', t', k, e, rfl, rfl⟩
  walk_at "m go2"
  walk_at "m hd"
  exact hR _ _ _ (fun b o x => e b o (F.keep b o x)) ⟨_, rfl⟩
end
section
open PySem.Builtin
theorem md_slot_get : Slot "method_descriptor" "__get__" "method_descriptor.__get__" :=
  .of (owner := "method_descriptor") (n := "__get__") (by rw [typeLookup_type, builtinLookup_eq_fast]; kernel_rfl) (by decide +kernel) (by decide +kernel) (by decide +kernel)
    (by first | exact .inl (by decide +kernel) | exact .inr (by decide +kernel)) (by rw [isSubtype_type]; kernel_rfl)
theorem md_set : typeLookup (.type "method_descriptor") "__set__" = pure none := by rw [typeLookup_type, builtinLookup_eq_fast]; kernel_rfl
theorem md_delete : typeLookup (.type "method_descriptor") "__delete__" = pure none := by rw [typeLookup_type, builtinLookup_eq_fast]; kernel_rfl
theorem md_entry_get : entryFor table "method_descriptor.__get__" = some Builtin.«method_descriptor.__get__» := entryFor_of_tree (by kernel_rfl)
theorem md_args_get (a b c : Value) : argsOk "method_descriptor.__get__" ⟨[a, b, c], []⟩ := by unfold argsOk; kernel_rfl
theorem app_owner : (".".intercalate ("list.append".cutAt '.').dropLast) = "list" := by first | decide +kernel | kernel_rfl
theorem app_sub : isSubtype (.type "list") (.type (".".intercalate ("list.append".cutAt '.').dropLast)) = pure true := by
  rw [app_owner, isSubtype_type]; kernel_rfl
abbrev boundApp (a : Addr) : Obj := { cls := .type "builtin_function_or_method", data := .fields #[.builtin "list.append", .ref a] }
variable {prog : Program} {w : World} {A : Around} {E : Value → Shared → Prop} {h : Heap} {g : Array GenState} {d : Drawn} {t : Nat} {os : OsState} {a : Addr} {xs : List Value} {c : Nat}
theorem app_get {Q : Fin → Shared → Prop} (hx : h.get? a = some (lst xs c)) (hq : Q (.done (.ret (.ref h.objs.size))) ⟨h.push (boundApp a), g, d, t, os⟩) :
    wpAny (model prog w) A (Builtin.«method_descriptor.__get__» ⟨[.builtin "list.append", .ref a, .type "list"], []⟩) Q E ⟨h, g, d, t, os⟩ := by
  have hT : (⟨h, g, d, t, os⟩ : Shared).TypeIs (.ref a) "list" := ⟨_, hx, rfl⟩
  have f1 := app_sub
  unfold Builtin.«method_descriptor.__get__»
  repeat (any_goals (first | assumption | wp_step))
theorem app_entry {tk : Tok} {Q : Fin → Shared → Prop} (hx : h.get? a = some (lst xs c)) (hq : Q (.done (.ret (.ref h.objs.size))) ⟨h.push (boundApp a), g, d, t, os⟩) :
    wpAny (model prog w) A (Builtin.«object.__getattribute__» ⟨[.ref a, .str "append" tk], []⟩) Q E ⟨h, g, d, t, os⟩ := by
  have hT : (⟨h, g, d, t, os⟩ : Shared).TypeIs (.ref a) "list" := ⟨_, hx, rfl⟩
  have hT5 : (⟨h, g, d, t, os⟩ : Shared).TypeIs (.builtin "list.append") "method_descriptor" := F.type_list_append
  have f4 := PySem.F.slot_list_append.lookup
  have f5 := PySem.F.type_list_append
  have f6 := md_slot_get.lookup
  have f7 := md_set
  have f8 := md_delete
  unfold Builtin.«object.__getattribute__»
  repeat (any_goals (first | assumption | wp_step))
  refine codeAny_call_builtin md_slot_get.plain md_entry_get (md_slot_get.check _ _ _ _ _ _ _ _ hT5 (md_args_get _ _ _) ?_)
  exact app_get hx (wpAny_pure hq)
theorem append_bind {Q : Value → Shared → Prop} (hx : h.get? a = some (lst xs c)) (hq : ∀ k, Q (.ref h.objs.size) ⟨h.push (boundApp a), g, d, k, os⟩) :
    wpAny (model prog w) A (getAttr (.ref a) "append" true) Q E ⟨h, g, d, t, os⟩ := by
  have hT : ∀ tk', (⟨h, g, d, tk', os⟩ : Shared).TypeIs (.ref a) "list" := fun _ => ⟨_, hx, rfl⟩
  have f3 := F.slot_list_getattribute.lookup
  have f4 := F.slot_list_getattribute.bind (.ref a)
  have f5 := am_list_getattr_none
  unfold getAttr getAttrBy
  repeat (any_goals (first | assumption | exact hT _ | wp_step))
  refine codeAny_call_builtin F.slot_list_getattribute.plain F.entry_list_ga (F.slot_list_getattribute.check _ _ _ _ _ _ _ _ (hT _) (F.args_list_getattribute_2 _ _) (app_entry hx ?_))
  have hy : (h.push (boundApp a)).get? h.objs.size = some (boundApp a) := Heap.get?_push_size _ rfl
  repeat (any_goals (first | assumption | wp_step))
  exact hq _
theorem callWith_app {M : Model} {s : Shared} {pos : Pos} {u : Addr} {first : List Value} {args : List (Bool × Sem Value)} {Q : Value → Shared → Prop} (hplain : args.any (·.1) = false)
    (h : wpAny M A (evalArgs (.ref u) true args []) (fun x s₁ => s₁.heap.get? u = some (boundApp a) ∧ wpAny M A (call (.ref u) (first ++ x.pos) x.kw) Q E s₁) E s) : wpAny M A (callWith pos (.ref u) first args []) Q E s := by
  unfold callWith
  refine wpAny_bind (wpAny_holding (wpAny_mono h (fun x s₁ h₁ => wpAny_bind (wpAny_standAt ?_)) fun _ _ x => x))
  obtain ⟨ho, hcall⟩ := h₁
  simp only [hplain, List.any_nil, Bool.or_false]
  refine wpAny_bind (m := keeperOf (.ref u)) ?_
  unfold keeperOf
  refine wpAny_bind (wpAny_load ho ?_)
  simp only [boundApp, show (Value.type "builtin_function_or_method" != Value.type "method") = true by decide, show (Value.type "builtin_function_or_method" == Value.type "builtin_function_or_method" || Value.type "builtin_function_or_method" == Value.type "method-wrapper") = true by decide, if_true]
  refine wpAny_pure ?_
  exact wpAny_bind (wpAny_mono hcall (fun r s₂ hr => wpAny_bind (wpAny_holding (wpAny_point (wpAny_pure hr)))) fun _ _ x => x)
def appSig : Manifest.Signature := (List.lookup (String.ofList ['d', 'n', 'e', 'p', 'p', 'a'].reverse) Manifest.sig_list).get (by decide +kernel)
theorem app_sig : List.lookup (String.ofList ['d', 'n', 'e', 'p', 'p', 'a'].reverse) Manifest.sig_list = some appSig := (Option.some_get _).symm
theorem app_chk (a : Addr) (v : Value) : Bind.checkArgs "list.append" { appSig with full := (toString (Bind.lastOf "list") ++ toString "." ++ toString (Bind.lastOf "list.append")) } ⟨[.ref a, v], []⟩ = pure () := by
  kernel_rfl
theorem isType_list {M : Model} {s : Shared} {Q : Bool → Shared → Prop} (hx : s.heap.get? a = some (lst xs c)) (h : Q false s) : wpAny M A (isType (.ref a)) Q E s := by
  unfold isType
  repeat (any_goals (first | assumption | wp_step))
theorem check_app {M : Model} {s : Shared} {v : Value} {Q : Unit → Shared → Prop} (hx : s.heap.get? a = some (lst xs c)) (h : Q () s) : wpAny M A (checkBoundCall "list.append" ⟨[.ref a, v], []⟩) Q E s := by
  have hT : s.TypeIs (.ref a) "list" := ⟨_, hx, rfl⟩
  have k1 : builtinKind "list.append" = some .method := by decide +kernel
  have hs := signature?_of (id := "list.append") (n := ['d', 'n', 'e', 'p', 'p', 'a']) (o := ['t', 's', 'i', 'l']) (by kernel_rfl) PySem.F.owner_list
  rw [app_sig] at hs
  have hck := app_chk a v
  generalize appSig = sig at hs hck
  unfold checkBoundCall
  rw [hs, k1]
  dsimp only
  refine KFB.if_not (by decide) ?_
  refine wpAny_bind (wpAny_isInstance hT (b := false) (by rw [isSubtype_type]; kernel_rfl) ?_)
  refine KFB.if_not (by first | rfl | decide +kernel) ?_
  refine wpAny_bind (isType_list hx ?_)
  refine KFB.if_not rfl ?_
  refine wpAny_bind (wpAny_typeOf hT ?_)
  dsimp only
  rw [hck]
  exact wpAny_pure h
theorem quiet_app {as : Args} : (Code.builtin "list.append" as).quiet = true := Code.quiet_builtin _ (by decide +kernel)
theorem call_app {s : Shared} {u L : Addr} {h₀ : Heap} {m : Str → Option Value} {rest : List (Addr × Obj)} {v : Value} {Q : Value → Shared → Prop} (F : Fr h₀ L s.heap m) (N : News h₀ L s.heap ((a, lst xs c) :: rest)) (hu : (u, boundApp a) ∈ rest) (ho : ∀ p ∈ rest, p.1 ≠ a) (hsz : xs.length ≤ 100000)
    (k : ∀ h', Fr h₀ L h' m → News h₀ L h' ((a, lst (xs ++ [v]) (c + 1)) :: rest) → Q .none { s with heap := h' }) : wpAny (model prog w) A (call (.ref u) [v]) Q E s := by
  refine wpAny_call (codeAny_of_tree ?_)
  show wpAny _ A.in1 (callAny (.ref u) ⟨[v], []⟩) _ _ s
  simp only [callAny]
  refine wpAny_bind (wpAny_load (N.get (.tail _ hu)) ?_)
  simp only [boundApp, show (Value.type "builtin_function_or_method" == Value.type "method" || Value.type "builtin_function_or_method" == Value.type "builtin_function_or_method" || Value.type "builtin_function_or_method" == Value.type "method-wrapper") = true by decide, if_true]
  refine KFB.if_so (by decide) ?_
  refine wpAny_bind (check_app (N.get (.head _)) ?_)
  refine wpAny_bind (wpAny_pure (wpAny_pure ?_))
  refine ⟨quiet_app, codeAny_builtin PySem.entry_list_append ?_⟩
  show wpAny _ _ (updateSeq a (·.push v) >>= fun _ => ret .none) _ _ s
  refine wpAny_bind ?_
  have hg := N (a, lst xs c) (.head _)
  refine wpAny_updateSeq (hz := by rw [sizeLine_eq, List.size_toArray]; omega) (_hz' := by rw [sizeLine_eq, Array.size_push, List.size_toArray]; omega) hg.1 rfl (wpAny_pure ?_)
  have hs := Heap.SameBut.update s.heap a (Obj.mapSeq (·.push v))
  refine k _ (F.change hs hg.2.1 hg.2.2) ?_
  refine news_set (pre := []) N (fun _ h => nomatch h) ho hs ?_
  rw [Heap.get?_update_self _ hg.1 (by rw [mapSeq_push]; rfl), mapSeq_push]
  simp
end
end
section
section
theorem bind_mine {prog : Program} {w : World} {A : Around} {E : Value → Shared → Prop} {s : Shared} {h₀ : Heap} {L M : Addr} {m : Str → Option Value} {rest : List (Addr × Obj)} {xs : List Value} {c : Nat} {Q : Value → Shared → Prop} (F : Fr h₀ L s.heap m) (N : News h₀ L s.heap ((M, lst xs c) :: rest)) (ho : ∀ p ∈ rest, p.1 ≠ M)
    (k : ∀ q h' tk, Fr h₀ L h' m → News h₀ L h' ((M, lst xs c) :: (q, boundApp M) :: rest) → (∀ p ∈ (q, boundApp M) :: rest, p.1 ≠ M) → Q (.ref q) { s with heap := h', toks := tk }) : wpAny (model prog w) A (getAttr (.ref M) "append" true) Q E s := by
  obtain ⟨h, g, d, t, os⟩ := s
  refine append_bind (xs := xs) (c := c) (N.get (.head _)) fun tk => ?_
  have hM : M < h.objs.size := Heap.lt_size (N.get (.head _))
  refine k _ _ tk (F.push (boundApp M)) ?_ ?_
  · refine News.sub (N.push F (boundApp M)) ?_
    intro p hp
    rcases List.mem_cons.mp hp with rfl | hp
    · exact .tail _ (.head _)
    · rcases List.mem_cons.mp hp with rfl | hp
      · exact .head _
      · exact .tail _ (.tail _ hp)
  · intro p hp
    rcases List.mem_cons.mp hp with rfl | hp
    · exact Nat.ne_of_gt hM
    · exact ho p hp
theorem News.rot3 {h₀ h : Heap} {L : Addr} {a b c : Addr × Obj} (N : News h₀ L h [a, b, c]) : News h₀ L h [b, c, a] := News.sub N (by walk_at "m sb")
theorem off_two {M D q : Addr} {o1 o : Obj} (ho : ∀ p ∈ [(q, o1)], p.1 ≠ M) (h : M < D) : ∀ p ∈ [(q, o1), (D, o)], p.1 ≠ M := by
  intro p hp
  rcases List.mem_cons.mp hp with rfl | hp
  · exact ho _ (.head _)
  · rw [List.mem_singleton.mp hp]; exact Nat.ne_of_gt h
theorem callWith_app' {M : Model} {A : Around} {E : Value → Shared → Prop} {s : Shared} {a : Addr} {pos : Pos} {u : Addr} {first : List Value} {env : Env} {e : Expr} {rest : List Expr} {Q : Value → Shared → Prop}
    (h : wpAny M A (spliced (backTo pos (starEach (e :: rest) env))) (fun vs s₁ => s₁.heap.get? u = some (boundApp a) ∧ wpAny M A (call (.ref u) (first ++ vs)) Q E s₁) E s)
    (he : starEach (e :: rest) env = (false, eval e env) :: starEach rest env := by rfl) (hplain : (backTo pos (starEach rest env)).any (·.1) = false := by rfl) :
    wpAny M A (callWith pos (.ref u) first (backTo pos (starEach (e :: rest) env)) []) Q E s := by
  rw [he] at h ⊢
  refine callWith_app (a := a) (by show (false || (backTo pos (starEach rest env)).any (·.1)) = false; rw [hplain]; rfl) ?_
  exact evalArgs_plain h
theorem item_mkS {cs : List Nat} {i c : Nat} (h : cs[i]? = some c) : Txt.item (mkS cs) (i : Int) = mkS [c] := by
  unfold Txt.item Txt.charAt
  have hlt := (List.getElem?_eq_some_iff.mp h).1
  rw [StrLaws.seqIndex_nonneg (by omega) (by rw [mkS_len]; omega)]
  simp [h]
theorem one_eq {c d : Nat} {x : Str} (h : x = mkS [d]) : (mkS [c] == x) = decide (c = d) := by
  subst h
  by_cases e : c = d
  · subst e; simp
  · rw [decide_eq_false e]
    apply beq_eq_false_iff_ne.mpr
    intro q
    exact e (by simpa using mkS_inj q)
theorem truthy_nil {prog : Program} {w : World} {A : Around} {E : Value → Shared → Prop} {s : Shared} {Q : Bool → Shared → Prop} {h₀ : Heap} {L M : Addr} {c : Nat} {news : List (Addr × Obj)} (N : News h₀ L s.heap news) (hm : (M, lst [] c) ∈ news) (k : ∀ k, Q false { s with toks := k }) : wpAny (model prog w) A (PySem.truthy (.ref M)) Q E s := by
  refine wpAny_truthy_list (isList_of (N.get hm)) (by simp) ?_
  exact k _
def partOf (c : Nat) : Option Nat := if c = 42 then none else if c = 63 then some 46 else some c
def Part (S : Addr) (v : Value) (p : Option Nat) : Prop := match p with
  | none => v = .ref S
  | some c => ∃ t, v = .str (mkS [c]) t
inductive Parts (S : Addr) : List Value → List (Option Nat) → Prop
  | nil : Parts S [] []
  | cons {v vs p ps} : Part S v p → Parts S vs ps → Parts S (v :: vs) (p :: ps)
theorem Parts.snoc {S : Addr} {vs : List Value} {ps : List (Option Nat)} {v : Value} {p : Option Nat} (h : Parts S vs ps) (hp : Part S v p) : Parts S (vs ++ [v]) (ps ++ [p]) := by
  induction h with
  | nil => exact .cons hp .nil
  | cons a _ ih => exact .cons a ih
theorem Parts.len {S : Addr} {vs : List Value} {ps : List (Option Nat)} (h : Parts S vs ps) : vs.length = ps.length := by
  induction h with
  | nil => rfl
  | cons a _ ih => simp [ih]
theorem Parts.get {S : Addr} {vs : List Value} {ps : List (Option Nat)} (h : Parts S vs ps) : ∀ (i : Nat) (p : Option Nat), ps[i]? = some p → ∃ v, vs[i]? = some v ∧ Part S v p := by
  induction h with
  | nil => intro i p e; simp at e
  | cons a _ ih =>
    intro i p e
    cases i with
    | zero => simp at e; subst e; exact ⟨_, rfl, a⟩
    | succ i => simpa using ih i p (by simpa using e)
variable {w : World} {mean : ExcName → Option Value} {mg mb : Str → Option Value}
/-- what holds ahead of a turn of the while -/
inductive J12 (cs : List Nat) (S : Addr) (k : Nat) (m : Str → Option Value) (news : List (Addr × Obj)) : Prop
  | mk (M q : Addr) (xs : List Value) (c : Nat) (rest : List (Addr × Obj)) (i : Nat) (ti tn tp ts : Tok) (_ : news = (M, lst xs c) :: (q, boundApp M) :: rest) (_ : (∀ p ∈ (q, boundApp M) :: rest, p.1 ≠ M)) (_ : m (Str.ofString "res") = some (.ref M)) (_ : m (Str.ofString "add") = some (.ref q)) (_ : m (Str.ofString "i") = some (.int (i : Int) ti)) (_ : m (Str.ofString "n") = some (.int (cs.length : Int) tn)) (_ : m (Str.ofString "pat") = some (.str (mkS cs) tp)) (_ : m (Str.ofString "STAR") = some (.ref S)) (_ : m (Str.ofString "QUESTION_MARK") = some (.str (Str.ofString ".") ts)) (_ : Parts S xs ((cs.take i).map partOf)) (_ : i ≤ cs.length) (_ : k = cs.length - i)
set_option maxRecDepth 100000 in
set_option maxHeartbeats 4000000 in
theorem translate0_spec (cs : List Nat) (S : Addr) (t t2 : Tok) (hcs : ∀ i c, cs[i]? = some c → Sgn c ∨ c = 63 ∨ (c = 42 ∧ i = 0)) (hl : cs.length ≤ 20) : Fn w mean mg mb 76 40 200 [.str (mkS cs) t, .ref S, .str (Str.ofString ".") t2] (fun _ => True) (fun h v h' => ∃ D vs c, v = .ref D ∧ h.get? D = none ∧ h'.get? D = some (lst vs c) ∧ Parts S vs (cs.map partOf)) := by
  rintro dp un fr gd s R hr G - hR
  refine' enter (d := 39) (u := 197) (binds := [(Str.ofString "pat", .str (mkS cs) t), (Str.ofString "STAR", .ref S), (Str.ofString "QUESTION_MARK", .str (Str.ofString ".") t2)]) hr G ?ho ?hcd ?hb ?hl ?hc ?_ ?c1 ?c2 ?c3
  walk_at "m enter"
  intro L h₁ hr' F N X T
  refine wp_in (by passes_own) hr' ?_
  clear hr'
  intro dp un fr gd Q₀ E₀ hr' hE₀ hQ₀
  walk_at "m ec"
  walk_at "m go2"
  rename Fr _ _ _ _ => F1
  rename News _ _ _ _ => N1
  refine bind_mine (xs := []) (c := 0) F1 N1 (fun _ h => nomatch h) ?_
  intro q hq tkq F2 N2 ho2
  clear F1 N1
  walk_at "m go2"
  refine PyProof.Rows.len_str (by rw [mkS_len]; omega) ?_
  rw [mkS_len]
  walk_at "m go2"
  rename Fr _ _ _ _ => F3
  rename News _ _ _ _ => N3
  rename _ < _ ∧ _ => hlt
  refine' While_inv (J12 cs S) ?F ?N ?hJ ?turn ?hE
  case F => exact F3
  case N => exact News.rot3 N3
  case hJ => exact ⟨_, _, _, _, _, 0, _, _, _, _, rfl, off_two ho2 hlt.1, rfl, rfl, rfl, rfl, rfl, rfl, rfl, .nil, Nat.zero_le _, rfl⟩
  case hE => first | assumption | passes_own
  case turn =>
    rintro k m₁ news₁ h tk F4 N4 ⟨M, q, xs, c, rest, i, ti, tn, tp, ts, rfl, ho, h1, h2, h3, h4, h5, h6, h7, hxs, hi, rfl⟩
    clear F3 N3
    rcases Nat.lt_or_ge i cs.length with hlt | hge
    · obtain ⟨c0, hc0⟩ : ∃ c0, cs[i]? = some c0 := ⟨_, List.getElem?_eq_getElem hlt⟩
      have hl0 : (mkS cs).length = cs.length := mkS_len cs
      have b1 : (i : Int) < (cs.length : Int) := by omega
      have b2 : (i : Int) < ((mkS cs).length : Int) := by rw [hl0]; omega
      have b3 : -((mkS cs).length : Int) ≤ (i : Int) := by omega
      have hit := item_mkS hc0
      have hstar : (Txt.item (mkS cs) (i : Int) == Str.ofString "*") = decide (c0 = 42) := by rw [hit]; exact one_eq (by decide +kernel)
      have hquest : (Txt.item (mkS cs) (i : Int) == Str.ofString "?") = decide (c0 = 63) := by rw [hit]; exact one_eq (by decide +kernel)
      have hbrack : (Txt.item (mkS cs) (i : Int) == Str.ofString "[") = decide (c0 = 91) := by rw [hit]; exact one_eq (by decide +kernel)
      have hnext : (cs.take (i + 1)).map partOf = (cs.take i).map partOf ++ [partOf c0] := by rw [List.take_add_one, hc0]; simp
      have hxl : xs.length ≤ 20 := by have := hxs.len; rw [List.length_map, List.length_take] at this; omega
      rcases hcs i c0 hc0 with hsg | rfl | ⟨rfl, rfl⟩
      · have hc1 : (47 ≤ c0 ∧ c0 ≠ 63 ∧ c0 ≠ 91) := by have := hsg; unfold Sgn at this; omega
        rw [decide_eq_false (by omega)] at hstar hquest hbrack
        walk_at "m go2"
        rename Fr _ _ _ _ => F5
        rename News _ _ _ _ => N5
        refine callWith_app' (a := M) ?_
        walk_at "m go2"
        walk1
        walk_at "m go2"
        rw [hit]
        refine call_fn (escape_spec c0 _ hsg) F5 N5 X T (hr'.mono (by decide) (by decide)) trivial ?_
        rintro v h6' tk6 e6 F6 N6 ⟨t6, rfl⟩
        walk_at "m go2"
        refine ⟨N6.get (.tail _ (.head _)), ?_⟩
        refine call_app F6 N6 (.head _) ho (by omega) ?_
        intro h9 F9 N9
        walk_at "m go2"
        refine WhileStep.intro (n' := cs.length - (i + 1)) F9 N9 (by omega) ⟨M, q, _, _, rest, i + 1, _, _, _, _, rfl, ho, h1, h2, rfl, h4, h5, h6, h7, ?_, by omega, rfl⟩
        rw [hnext]
        exact hxs.snoc (by rw [partOf, if_neg (by omega), if_neg (by omega)]; exact ⟨_, rfl⟩)
      · rw [decide_eq_false (by decide)] at hstar
        rw [decide_eq_true rfl] at hquest
        walk_at "m go2"
        rename Fr _ _ _ _ => F6
        rename News _ _ _ _ => N6
        refine callWith_app' (a := M) ?_
        walk_at "m go2"
        refine ⟨N6.get (.tail _ (.head _)), ?_⟩
        refine call_app F6 N6 (.head _) ho (by omega) ?_
        intro h9 F9 N9
        walk_at "m go2"
        refine WhileStep.intro (n' := cs.length - (i + 1)) F9 N9 (by omega) ⟨M, q, _, _, rest, i + 1, _, _, _, _, rfl, ho, h1, h2, rfl, h4, h5, h6, h7, ?_, by omega, rfl⟩
        rw [hnext]
        exact hxs.snoc (by rw [partOf, if_neg (by omega), if_pos rfl]; exact ⟨_, congrArg (fun z => Value.str z _) (by decide +kernel)⟩)
      · rw [decide_eq_true rfl] at hstar
        walk_at "m go2"
        rename Fr _ _ _ _ => F6
        rename News _ _ _ _ => N6
        obtain rfl : xs = [] := by cases hxs; rfl
        refine truthy_nil N6 (.head _) ?_
        intro k0
        walk_at "m go2"
        refine callWith_app' (a := M) ?_
        walk_at "m go2"
        refine ⟨N6.get (.tail _ (.head _)), ?_⟩
        refine call_app F6 N6 (.head _) ho (by simp) ?_
        intro h9 F9 N9
        walk_at "m go2"
        refine WhileStep.intro (n' := cs.length - (0 + 1)) F9 N9 (by omega) ⟨M, q, _, _, rest, 0 + 1, _, _, _, _, rfl, ho, h1, h2, rfl, h4, h5, h6, h7, ?_, by omega, rfl⟩
        rw [hnext]
        exact hxs.snoc (by rw [partOf, if_pos rfl]; rfl)
    · have b1 : (i : Int) = (cs.length : Int) := by omega
      walk_at "m go2"
      all_goals first | (exfalso; omega) | skip
      walk_at "m hd"
      refine hR _ _ _ F4.keep ⟨M, xs, c, rfl, N4.fresh (.head _), N4.get (.head _), ?_⟩
      rw [show i = cs.length by omega, List.take_length] at hxs
      exact hxs
end
end
section
section
variable {w : World} {mean : ExcName → Option Value} {mg mb : Str → Option Value}
/-- what holds ahead of a turn -/
inductive J13 (S D : Addr) (bs : List Nat) (k : Nat) (m : Str → Option Value) (news : List (Addr × Obj)) : Prop
  | mk (M : Addr) (q : Addr) (xs : List Value) (c : Nat) (rest : List (Addr × Obj)) (i : Nat) (ti : Tok) (tn : Tok) (_ : news = (M, lst xs c) :: (q, boundApp M) :: rest) (_ : (∀ p ∈ (q, boundApp M) :: rest, p.1 ≠ M)) (_ : m (Str.ofString "res") = some (.ref M)) (_ : m (Str.ofString "add") = some (.ref q)) (_ : m (Str.ofString "i") = some (.int (i : Int) ti)) (_ : m (Str.ofString "n") = some (.int (bs.length : Int) tn)) (_ : m (Str.ofString "inp") = some (.ref D)) (_ : m (Str.ofString "STAR") = some (.ref S)) (_ : StrsAre xs ((bs.take i).map fun b => mkS [b])) (_ : i ≤ bs.length) (_ : k = bs.length - i)
/-- what holds ahead of a turn -/
inductive J13b (M q : Addr) (xs : List Value) (c : Nat) (rest : List (Addr × Obj)) (bs : List Nat) (k : Nat) (m : Str → Option Value) (news : List (Addr × Obj)) : Prop
  | mk (_ : k = 0) (_ : news = (M, lst xs c) :: (q, boundApp M) :: rest) (ti : Tok) (tn : Tok) (_ : m (Str.ofString "res") = some (.ref M)) (_ : m (Str.ofString "i") = some (.int (bs.length : Int) ti)) (_ : m (Str.ofString "n") = some (.int (bs.length : Int) tn))
set_option maxRecDepth 100000 in
set_option maxHeartbeats 4000000 in
theorem joined_plain (S D : Addr) (vs : List Value) (nn : Nat) (bs : List Nat) (hl : bs.length ≤ 20) (hvs : Parts S vs (bs.map some)) : Fn w mean mg mb 83 40 200 [.ref D, .ref S] (fun h => h.get? D = some (lst vs nn)) (fun _ v _ => ∃ t, v = .str (mkS ([40, 63, 115, 58] ++ bs ++ [41, 92, 90])) t) := by
  rintro dp un fr gd s R hr G hD hR
  refine' enter (d := 39) (u := 197) (binds := [(Str.ofString "inp", .ref D), (Str.ofString "STAR", .ref S)]) hr G ?ho ?hcd ?hb ?hl ?hc ?_ ?c1 ?c2 ?c3
  walk_at "m enter"
  intro L h₁ hr' F N X T
  refine wp_in (by passes_own) hr' ?_
  clear hr'
  intro dp un fr gd Q₀ E₀ hr' hE₀ hQ₀
  walk_at "m ec"
  walk_at "m go2"
  rename Fr _ _ _ _ => F1
  rename News _ _ _ _ => N1
  refine bind_mine (xs := []) (c := 0) F1 N1 (fun _ h => nomatch h) ?_
  intro q hq tkq F2 N2 ho2
  clear F1 N1
  walk_at "m go2"
  rename Fr _ _ _ _ => F3
  rename News _ _ _ _ => N3
  have hvl : vs.length = bs.length := by rw [hvs.len, List.length_map]
  refine PyProof.Rows.len_list (isList_of (F3.keep _ _ hD)) (by simp; omega) ?_
  rw [List.size_toArray, hvl]
  walk_at "m go2"
  rename Fr _ _ _ _ => F3
  rename News _ _ _ _ => N3
  rename _ < _ ∧ _ => hlt
  refine' While_inv (J13 S D bs) ?F ?N ?hJ ?turn ?hE
  case F => exact F3
  case N => exact News.rot3 N3
  case hJ => exact ⟨_, _, _, _, _, 0, _, _, rfl, off_two ho2 hlt.1, rfl, rfl, rfl, rfl, rfl, rfl, .nil, Nat.zero_le _, rfl⟩
  case hE => first | assumption | passes_own
  case turn =>
    rintro k m₁ news₁ h tk F4 N4 ⟨M, q, xs, c, rest, i, ti, tn, rfl, ho, h1, h2, h3, h4, h5, h6, hxs, hi, rfl⟩
    clear F3 N3
    rcases Nat.lt_or_ge i bs.length with hlt | hge
    · obtain ⟨c0, hc0⟩ : ∃ c0, bs[i]? = some c0 := ⟨_, List.getElem?_eq_getElem hlt⟩
      obtain ⟨v0, hv0, t0, rfl⟩ := hvs.get i (some c0) (by rw [List.getElem?_map, hc0]; rfl)
      have b1 : (i : Int) < (bs.length : Int) := by omega
      have hxl : xs.length ≤ 20 := by have := hxs.len_eq; rw [List.length_map, List.length_take] at this; omega
      walk_at "m go2"
      refine item_listL (isList_of (F4.keep _ _ hD)) (by omega) (by omega) (by simpa using hv0) ?_
      walk_at "m go2"
      refine wpAny_isNot_other rfl (by intro h; cases h) ?_
      walk_at "m go2"
      rename Fr _ _ _ _ => F5
      rename News _ _ _ _ => N5
      refine callWith_app' (a := M) ?_
      walk_at "m go2"
      refine item_listL (isList_of (F5.keep _ _ hD)) (by omega) (by omega) (by simpa using hv0) ?_
      walk_at "m go2"
      refine ⟨N5.get (.tail _ (.head _)), ?_⟩
      refine call_app F5 N5 (.head _) ho (by omega) ?_
      intro h9 F9 N9
      walk_at "m go2"
      rename Fr _ _ _ _ => F9
      rename News _ _ _ _ => N9
      refine WhileStep.intro (n' := bs.length - (i + 1)) F9 N9 (by omega) ⟨M, q, _, _, rest, i + 1, _, _, rfl, ho, h1, h2, rfl, h4, h5, h6, ?_, by omega, rfl⟩
      rw [List.take_add_one, hc0, List.map_append]
      exact hxs.append' (.cons _ _ .nil)
    · have b1 : (i : Int) = (bs.length : Int) := by omega
      walk_at "m go2"
      rename Fr _ _ _ _ => F5
      rename News _ _ _ _ => N5
      rw [show i = bs.length by omega, List.take_length] at hxs
      refine' While_inv (J13b M q xs c rest bs) ?F ?N ?hJ ?turn ?hE
      case F => exact F5
      case N => exact N5
      case hJ => exact ⟨rfl, rfl, _, _, h1, by rw [← b1]; exact h3, h4⟩
      case hE => first | assumption | passes_own
      rintro k m₂ news₂ h tk F6 N6 ⟨rfl, rfl, ti, tn, h1, h3, h4⟩
      clear F5 N5
      walk_at "m go2"
      all_goals first | (exfalso; omega) | skip
      refine join_strs (isList_of (N6.get (.head _))) hxs ?_ ?_
      · have : (List.map (fun x : Str => x.length) (List.map (fun b => mkS [b]) bs)).sum = bs.length := sum_ch bs
        rw [this, List.length_map]; show bs.length + bs.length * 0 ≤ _; omega
      intro t7 k7
      rw [show Str.join (Str.ofString "") (List.map (fun b => mkS [b]) bs) = mkS bs from join_empty bs]
      have hpre : Str.empty ++ Str.ofString "(?s:" ++ mkS bs = mkS ([40, 63, 115, 58] ++ bs) := by
        rw [show Str.empty ++ Str.ofString "(?s:" = mkS [40, 63, 115, 58] by decide +kernel, mkS_append]
      have hpost : mkS ([40, 63, 115, 58] ++ bs) ++ Str.ofString ")\\Z" = mkS ([40, 63, 115, 58] ++ bs ++ [41, 92, 90]) := by
        rw [show Str.ofString ")\\Z" = mkS [41, 92, 90] by decide +kernel, mkS_append]
      walk_at "m go2"
      · rw [hpre, mkS_len, sizeLine_eq]; simp; omega
      rw [hpre]
      walk_at "m go2"
      · rw [hpost, mkS_len, sizeLine_eq]; simp; omega
      rw [hpost]
      refine PyProof.Rows.joinParts_nilE (PyProof.Rows.joinParts_nil ?_ (by rw [mkS_len, sizeLine_eq]; simp; omega))
      walk_at "m go2"
      rename Fr _ _ _ _ => F9
      walk_at "m hd"
      exact hR _ _ _ F9.keep ⟨_, rfl⟩
end
end
section
section
theorem str_join_mk (bs : List Nat) : Str.join (Str.ofString "") (List.map (fun b => mkS [b]) bs) = mkS bs := join_empty bs
theorem sum_one (bs : List Nat) : (List.map (fun x : Str => x.length) (List.map (fun b => mkS [b]) bs)).sum = bs.length := sum_ch bs
theorem News.swap {h₀ h : Heap} {L : Addr} {a b : Addr × Obj} {r : List (Addr × Obj)} (N : News h₀ L h (a :: b :: r)) : News h₀ L h (b :: a :: r) := News.sub N (by
  intro p hp
  rcases List.mem_cons.mp hp with rfl | hp
  · exact .tail _ (.head _)
  · rcases List.mem_cons.mp hp with rfl | hp
    · exact .head _
    · exact .tail _ (.tail _ hp))
theorem AllLt.off {d : Addr} : ∀ {l : List (Addr × Obj)}, PySem.W.AllLt d l → ∀ p ∈ l, p.1 ≠ d
  | [], _, _, hp => nomatch hp
  | _ :: _, h, p, hp => by
    rcases List.mem_cons.mp hp with rfl | hp
    · exact Nat.ne_of_lt h.1
    · exact AllLt.off h.2 p hp
theorem off_cons {M D : Addr} {o : Obj} {r : List (Addr × Obj)} (h : D ≠ M) (ho : ∀ p ∈ r, p.1 ≠ M) : ∀ p ∈ (D, o) :: r, p.1 ≠ M := by
  intro p hp
  rcases List.mem_cons.mp hp with rfl | hp
  · exact h
  · exact ho p hp
variable {w : World} {mean : ExcName → Option Value} {mg mb : Str → Option Value}
/-- what holds ahead of a turn -/
inductive J14 (S D : Addr) (bs : List Nat) (k : Nat) (m : Str → Option Value) (news : List (Addr × Obj)) : Prop
  | mk (_ : k = 0) (M : Addr) (q : Addr) (rest : List (Addr × Obj)) (ti : Tok) (tn : Tok) (_ : news = (M, lst [] 0) :: (q, boundApp M) :: rest) (_ : (∀ p ∈ (q, boundApp M) :: rest, p.1 ≠ M)) (_ : m (Str.ofString "res") = some (.ref M)) (_ : m (Str.ofString "add") = some (.ref q)) (_ : m (Str.ofString "i") = some (.int 0 ti)) (_ : m (Str.ofString "n") = some (.int ((bs.length + 1 : Nat) : Int) tn)) (_ : m (Str.ofString "inp") = some (.ref D)) (_ : m (Str.ofString "STAR") = some (.ref S))
/-- what holds ahead of a turn -/
inductive J14b (S D : Addr) (bs : List Nat) (k : Nat) (m : Str → Option Value) (news : List (Addr × Obj)) : Prop
  | mk (M : Addr) (q : Addr) (rest : List (Addr × Obj)) (ti : Tok) (tn : Tok) (xs : List Value) (c : Nat) (ii : Int) (_ : news = (M, lst xs c) :: (q, boundApp M) :: rest) (_ : (∀ p ∈ (q, boundApp M) :: rest, p.1 ≠ M)) (_ : m (Str.ofString "res") = some (.ref M)) (_ : m (Str.ofString "add") = some (.ref q)) (_ : m (Str.ofString "i") = some (.int ii ti)) (_ : m (Str.ofString "n") = some (.int ((bs.length + 1 : Nat) : Int) tn)) (_ : m (Str.ofString "inp") = some (.ref D)) (_ : m (Str.ofString "STAR") = some (.ref S)) (_ : ((k = 1 ∧ ii = 0 ∧ xs = []) ∨ (k = 0 ∧ ii = ((bs.length + 1 : Nat) : Int) ∧ StrsAre xs [mkS [46, 42], mkS bs])))
/-- what holds ahead of a turn -/
inductive J14c (S D : Addr) (bs : List Nat) (k : Nat) (m : Str → Option Value) (news : List (Addr × Obj)) : Prop
  | mk (Fx : Addr) (M : Addr) (q : Addr) (rest : List (Addr × Obj)) (ti : Tok) (tn : Tok) (c : Nat) (ys : List Value) (d : Nat) (i : Nat) (_ : news = (Fx, lst ys d) :: (M, lst [] c) :: (q, boundApp M) :: rest) (_ : (∀ p ∈ (M, lst [] c) :: (q, boundApp M) :: rest, p.1 ≠ Fx)) (_ : (∀ p ∈ (q, boundApp M) :: rest, p.1 ≠ M)) (_ : m (Str.ofString "res") = some (.ref M)) (_ : m (Str.ofString "add") = some (.ref q)) (_ : m (Str.ofString "fixed") = some (.ref Fx)) (_ : m (Str.ofString "i") = some (.int ((i : Int) + 1) ti)) (_ : m (Str.ofString "n") = some (.int ((bs.length + 1 : Nat) : Int) tn)) (_ : m (Str.ofString "inp") = some (.ref D)) (_ : m (Str.ofString "STAR") = some (.ref S)) (_ : StrsAre ys ((bs.take i).map fun b => mkS [b])) (_ : i ≤ bs.length) (_ : k = bs.length - i)
set_option maxRecDepth 100000 in
set_option maxHeartbeats 4000000 in
theorem joined_star (S D : Addr) (vs : List Value) (nn : Nat) (bs : List Nat) (hl : bs.length ≤ 20) (hb1 : 1 ≤ bs.length) (hvs : Parts S vs (none :: bs.map some)) : Fn w mean mg mb 83 40 200 [.ref D, .ref S] (fun h => h.get? D = some (lst vs nn)) (fun _ v _ => ∃ t, v = .str (mkS ([40, 63, 115, 58] ++ (46 :: 42 :: bs) ++ [41, 92, 90])) t) := by
  rintro dp un fr gd s R hr G hD hR
  refine' enter (d := 39) (u := 197) (binds := [(Str.ofString "inp", .ref D), (Str.ofString "STAR", .ref S)]) hr G ?ho ?hcd ?hb ?hl ?hc ?_ ?c1 ?c2 ?c3
  walk_at "m enter"
  intro L h₁ hr' F N X T
  refine wp_in (by passes_own) hr' ?_
  clear hr'
  intro dp un fr gd Q₀ E₀ hr' hE₀ hQ₀
  walk_at "m ec"
  walk_at "m go2"
  rename Fr _ _ _ _ => F1
  rename News _ _ _ _ => N1
  refine bind_mine (xs := []) (c := 0) F1 N1 (fun _ h => nomatch h) ?_
  intro q hq tkq F2 N2 ho2
  clear F1 N1
  walk_at "m go2"
  rename Fr _ _ _ _ => F3
  rename News _ _ _ _ => N3
  have hvl : vs.length = bs.length + 1 := by rw [hvs.len, List.length_cons, List.length_map]
  refine PyProof.Rows.len_list (isList_of (F3.keep _ _ hD)) (by simp; omega) ?_
  rw [List.size_toArray, hvl]
  walk_at "m go2"
  rename Fr _ _ _ _ => F3
  rename News _ _ _ _ => N3
  rename _ < _ ∧ _ => hlt
  obtain ⟨v0, hv0, rfl⟩ := hvs.get 0 none rfl
  refine' While_inv (J14 S D bs) ?F ?N ?hJ ?turn ?hE
  case F => exact F3
  case N => exact News.rot3 N3
  case hJ => exact ⟨rfl, _, _, _, _, _, rfl, off_two ho2 hlt.1, rfl, rfl, rfl, rfl, rfl, rfl⟩
  case hE => first | assumption | passes_own
  rintro k m₁ news₁ h tk F4 N4 ⟨rfl, M, q, rest, ti, tn, rfl, ho, h1, h2, h3, h4, h5, h6⟩
  clear F3 N3
  have b0 : (0 : Int) < ((bs.length + 1 : Nat) : Int) := by omega
  walk_at "m go2"
  refine item_listL (isList_of (F4.keep _ _ hD)) (by omega) (by omega) (by simpa using hv0) ?_
  walk_at "m go2"
  rename Fr _ _ _ _ => F5
  rename News _ _ _ _ => N5
  refine' While_inv (J14b S D bs) ?Fb ?Nb ?hJb ?turnb ?hEb
  case Fb => exact F5
  case Nb => exact N5
  case hJb => exact ⟨M, q, rest, ti, tn, [], 0, 0, rfl, ho, h1, h2, h3, h4, h5, h6, .inl ⟨rfl, rfl, rfl⟩⟩
  case hEb => passes_own
  clear F5 N5 h1 h2 h3 h4 h5 h6 ho
  rintro k m₁ news₁ h tk F4 N4 ⟨M, q, rest, ti, tn, xs, c, ii, rfl, ho, h1, h2, h3, h4, h5, h6, hcase⟩
  rcases hcase with ⟨rfl, rfl, rfl⟩ | ⟨rfl, rfl, hxs⟩
  · have b1 : ((0 : Int) + 1) ≠ ((bs.length + 1 : Nat) : Int) := by omega
    obtain ⟨c1, hc1⟩ : ∃ c1, bs[0]? = some c1 := ⟨_, List.getElem?_eq_getElem (by omega)⟩
    obtain ⟨v1, hv1, t1, rfl⟩ := hvs.get 1 (some c1) (by rw [List.getElem?_cons_succ, List.getElem?_map, hc1]; rfl)
    walk_at "m go2"
    refine item_listL (isList_of (F4.keep _ _ hD)) (by omega) (by omega) (by simpa using hv0) ?_
    walk_at "m go2"
    all_goals first | (exfalso; omega) | skip
    walk_at "m go2"
    rename Fr _ _ _ _ => F5
    refine item_listL (isList_of (F5.keep _ _ hD)) (by omega) (by omega) (by simpa using hv1) ?_
    walk_at "m go2"
    refine wpAny_isNot_other rfl (by intro h; cases h) ?_
    walk_at "m go2"
    rename Fr _ _ _ _ => F6
    rename News _ _ _ _ => N6
    rename _ ∧ _ => hlt
    refine' While_inv (J14c S D bs) ?Fc ?Nc ?hJc ?turnc ?hEc
    case Fc => exact F6
    case Nc => exact N6
    case hJc => exact ⟨_, M, q, rest, _, tn, _, _, _, 0, rfl, off_cons (Nat.ne_of_lt hlt.1) (off_cons (Nat.ne_of_lt hlt.2.1) (AllLt.off hlt.2.2)), ho, h1, h2, rfl, rfl, h4, h5, h6, .nil, Nat.zero_le _, rfl⟩
    case hEc => passes_own
    clear F6 N6 h1 h2 h3 h4 h5 h6 ho b0 b1 hlt
    rintro k m₁ news₁ h tk F4 N4 ⟨Fx, M, q, rest, ti, tn, c, ys, d, i, rfl, hoF, ho, h1, h2, h7, h3, h4, h5, h6, hys, hi, rfl⟩
    have hyl : ys.length ≤ 20 := by have := hys.len_eq; rw [List.length_map, List.length_take] at this; omega
    rcases Nat.lt_or_ge i bs.length with hlt | hge
    · obtain ⟨c2, hc2⟩ : ∃ c2, bs[i]? = some c2 := ⟨_, List.getElem?_eq_getElem hlt⟩
      obtain ⟨v2, hv2, t2, rfl⟩ := hvs.get (i + 1) (some c2) (by rw [List.getElem?_cons_succ, List.getElem?_map, hc2]; rfl)
      have b1 : (i : Int) + 1 < ((bs.length + 1 : Nat) : Int) := by omega
      have b2 : ((i : Int) + 1).toNat = i + 1 := by omega
      walk_at "m go2"
      refine item_listL (isList_of (F4.keep _ _ hD)) (by omega) (by omega) (by rw [b2]; exact hv2) ?_
      walk_at "m go2"
      refine wpAny_isNot_other rfl (by intro h; cases h) ?_
      walk_at "m go2"
      rename Fr _ _ _ _ => F5
      rename News _ _ _ _ => N5
      refine item_listL (isList_of (F5.keep _ _ hD)) (by omega) (by omega) (by rw [b2]; exact hv2) ?_
      walk_at "m go2"
      refine append_mine F5 N5 hoF (by omega) ?_
      intro h9 F9 N9
      walk_at "m go2"
      rename Fr _ _ _ _ => F10
      rename News _ _ _ _ => N10
      refine WhileStep.intro (n' := bs.length - (i + 1)) F10 N10 (by omega) ⟨Fx, M, q, rest, _, _, c, _, _, i + 1, rfl, hoF, ho, h1, h2, h7, rfl, h4, h5, h6, ?_, by omega, rfl⟩
      rw [List.take_add_one, hc2, List.map_append]
      exact hys.append' (.cons _ _ .nil)
    · have b1 : (i : Int) + 1 = ((bs.length + 1 : Nat) : Int) := by omega
      rw [show i = bs.length by omega, List.take_length] at hys
      walk_at "m go2"
      rename Fr _ _ _ _ => F5
      rename News _ _ _ _ => N5
      refine join_strs (isList_of (N5.get (.head _))) hys ?_ ?_
      · rw [sum_one, List.length_map]; show bs.length + bs.length * 0 ≤ _; omega
      intro t7 k7
      rw [str_join_mk]
      walk_at "m go2"
      all_goals first | (exfalso; omega) | skip
      rename Fr _ _ _ _ => F6
      rename News _ _ _ _ => N6
      have hoM := off_cons (o := lst ys d) (Ne.symm (hoF _ (.head _))) ho
      refine callWith_app' (a := M) ?_
      walk_at "m go2"
      refine ⟨N6.get (.tail _ (.tail _ (.head _))), ?_⟩
      refine call_app F6 (News.swap N6) (.tail _ (.head _)) hoM (by simp) ?_
      intro h8 F8 N8
      walk_at "m go2"
      refine callWith_app' (a := M) ?_
      walk_at "m go2"
      refine ⟨N8.get (.tail _ (.tail _ (.head _))), ?_⟩
      refine call_app F8 N8 (.tail _ (.head _)) hoM (by simp) ?_
      intro h9 F9 N9
      walk_at "m go2"
      refine WhileStep.intro (n' := 0) F9 (News.drop (News.swap N9)) (by decide) ⟨M, q, rest, _, _, _, _, _, rfl, ho, h1, h2, h3, h4, h5, h6, .inr ⟨rfl, b1, ?_⟩⟩
      exact .cons _ _ (.cons _ _ .nil)
  · have b2 : ¬ ((bs.length + 1 : Nat) : Int) < ((bs.length + 1 : Nat) : Int) := by omega
    walk_at "m go2"
    all_goals first | (exfalso; omega) | skip
    refine join_strs (isList_of (N4.get (.head _))) hxs ?_ ?_
    · simp only [List.map_cons, List.map_nil, mkS_len, List.sum_cons, List.sum_nil, List.length_cons, List.length_nil]
      show 2 + (bs.length + 0) + 2 * 0 ≤ _; omega
    intro t7 k7
    have hj : Str.join (Str.ofString "") [mkS [46, 42], mkS bs] = mkS (46 :: 42 :: bs) := by
      show mkS [46, 42] ++ Str.ofString "" ++ Str.join (Str.ofString "") [mkS bs] = _
      rw [show Str.ofString "" = mkS [] by decide +kernel]
      show mkS [46, 42] ++ mkS [] ++ mkS bs = _
      rw [mkS_append, mkS_append]; rfl
    rw [hj]
    have hpre : Str.empty ++ Str.ofString "(?s:" ++ mkS (46 :: 42 :: bs) = mkS ([40, 63, 115, 58] ++ (46 :: 42 :: bs)) := by
      rw [show Str.empty ++ Str.ofString "(?s:" = mkS [40, 63, 115, 58] by decide +kernel, mkS_append]
    have hpost : mkS ([40, 63, 115, 58] ++ (46 :: 42 :: bs)) ++ Str.ofString ")\\Z" = mkS ([40, 63, 115, 58] ++ (46 :: 42 :: bs) ++ [41, 92, 90]) := by
      rw [show Str.ofString ")\\Z" = mkS [41, 92, 90] by decide +kernel, mkS_append]
    walk_at "m go2"
    · rw [hpre, mkS_len, sizeLine_eq]; simp; omega
    rw [hpre]
    walk_at "m go2"
    · rw [hpost, mkS_len, sizeLine_eq]; simp; omega
    rw [hpost]
    refine PyProof.Rows.joinParts_nilE (PyProof.Rows.joinParts_nil ?_ (by rw [mkS_len, sizeLine_eq]; simp; omega))
    walk_at "m go2"
    rename Fr _ _ _ _ => F9
    walk_at "m hd"
    exact hR _ _ _ F9.keep ⟨_, rfl⟩
end
end
section
section
open PySem.Builtin
theorem ob_lookup_new : typeLookup (.type "object") "__new__" = pure (some (.builtin "object.__new__")) := by rw [typeLookup_type, builtinLookup_eq_fast]; kernel_rfl
theorem ob_called : TypeCalled "object" "object.__new__" "object.__init__" :=
  ⟨by decide +kernel, by decide +kernel, ⟨_, _, PySem.F.mro_object⟩, madeBy_type PySem.F.mro_object ob_lookup_new (by decide +kernel), by decide +kernel, by rw [isSubtype_type]; kernel_rfl, PySem.F.slot_object_init⟩
theorem ob_typeCall : checkTypeCall "object" ⟨[], []⟩ = pure () := by kernel_rfl
theorem ob_newCall : checkBuiltinCall "object.__new__" ⟨[.type "object"], []⟩ = pure () := by kernel_rfl
set_option maxRecDepth 100000 in
theorem ob_here : Bind.madeHere "object.__new__" (.type "object") = pure () := by
  unfold Bind.madeHere
  have e : Bind.staticBase (.type "object") = pure (.type "object") := by first | rfl | kernel_rfl
  rw [e]
  simp only [pure_bind, ob_called.made]
  first | rfl | kernel_rfl | (simp; rfl)
theorem ob_new : Meets (Builtin.«object.__new__» ⟨[.type "object"], []⟩) (fun _ R s => R (.ok (.ret (.ref s.heap.objs.size))) { s with heap := s.heap.push { cls := .type "object", data := .plain } }) :=
  .of_wp fun prog w A R s h => by
    obtain ⟨hp, g, d, tk, os⟩ := s
    have hmh := ob_here
    unfold Builtin.«object.__new__»
    repeat (any_goals (first | assumption | wp_step))
    exact ⟨_, rfl, h⟩
theorem ob_init (self : Value) : Meets (Builtin.«object.__init__» ⟨[self], []⟩) (fun _ R s => R (.ok (.ret .none)) s) :=
  .of_wp fun prog w A R s h => wpAny_pure ⟨_, rfl, h⟩
theorem call_object {prog : Program} {w : World} {A : Around} {E : Value → Shared → Prop} {s : Shared} {h₀ : Heap} {L : Addr} {m : Str → Option Value} {news : List (Addr × Obj)} {Q : Value → Shared → Prop} (F : Fr h₀ L s.heap m) (N : News h₀ L s.heap news)
    (k : ∀ a h', Fr h₀ L h' m → News h₀ L h' ((a, { cls := .type "object", data := .plain }) :: news) → Q (.ref a) { s with heap := h' }) : wpAny (model prog w) A (call (.type "object") []) Q E s := by
  refine callType_meets (Q₁ := fun obj s₁ => s₁.TypeIs obj "object" ∧ Q obj s₁) ob_called ob_typeCall ob_newCall PySem.F.entry_object_new PySem.F.entry_object_init ob_new ?_ ?_
  · refine ⟨⟨_, Heap.get?_push_size _ rfl, rfl⟩, ?_⟩
    exact k _ _ (F.push _) (N.push F _)
  · rintro obj s₁ ⟨hT, hq⟩
    exact ⟨hT, PySem.F.args_object_init_1 obj, _, ob_init obj, rfl, hq⟩
end
section
variable {w : World} {mean : ExcName → Option Value} {mg mb : Str → Option Value}
def qm (c : Nat) : Nat := if c = 63 then 46 else c
set_option maxRecDepth 100000 in
set_option maxHeartbeats 4000000 in
theorem translate_star (cs : List Nat) (t : Tok) (hcs : ∀ c ∈ cs, Sgn c) (h1 : 1 ≤ cs.length) (hl : cs.length ≤ 19) : Fn w mean mg mb 57 50 300 [.str (mkS (42 :: cs)) t] (fun _ => True) (fun _ v _ => ∃ t, v = .str (mkS ([40, 63, 115, 58] ++ (46 :: 42 :: cs) ++ [41, 92, 90])) t) := by
  rintro dp un fr gd s R hr G - hR
  refine' enter (d := 49) (u := 297) (binds := [(Str.ofString "pat", .str (mkS (42 :: cs)) t)]) hr G ?ho ?hcd ?hb ?hl ?hc ?_ ?c1 ?c2 ?c3
  walk_at "m enter"
  intro L h₁ hr' F N X T
  refine wp_in (by passes_own) hr' ?_
  clear hr'
  intro dp un fr gd Q₀ E₀ hr' hE₀ hQ₀
  walk_at "m ec"
  walk_at "m go2"
  rename Fr _ _ _ _ => F2
  rename News _ _ _ _ => N2
  refine call_object F2 N2 ?_
  intro S h2 F3 N3
  walk_at "m go2"
  walk1
  walk_at "m go2"
  rename Fr _ _ _ _ => F4
  rename News _ _ _ _ => N4
  refine call_fn (translate0_spec (42 :: cs) S _ _ ?hcs0 (by simp; omega)) F4 N4 X T (hr'.mono (by decide) (by decide)) trivial ?_
  case hcs0 =>
    intro i c hi
    cases i with
    | zero => exact .inr (.inr ⟨(Option.some.inj (by simpa using hi)).symm, rfl⟩)
    | succ i => exact .inl (hcs c (List.mem_of_getElem? (by simpa using hi)))
  rintro v h5 tk5 e5 F5 N5 ⟨D, vs, c, rfl, hD0, hD1, hps⟩
  have N6 := News.add F4 N5 hD0 hD1
  clear N5
  walk_at "m go2"
  walk1
  walk_at "m go2"
  rename Fr _ _ _ _ => F7
  rename News _ _ _ _ => N7
  have hmap : (42 :: cs).map partOf = none :: cs.map some := by
    rw [List.map_cons]
    congr 1
    refine List.map_congr_left ?_
    intro c hc
    have := hcs c hc
    unfold Sgn at this
    rw [partOf, if_neg (by omega), if_neg (by omega)]
  rw [hmap] at hps
  refine call_fn (joined_star S D vs c cs (by omega) h1 hps) F7 N7 X T (hr'.mono (by decide) (by decide)) (N7.get (.head _)) ?_
  rintro v h8 tk8 e8 F8 N8 ⟨t8, rfl⟩
  walk_at "m go2"
  walk_at "m hd"
  exact hR _ _ _ F8.keep ⟨_, rfl⟩
set_option maxRecDepth 100000 in
set_option maxHeartbeats 4000000 in
theorem translate_plain (cs : List Nat) (t : Tok) (hcs : ∀ c ∈ cs, Sgn c ∨ c = 63) (hl : cs.length ≤ 20) : Fn w mean mg mb 57 50 300 [.str (mkS cs) t] (fun _ => True) (fun _ v _ => ∃ t, v = .str (mkS ([40, 63, 115, 58] ++ cs.map qm ++ [41, 92, 90])) t) := by
  rintro dp un fr gd s R hr G - hR
  refine' enter (d := 49) (u := 297) (binds := [(Str.ofString "pat", .str (mkS cs) t)]) hr G ?ho ?hcd ?hb ?hl ?hc ?_ ?c1 ?c2 ?c3
  walk_at "m enter"
  intro L h₁ hr' F N X T
  refine wp_in (by passes_own) hr' ?_
  clear hr'
  intro dp un fr gd Q₀ E₀ hr' hE₀ hQ₀
  walk_at "m ec"
  walk_at "m go2"
  rename Fr _ _ _ _ => F2
  rename News _ _ _ _ => N2
  refine call_object F2 N2 ?_
  intro S h2 F3 N3
  walk_at "m go2"
  walk1
  walk_at "m go2"
  rename Fr _ _ _ _ => F4
  rename News _ _ _ _ => N4
  refine call_fn (translate0_spec cs S _ _ ?hcs0 hl) F4 N4 X T (hr'.mono (by decide) (by decide)) trivial ?_
  case hcs0 =>
    intro i c hi
    rcases hcs c (List.mem_of_getElem? hi) with h | h
    · exact .inl h
    · exact .inr (.inl h)
  rintro v h5 tk5 e5 F5 N5 ⟨D, vs, c, rfl, hD0, hD1, hps⟩
  have N6 := News.add F4 N5 hD0 hD1
  clear N5
  walk_at "m go2"
  walk1
  walk_at "m go2"
  rename Fr _ _ _ _ => F7
  rename News _ _ _ _ => N7
  have hmap : cs.map partOf = (cs.map qm).map some := by
    rw [List.map_map]
    refine List.map_congr_left ?_
    intro c hc
    have := hcs c hc
    unfold Sgn at this
    show partOf c = some (qm c)
    unfold partOf qm
    rw [if_neg (by omega)]
    split <;> rfl
  rw [hmap] at hps
  refine call_fn (joined_plain S D vs c (cs.map qm) (by simpa using hl) hps) F7 N7 X T (hr'.mono (by decide) (by decide)) (N7.get (.head _)) ?_
  rintro v h8 tk8 e8 F8 N8 ⟨t8, rfl⟩
  walk_at "m go2"
  walk_at "m hd"
  exact hR _ _ _ F8.keep ⟨_, rfl⟩
end
end
section
section
variable {w : World} {mean : ExcName → Option Value} {mg mb : Str → Option Value}
theorem enterC {A : Around} {R : Result → Shared → Prop} {s : Shared} {d u : Nat} {name qual : Str} {params : Arguments} {body : List Stmt} {scope : Scope} {dV kV doc pm cdv ct oc : Value} {an od : Option Addr} {osl : Array (Option Value)} {f : Addr} {args : Args} {binds : List (Str × Value)}
    (hr : Room A (d + 1) (u + 3)) (G : Gd w mean mg mb s.heap)
    (ho : (Mine.h0.heap_1 w.params).lookup f = some ⟨oc, od, .func (fnOf name qual params body scope dV kV doc pm an cdv ct), osl⟩) (hcd : codeIn (Mine.h0.heap_1 w.params) cdv qual = true)
    (hbind : BindsTo s (fnOf name qual params body scope dV kV doc pm an cdv ct) args binds) (hkind : (binds.all fun y => scope.names.lookup y.1 == some .local || scope.names.lookup y.1 == some .cell) = true)
    (hnd : ((cellsFrom 0 scope.names []).map (·.1)).Nodup)
    (h : ∀ L h₁ tk cells, Room (A.deeper (envOfC qual scope L f cdv)) d u → Fr s.heap L h₁ (bindL (envOfC qual scope L f cdv).kindOf binds fun _ => none) → News s.heap L h₁ cells →
      CellsAre (bindC (envOfC qual scope L f cdv).kindOf binds fun _ => none) (cellsFrom (L + 1) scope.names []) cells → (Mine.h0.heap_1 w.params).In s.heap → TopAt mean mg mb s.heap →
      wpAny (model prog w) (A.deeper (envOfC qual scope L f cdv)) (execs body (envOfC qual scope L f cdv))
        (fun fl s' => R (.ok (.ret (match fl with | .ret v => v | _ => .none))) s')
        (fun e s' => wpAny (model prog w) (A.deeper (envOfC qual scope L f cdv)) (leaving (envOfC qual scope L f cdv) e) (fun _ s'' => R (.error e) s'') (fun e' s'' => R (.error e') s'') s')
        { s with heap := h₁, toks := tk })
    (hco : scope.isCoroutine = false := by rfl) (hgen : scope.isGenerator = false := by rfl) (hk : scope.kind = .function := by rfl) :
    codeAny (model prog w) A (.call (.ref f) args) R s := by
  refine codeAny_call_function (fd := fnOf name qual params body scope dV kV doc pm an cdv ct) (by have := hr.depth; omega) (G.k _ _ ho) rfl hco hgen rfl (codeRec_of G.k hcd) (hbind _ _ _ _ ?_)
  refine wpAny_newFunctionEnv_cells hk (kindsX hkind _) fun env' he s' x => ?_
  subst he
  refine ⟨G.top.nolimit.keeps x.toInCall.keep, codeAny_func ?_⟩
  obtain ⟨h₁, tk, rfl, _⟩ := x.done
  obtain ⟨cells, NC, Y⟩ := Cl.news (h₀ := s.heap) (Nat.le_refl _) fun n c hm => ⟨x.cell n c (lookup_of_mem_nodup (cellsFrom_names scope.names 0 (s.heap.objs.size + 1) [] [] rfl ▸ hnd) hm), x.above n c hm⟩
  exact h _ h₁ tk cells (hr.deeper _) ⟨x.toInCall.ns, x.toInCall.keep, Nat.le_refl _⟩ NC Y G.k G.top
end
end
section
section
open PySem.Builtin PySem.Builtin.Str
theorem slice_last {prog : Program} {w : World} {A : Around} {E : Value → Shared → Prop} {h₀ : Heap} {L l : Addr} {m : Str → Option Value} {news : List (Addr × Obj)} {value slice : PySem.Expr} {vs : List Value} {ns : List Int} {Q : Value → Shared → Prop} {h : Heap} {g : Array GenState} {d : Drawn} {tk : Nat} {os : OsState} {tt : Tok}
    (F : Fr h₀ L h m) (N : News h₀ L h news) (hl : h.IsList l vs.toArray) (hv : IntsAre vs ns) (hz : vs.length ≤ 1000)
    (k : ∀ D ws h', Fr h₀ L h' m → News h₀ L h' ((D, lst ws) :: news) → IntsAre ws (ns.drop (ns.length - 1)) → Q (.ref D) ⟨h', g, d, tk, os⟩)
    (hs : subscripted slice false (.ref l) (.ref h.objs.size) = operate [.ref h.objs.size, .ref l] (getItem (.ref l) (.ref h.objs.size))) (ht : ∀ r, letTemporaryGo value (.ref l) r = pure ()) :
    wpAny (model prog w) A (subscriptTail value slice (.ref l) (.ref h.objs.size)) Q E ⟨h.push { cls := .type "slice", data := .fields #[.int (-1) tt, .none, .none] }, g, d, tk, os⟩ :=
  kmk_slice_ints (s := ⟨h, g, d, tk, os⟩) (lo := some (-1)) (hi := none) F N hl (by kmk_part) (by kmk_part) hv (kmk_from_neg (x := -1) hv (by decide)) rfl (fun D ws h' F' N' _ hw _ _ => k D ws h' F' N' hw) hs ht (by rw [List.size_toArray, sizeLine_eq]; omega)
theorem last_eq (sp : List Nat) (n : Nat) : decide ((sp.map Int.ofNat).drop ((sp.map Int.ofNat).length - 1) = [(n : Int)]) = decide (sp.getLast? = some n) := by
  rcases List.eq_nil_or_concat sp with rfl | ⟨r, z, e⟩
  · simp
  · rw [List.concat_eq_append] at e; subst e
    apply decide_eq_decide.mpr
    simp
    omega
theorem slice_mk {x : Str} {i j : Int} (h0 : 0 ≤ i) (h1 : i ≤ j) (h2 : j ≤ x.length) : Txt.slice x (some i) (some j) = ⟨((x.cps.toList.drop i.toNat).take (j - i).toNat).toArray⟩ := eq_of_beq (slice_closesL h0 h1 h2)
theorem slice_body (a b c : List Nat) (hc : 0 < c.length) : Txt.slice (mkS (a ++ b ++ c)) (some (a.length : Int)) (some (-(c.length : Int))) = mkS b := by
  have h : Txt.slice (mkS (a ++ b ++ c)) (some (a.length : Int)) (some (-(c.length : Int))) = Txt.slice (mkS (a ++ b ++ c)) (some (a.length : Int)) (some (-(c.length : Int) + ((mkS (a ++ b ++ c)).length : Nat))) := by
    unfold Txt.slice
    rw [StrLaws.sliceIdx_neg_hi _ _ (by omega) (by rw [mkS_len]; simp; omega)]
  have e : (-(c.length : Int) + ((mkS (a ++ b ++ c)).length : Nat)) = ((a.length + b.length : Nat) : Int) := by rw [mkS_len]; simp; omega
  rw [h, e, slice_mk (by omega) (by omega) (by rw [mkS_len]; simp; omega)]
  have e1 : ((a.length : Nat) : Int).toNat = a.length := by omega
  have e2 : (((a.length + b.length : Nat) : Int) - (a.length : Int)).toNat = b.length := by omega
  rw [e1, e2]
  simp [mkS]
theorem slice_two {b : List Nat} {j : Nat} (hj : j ≤ b.length) : Txt.slice (mkS b) (some (j : Int)) (some ((j : Int) + 2)) = mkS ((b.drop j).take 2) := by
  rcases Nat.lt_or_ge b.length (j + 2) with h | h
  · have e : strSliceIndices (some (j : Int)) (some ((j : Int) + 2)) 1 (mkS b).length = strSliceIndices (some (j : Int)) (some ((mkS b).length : Int)) 1 (mkS b).length := by
      rw [mkS_len]
      unfold strSliceIndices
      simp only [show (1 : Int) > 0 by decide, if_true]
      have a1 : ¬ ((j : Int) + 2 < 0) := by omega
      have a2 : ¬ ((b.length : Int) < 0) := by omega
      simp [a1, a2]
      rw [show max (0 : Int) (min ((j : Int) + 2) (b.length : Int)) = (b.length : Int) by omega]
    have e2 : Txt.slice (mkS b) (some (j : Int)) (some ((j : Int) + 2)) = Txt.slice (mkS b) (some (j : Int)) (some ((mkS b).length : Int)) := by
      unfold Txt.slice; rw [e]
    rw [e2, slice_mk (by omega) (by rw [mkS_len]; omega) (by omega), mkS_len]
    have e1 : ((j : Nat) : Int).toNat = j := by omega
    have e3 : ((b.length : Int) - (j : Int)).toNat = b.length - j := by omega
    rw [e1, e3]
    simp only [mkS, List.toList_toArray]
    congr 2
    rw [List.take_of_length_le (by simp), List.take_of_length_le (by simp; omega)]
  · rw [slice_mk (by omega) (by omega) (by rw [mkS_len]; omega)]
    have e1 : ((j : Nat) : Int).toNat = j := by omega
    have e3 : ((j : Int) + 2 - (j : Int)).toNat = 2 := by omega
    rw [e1, e3]
def keepS (nm : List Nat) (b p : Nat) : Bool := decide (p < nm.length) && (b == 46 || nm[p]? == some b)
def stepS (nm : List Nat) (b : Nat) (sp : List Nat) : List Nat := (sp.filter (keepS nm b)).map (· + 1)
def walkS (nm : List Nat) : List Nat → List Nat → List Nat
  | [], sp => sp
  | b :: r, sp => walkS nm r (stepS nm b sp)
theorem walkS_nil (nm : List Nat) : ∀ l, walkS nm l [] = []
  | [] => rfl
  | b :: r => walkS_nil nm r
theorem ints_item {vs : List Value} {ns : List Int} (h : IntsAre vs ns) : ∀ (i : Nat) (v : Value), vs[i]? = some v → ∃ n t, v = .int n t ∧ ns[i]? = some n := by
  induction h with
  | nil => intro i v e; simp at e
  | cons n t _ ih =>
    intro i v e
    cases i with
    | zero => simp at e; subst e; exact ⟨n, t, rfl, rfl⟩
    | succ i => simpa using ih i v (by simpa using e)
theorem item_nat {vs : List Value} {sp : List Nat} (h : IntsAre vs (sp.map Int.ofNat)) {i : Nat} {v : Value} (e : vs[i]? = some v) : ∃ (p : Nat) (t : Tok), v = .int (p : Int) t ∧ sp[i]? = some p := by
  obtain ⟨n, t, rfl, hn⟩ := ints_item h i v e
  rw [List.getElem?_map] at hn
  cases q : sp[i]? with
  | none => rw [q] at hn; cases hn
  | some p => rw [q] at hn; exact ⟨p, t, by rw [← Option.some.inj hn]; rfl, rfl⟩
theorem step_ints (nm : List Nat) (b : Nat) : ∀ {vs : List Value} {sp : List Nat} {ys : List Value}, IntsAre vs (sp.map Int.ofNat) → Paired (fun v y => ∃ p t t', v = .int p t ∧ y = .int (p + 1) t') (vs.filter (fun v => match v with | .int p _ => keepS nm b p.toNat | _ => false)) ys → IntsAre ys ((stepS nm b sp).map Int.ofNat) := by
  intro vs sp
  induction sp generalizing vs with
  | nil =>
    intro ys h hp
    cases h
    cases hp
    exact .nil
  | cons p r ih =>
    intro ys h hp
    cases h with
    | cons _ t hr =>
    have hk : ((fun v => match v with | Value.int p _ => keepS nm b p.toNat | _ => false) (Value.int (Int.ofNat p) t)) = keepS nm b p := rfl
    cases hkk : keepS nm b p with
    | false =>
      rw [List.filter_cons_of_neg (by show ¬ keepS nm b p = true; rw [hkk]; simp)] at hp
      have := ih hr hp
      unfold stepS at this ⊢
      rw [List.filter_cons_of_neg (by rw [hkk]; simp)]
      exact this
    | true =>
      rw [List.filter_cons_of_pos (by show keepS nm b p = true; exact hkk)] at hp
      cases hp with
      | cons hF hr' =>
        obtain ⟨p', t1, t', e1, rfl⟩ := hF
        have := ih hr hr'
        unfold stepS at this ⊢
        rw [List.filter_cons_of_pos (by rw [hkk])]
        cases e1
        exact .cons _ _ this
theorem range_ints {ys : List Value} {n : Nat} (h : IntsAre ys (rangeInts 0 1 ((n : Int) + 1 - 0).toNat)) : IntsAre ys ((List.range (n + 1)).map Int.ofNat) := by
  have e : rangeInts 0 1 ((n : Int) + 1 - 0).toNat = (List.range (n + 1)).map Int.ofNat := by
    unfold rangeInts
    rw [show ((n : Int) + 1 - 0).toNat = n + 1 by omega]
    apply List.map_congr_left
    intro a _
    simp
  rw [← e]; exact h
theorem step_len (nm : List Nat) (b : Nat) (sp : List Nat) : (stepS nm b sp).length ≤ sp.length := by
  unfold stepS
  rw [List.length_map]
  exact List.length_filter_le _ _
theorem step_le (nm : List Nat) (b : Nat) (sp : List Nat) : ∀ p ∈ stepS nm b sp, p ≤ nm.length := by
  intro p hp
  obtain ⟨q, hq, rfl⟩ := List.mem_map.mp hp
  have := (List.mem_filter.mp hq).2
  unfold keepS at this
  rw [Bool.and_eq_true, decide_eq_true_eq] at this
  omega
theorem walkS_drop (nm body : List Nat) (j c : Nat) (sp : List Nat) (h : body[j]? = some c) : walkS nm (body.drop j) sp = walkS nm (body.drop (j + 1)) (stepS nm c sp) := by
  have hlt := (List.getElem?_eq_some_iff.mp h)
  obtain ⟨hl, hc⟩ := hlt
  rw [List.drop_eq_getElem_cons hl, hc]; rfl
end
section
variable {w : World} {mean : ExcName → Option Value} {mg mb : Str → Option Value}
/-- what holds ahead of a turn -/
inductive J17 (L : Addr) (st : Bool) (body nm cs : List Nat) (k : Nat) (m : Str → Option Value) (news : List (Addr × Obj)) : Prop
  | mk (SP : Addr) (vs : List Value) (c : Nat) (ok : Obj) (ob : Obj) (on : Obj) (sp : List Nat) (j : Nat) (tk : Tok) (tb : Tok) (tn : Tok) (tr : Tok) (_ : news = [(SP, lst vs c), (L + 1 + 1 + 1, ok), (L + 1 + 1, ob), (L + 1, on)]) (_ : SP ≠ L + 1 + 1 + 1) (_ : SP ≠ L + 1 + 1) (_ : SP ≠ L + 1) (_ : ok.data = .cell (some (.int (j : Int) tk))) (_ : ob.data = .cell (some (.str (mkS body) tb))) (_ : on.data = .cell (some (.str (mkS nm) tn))) (_ : m (Str.ofString "spots") = some (.ref SP)) (_ : m (Str.ofString "rule") = some (.str (mkS ([40, 63, 115, 58] ++ body ++ [41, 92, 90])) tr)) (_ : IntsAre vs (sp.map Int.ofNat)) (_ : sp.length ≤ 30) (_ : (∀ p ∈ sp, p ≤ nm.length)) (_ : j ≤ body.length) (_ : ((st = true ∧ j = 0 ∧ sp = [0]) ∨ (¬ (st = true ∧ j = 0) ∧ (st = true → 2 ≤ j) ∧ walkS nm (body.drop j) sp = walkS nm cs (if st = true then List.range (nm.length + 1) else [0])))) (_ : k = body.length - j)
set_option maxRecDepth 100000 in
set_option maxHeartbeats 4000000 in
theorem takes_spec (st : Bool) (cs body nm : List Nat) (t t2 : Tok) (hbody : body = if st = true then 46 :: 42 :: cs else cs) (hcs : 42 ∉ cs) (hb : body.length ≤ 20) (hn : nm.length ≤ 20) : Fn w mean mg mb 232 40 200 [.str (mkS ([40, 63, 115, 58] ++ body ++ [41, 92, 90])) t, .str (mkS nm) t2] (fun _ => True) (fun _ v _ => v = .bool (decide ((walkS nm cs (if st = true then List.range (nm.length + 1) else [0])).getLast? = some nm.length))) := by
  rintro dp un fr gd s R hr G - hR
  refine' enterC (d := 39) (u := 197) (binds := [(Str.ofString "rule", .str (mkS ([40, 63, 115, 58] ++ body ++ [41, 92, 90])) t), (Str.ofString "name", .str (mkS nm) t2)]) hr G ?ho ?hcd ?hb ?hl ?hc ?_ ?c1 ?c2 ?c3
  (case ho => k_dflt k_is)
  (case hcd => k_dflt k_is)
  (case hb => exact BindsTo.of_eq rfl)
  (case hl => rfl)
  (case hc => decide)
  (case c1 => rfl)
  (case c2 => rfl)
  (case c3 => rfl)
  intro L h₁ tk cells hr' F N Y X T
  refine wp_in (by passes_own) hr' ?_
  clear hr'
  intro dp un fr gd Q₀ E₀ hr' hE₀ hQ₀
  k_cells Y
  have hsz : (mkS ([40, 63, 115, 58] ++ body ++ [41, 92, 90])).length ≤ 1000 := by rw [mkS_len]; simp; omega
  have hsl : Txt.slice (mkS ([40, 63, 115, 58] ++ body ++ [41, 92, 90])) (some 4) (some (-3)) = mkS body := slice_body [40, 63, 115, 58] body [41, 92, 90] (by decide)
  have hstar : ∀ j, j ≤ body.length → ¬ (st = true ∧ j = 0) → (st = true → 2 ≤ j) → (Txt.slice (mkS body) (some (j : Int)) (some ((j : Int) + 2)) == Str.ofString ".*") = false := by
    intro j hj h1 h2
    rw [slice_two hj, show Str.ofString ".*" = mkS [46, 42] by decide +kernel]
    apply beq_eq_false_iff_ne.mpr
    intro q
    have q := mkS_inj q
    have hm : 42 ∈ (body.drop j).take 2 := by rw [q]; decide
    have hm := List.mem_of_mem_take hm
    apply hcs
    cases st with
    | false => rw [hbody] at hm; exact List.mem_of_mem_drop hm
    | true =>
      obtain ⟨j', rfl⟩ : ∃ j', j = j' + 2 := ⟨j - 2, by have := h2 rfl; omega⟩
      rw [hbody] at hm
      exact List.mem_of_mem_drop (by simpa using hm)
  have hz1 : (Str.ofString "(?s:").length + (mkS body).length ≤ sizeLine := by rw [show (Str.ofString "(?s:").length = 4 by decide +kernel, mkS_len, sizeLine_eq]; omega
  have hz2 : (Str.ofString "(?s:" ++ mkS body).length + (Str.ofString ")\\Z").length ≤ sizeLine := by rw [PySem.Str.length_append, show (Str.ofString "(?s:").length = 4 by decide +kernel, show (Str.ofString ")\\Z").length = 3 by decide +kernel, mkS_len, sizeLine_eq]; omega
  have hEq : (mkS ([40, 63, 115, 58] ++ body ++ [41, 92, 90]) == Str.ofString "(?s:" ++ mkS body ++ Str.ofString ")\\Z") = true := by
    rw [show Str.ofString "(?s:" = mkS [40, 63, 115, 58] by decide +kernel, show Str.ofString ")\\Z" = mkS [41, 92, 90] by decide +kernel, mkS_append, mkS_append]
    exact beq_self_eq_true _
  walk_at "m ec"
  walk_at "m go2"
  rw [hsl] at *
  rename _ = Data.cell (some (Value.int _ _)) => hdk
  rename _ = Data.cell (some (Value.str _ _)) => hdb
  rename _ = Data.cell (bindC _ _ _ _) => hdn
  clear hsl
  rename Fr _ _ _ _ => F1
  rename News _ _ _ _ => N1
  rename _ ∧ _ => hlt
  refine' While_inv (J17 L st body nm cs) ?F ?N ?hJ ?turn ?hE
  case F => exact F1
  case N => exact N1
  case hJ =>
    refine ⟨_, _, _, _, _, _, [0], 0, _, _, _, _, rfl, Ne.symm (Nat.ne_of_lt hlt.1), Ne.symm (Nat.ne_of_lt hlt.2.1), Ne.symm (Nat.ne_of_lt hlt.2.2), hdk, hdb, hdn, rfl, rfl, .cons _ _ .nil, by simp, by simp, Nat.zero_le _, ?_, rfl⟩
    cases st with
    | true => exact .inl ⟨rfl, rfl, rfl⟩
    | false =>
      refine .inr ⟨by simp, by simp, ?_⟩
      rw [hbody]; rfl
  case hE => first | assumption | passes_own
  case turn =>
    rintro k m₁ news₁ h tk F4 N4 ⟨SP, vs, c, ok, ob, on, sp, j, tk0, tb, tn, tr, rfl, d1, d2, d3, hk, hob, hon, h1, h2, hvs, hspl, hspb, hj, hcase, rfl⟩
    clear F1 N1
    walk_at "m go2"
    refine PyProof.Rows.len_str (by rw [mkS_len]; omega) ?_
    rw [mkS_len]
    rcases Nat.lt_or_ge j body.length with hlt | hge
    · have b1 : (j : Int) < (body.length : Int) := by omega
      walk_at "m go2"
      rename Fr _ _ _ _ => F5
      rename News _ _ _ _ => N5
      refine ke_ne_ints (ns := sp.map Int.ofNat) (ms := []) (isList_of (N5.get (by k_mem))) (isList_of (N5.get (by k_mem))) hvs .nil (hr'.mono (Nat.le_refl 39) (show 64 ≤ 197 by decide)).units ?_
      cases sp with
      | nil =>
        rw [decide_eq_true (by rfl)]
        walk_at "m go2"
        rename Fr _ _ _ _ => F5
        rename News _ _ _ _ => N5
        refine' slice_last F5 N5 (isList_of (N5.get (.tail _ (.head _)))) hvs ?zA ?_ ?sA ?tA
        (case zA => have := hvs.length; rw [List.length_map] at this; omega)
        (case sA => with_unfolding_all rfl)
        (case tA => kmk_pure)
        intro D9 ws9 h9 F9 N9 hws9
        walk_at "m go2"
        refine PyProof.Rows.len_str (by rw [mkS_len]; omega) ?_
        rw [mkS_len]
        walk_at "m go2"
        rename Fr _ _ _ _ => F10
        rename News _ _ _ _ => N10
        refine ke_eq_ints (isList_of (N10.get (.tail _ (.head _)))) (isList_of (vs := [_]) (N10.get (.head _))) hws9 (.cons _ _ .nil) (hr'.mono (Nat.le_refl 39) (show 64 ≤ 197 by decide)).units ?_
        walk_at "m hd"
        refine hR _ _ _ F10.keep ?_
        have hres : walkS nm cs (if st = true then List.range (nm.length + 1) else [0]) = [] := by
          rcases hcase with ⟨_, _, h⟩ | ⟨_, _, h⟩
          · cases h
          · rw [← h, walkS_nil]
        show Value.bool _ = Value.bool _
        rw [hres, ← last_eq]
      | cons p0 sp' =>
        rw [decide_eq_false (by simp)]
        rcases hcase with ⟨rfl, rfl, hsp⟩ | ⟨hc1, hc2, hc3⟩
        · have hst0 : (Txt.slice (mkS body) (some ((0 : Nat) : Int)) (some (((0 : Nat) : Int) + 2)) == Str.ofString ".*") = true := by
            rw [slice_two (Nat.zero_le _), hbody]; show (mkS [46, 42] == _) = true; decide +kernel
          walk_at "m go2"
          rename Fr _ _ _ _ => F6
          rename News _ _ _ _ => N6
          rw [hsp] at hvs
          obtain ⟨tz, hvz⟩ := hvs.get 0 0 (by simp)
          refine item_listL (isList_of (vs := vs) (N6.get (.tail _ (.head _)))) (by omega) (by omega) hvz ?_
          walk_at "m go2"
          refine PyProof.Rows.len_str (by rw [mkS_len]; omega) ?_
          rw [mkS_len]
          walk_at "m go2"
          rename IsRange _ _ _ _ _ _ _ _ => hrg
          rename Fr _ _ _ _ => F6
          rename News _ _ _ _ => N6
          have g1 := N6.get (.tail _ (.tail _ (.head _)))
          have g2 := N6.get (.tail _ (.tail _ (.tail _ (.head _))))
          have g3 := N6.get (.tail _ (.tail _ (.tail _ (.tail _ (.head _)))))
          refine list_range_K hr'.handled F6 N6 hrg (by omega) (by omega) (by omega) (by omega) ?_
          intro D h7 tk7 ys cD F7 N7 e7 hDn hys
          have d4 : D ≠ L + 1 + 1 + 1 := by rintro rfl; rw [hDn] at g1; cases g1
          have d5 : D ≠ L + 1 + 1 := by rintro rfl; rw [hDn] at g2; cases g2
          have d6 : D ≠ L + 1 := by rintro rfl; rw [hDn] at g3; cases g3
          walk_at "m go2"
          rename Fr _ _ _ _ => F8
          rename News _ _ _ _ => N8
          rename _ = Data.cell (some (Value.int _ _)) => hk8
          have hb2 : 2 ≤ body.length := by rw [hbody]; simp
          refine WhileStep.intro (n' := body.length - 2) F8 (News.sub N8 ?_) (by omega) ⟨D, ys, cD, _, ob, on, List.range (nm.length + 1), 2, _, tb, tn, tr, rfl, d4, d5, d6, hk8, hob, hon, rfl, h2, ?_, by simp; omega, ?_, by omega, .inr ⟨by simp, by simp, ?_⟩, rfl⟩
          · (try dsimp only [List.cons_append, List.nil_append]); walk_at "m sb"
          · exact range_ints hys
          · intro p hp; have := List.mem_range.mp hp; omega
          · rw [hbody]; rfl
        · have hst0 := hstar j hj hc1 hc2
          have hl0 : (mkS body).length = body.length := mkS_len body
          have b2 : (j : Int) < ((mkS body).length : Int) := by rw [hl0]; omega
          have b3 : -((mkS body).length : Int) ≤ (j : Int) := by omega
          obtain ⟨cj, hcj⟩ : ∃ cj, body[j]? = some cj := ⟨_, List.getElem?_eq_getElem hlt⟩
          walk_at "m go2"
          refine' comp_vals_assign ?w1 ?w2 ?w3 ?w4 ?w5 ?w6 ?w7 ?w8 ?_ ?w9
          case w1 => rfl
          case w2 => rfl
          case w3 => decide
          case w4 => rfl
          case w5 => decide
          case w6 => rfl
          case w7 => rfl
          case w8 => rfl
          case w9 => intro _; rfl
          walk_at "m go2"
          rename Fr _ _ _ _ => F6
          rename News _ _ _ _ => N6
          have g1 := N6.get (.tail _ (.tail _ (.head _)))
          have g2 := N6.get (.tail _ (.tail _ (.tail _ (.head _))))
          have g3 := N6.get (.tail _ (.tail _ (.tail _ (.tail _ (.head _)))))
          refine' CompAtA.mk (fun v => match v with | .int p _ => keepS nm cj p.toNat | _ => false) (fun v y => ∃ p t t', v = .int p t ∧ y = .int (p + 1) t') rfl F6 N6 (Iter.list hr'.handled (isList_of (vs := vs) (N6.get (.tail _ (.head _)))) (N6 _ (.tail _ (.head _))).2.1 F6.ns.lt) ?sz ?tests ?helt ?fin
          case sz => have := hvs.length; rw [List.length_map] at this; rw [sizeLine_eq]; omega
          case tests =>
            rintro C i v s₃ m₃ E' hi F7 hm
            have X3 := X.keeps F6.keep
            have T3 := T.keeps F6.keep
            obtain ⟨p, tp, rfl, hp⟩ := item_nat hvs hi
            refine tests_one ?_
            walk_at "m go2"
            refine PyProof.Rows.len_str (by rw [mkS_len]; omega) ?_
            rw [mkS_len]
            rcases Nat.lt_or_ge p nm.length with hpl | hpl
            · have c1 : (p : Int) < (nm.length : Int) := by omega
              have hl1 : (mkS nm).length = nm.length := mkS_len nm
              have c2 : (p : Int) < ((mkS nm).length : Int) := by rw [hl1]; omega
              have c3 : -((mkS nm).length : Int) ≤ (p : Int) := by omega
              walk_at "m go2"
              refine wpAny_newTuple ?_ (by rw [sizeLine_eq]; exact (by decide : 2 ≤ 16777216))
              refine in_tuple_strs (ys := [Str.ofString ".", Txt.item (mkS nm) (p : Int)]) ⟨_, Heap.get?_push_size _ rfl, rfl, _, rfl⟩ (.cons _ _ (.cons _ _ .nil)) ?_
              obtain ⟨cp, hcp⟩ : ∃ cp, nm[p]? = some cp := ⟨_, List.getElem?_eq_getElem hpl⟩
              have hany : ([Str.ofString ".", Txt.item (mkS nm) (p : Int)].any fun x => x == Txt.item (mkS body) (j : Int)) = keepS nm cj p := by
                rw [item_mkS hcp, item_mkS hcj]
                show ((Str.ofString "." == mkS [cj]) || ((mkS [cp] == mkS [cj]) || false)) = _
                rw [show Str.ofString "." = mkS [46] by decide +kernel, one_eq rfl, one_eq rfl]
                unfold keepS
                rw [decide_eq_true hpl, hcp, Bool.or_false, Bool.true_and]
                by_cases e1 : cj = 46
                · subst e1; simp
                · have e2 : ¬ 46 = cj := fun h => e1 h.symm
                  by_cases e3 : cp = cj
                  · subst e3; simp
                  · simp [e1, e2, e3]
              rw [hany]
              cases hkk : keepS nm cj p with
              | true =>
                walk_at "m go2"
                exact ⟨by rw [Int.toNat_natCast, hkk], keeps_of (Ext.push _ _)⟩
              | false =>
                walk_at "m go2"
                exact ⟨by rw [Int.toNat_natCast, hkk], keeps_of (Ext.push _ _)⟩
            · have c1 : ¬ (p : Int) < (nm.length : Int) := by omega
              walk_at "m go2"
              refine ⟨?_, keeps_tok _ _⟩
              show false = keepS nm cj ((p : Int).toNat)
              unfold keepS
              rw [decide_eq_false (by omega)]; rfl
          case helt =>
            rintro C i v s₃ m₃ E' hi - F7 hm
            have X3 := X.keeps F6.keep
            have T3 := T.keeps F6.keep
            obtain ⟨p, tp, rfl, hp⟩ := item_nat hvs hi
            walk_at "m go2"
            exact ⟨⟨_, _, _, rfl, rfl⟩, keeps_tok _ _⟩
          case fin =>
            rintro D ys cD vs' h8 tk8 F8 N8 hDn hlen8 hP8 hF8
            walk_at "m go2"
            rename Fr _ _ _ _ => F9
            rename News _ _ _ _ => N9
            rename _ = Data.cell (some (Value.int _ _)) => hk8
            have d4 : D ≠ L + 1 + 1 + 1 := by rintro rfl; rw [hDn] at g1; cases g1
            have d5 : D ≠ L + 1 + 1 := by rintro rfl; rw [hDn] at g2; cases g2
            have d6 : D ≠ L + 1 := by rintro rfl; rw [hDn] at g3; cases g3
            refine WhileStep.intro (n' := body.length - (j + 1)) F9 (News.sub N9 ?_) (by omega) ⟨D, ys, cD, _, ob, on, stepS nm cj (p0 :: sp'), j + 1, _, tb, tn, tr, rfl, d4, d5, d6, hk8, hob, hon, rfl, h2, ?_, ?_, ?_, by omega, .inr ⟨by rintro ⟨_, h⟩; omega, fun h => Nat.le_succ_of_le (hc2 h), ?_⟩, rfl⟩
            · (try dsimp only [List.cons_append, List.nil_append]); walk_at "m sb"
            · have hvv : vs' = vs := list_of_idx hlen8 hP8
              subst hvv
              exact step_ints nm cj hvs hF8
            · exact Nat.le_trans (step_len _ _ _) hspl
            · exact step_le _ _ _
            · rw [← walkS_drop nm body j cj _ hcj]; exact hc3
    · have b1 : ¬ (j : Int) < (body.length : Int) := by omega
      walk_at "m go2"
      rename Fr _ _ _ _ => F5
      rename News _ _ _ _ => N5
      refine' slice_last F5 N5 (isList_of (N5.get (.head _))) hvs ?zB ?_ ?sB ?tB
      (case zB => have := hvs.length; rw [List.length_map] at this; omega)
      (case sB => with_unfolding_all rfl)
      (case tB => kmk_pure)
      intro D9 ws9 h9 F9 N9 hws9
      walk_at "m go2"
      refine PyProof.Rows.len_str (by rw [mkS_len]; omega) ?_
      rw [mkS_len]
      walk_at "m go2"
      rename Fr _ _ _ _ => F10
      rename News _ _ _ _ => N10
      refine ke_eq_ints (isList_of (N10.get (.tail _ (.head _)))) (isList_of (vs := [_]) (N10.get (.head _))) hws9 (.cons _ _ .nil) (hr'.mono (Nat.le_refl 39) (show 64 ≤ 197 by decide)).units ?_
      walk_at "m hd"
      refine hR _ _ _ F10.keep ?_
      have hres : walkS nm cs (if st = true then List.range (nm.length + 1) else [0]) = sp := by
        rcases hcase with ⟨hs, h0, _⟩ | ⟨_, _, h⟩
        · subst h0; rw [hbody, if_pos hs] at hge; simp at hge
        · rw [← h, show j = body.length by omega, List.drop_length]; rfl
      show Value.bool _ = Value.bool _
      rw [hres, ← last_eq]
end
end
section
section
open PySem.Builtin
theorem mp_mro : mroOf (.type "map") = pure [.type "map", .type "object"] := by rw [mroOf_type]; kernel_rfl
theorem mp_lookup_new : typeLookup (.type "map") "__new__" = pure (some (.builtin "map.__new__")) := by rw [typeLookup_type, builtinLookup_eq_fast]; kernel_rfl
theorem mp_slot_init : Slot "map" "__init__" "object.__init__" :=
  .of (owner := "object") (n := "__init__") (by rw [typeLookup_type, builtinLookup_eq_fast]; kernel_rfl) (by decide +kernel) (by decide +kernel) (by decide +kernel)
    (by first | exact .inl (by decide +kernel) | exact .inr (by decide +kernel)) (by rw [isSubtype_type]; kernel_rfl)
theorem mp_called : TypeCalled "map" "map.__new__" "object.__init__" :=
  ⟨by decide +kernel, by decide +kernel, ⟨_, _, mp_mro⟩, madeBy_type mp_mro mp_lookup_new (by decide +kernel), by decide +kernel, by rw [isSubtype_type]; kernel_rfl, mp_slot_init⟩
theorem mp_typeCall (a b : Value) : checkTypeCall "map" ⟨[a, b], []⟩ = pure () := by kernel_rfl
theorem mp_newCall (a b : Value) : checkBuiltinCall "map.__new__" ⟨[.type "map", a, b], []⟩ = pure () := by kernel_rfl
theorem mp_entry : entryFor table "map.__new__" = some Builtin.«map.__new__» := entryFor_of_tree (by kernel_rfl)
theorem mp_slot_next : Slot "map" "__next__" "map.__next__" :=
  .of (owner := "map") (n := "__next__") (by rw [typeLookup_type, builtinLookup_eq_fast]; kernel_rfl) (by decide +kernel) (by decide +kernel) (by decide +kernel)
    (by first | exact .inl (by decide +kernel) | exact .inr (by decide +kernel)) (by rw [isSubtype_type]; kernel_rfl)
theorem mp_entry_next : entryFor table "map.__next__" = some Builtin.«map.__next__» := entryFor_of_tree (by kernel_rfl)
theorem mp_args_next (a : Value) : argsOk "map.__next__" ⟨[a], []⟩ := by unfold argsOk; kernel_rfl
end
section
open PySem.Builtin PySem.Builtin.SmallTypes
variable {prog : Program} {w : World}
abbrev mapObj (T f : Addr) : Obj := { cls := .type "map", data := .fields #[.ref T, .ref f] }
theorem mp_sub : isSubtype (.type "map") (.type "map") = pure true := by rw [isSubtype_type]; kernel_rfl
theorem map_new {A : Around} {E : Value → Shared → Prop} {Q : PySem.Fin → Shared → Prop} {h : Heap} {g : Array GenState} {d : Drawn} {t : Nat} {os : OsState} {f D : Addr} {vs : List Value} {n : Nat} (hx : h.get? D = some (lst vs n))
    (hq : ∀ h', Ext h h' → ∀ I T M, h'.IsListIter I D 0 → h'.get? T = some { cls := .type "tuple", data := .seq #[.ref I] } → h'.get? M = some (mapObj T f) → h.get? I = none → h.get? T = none → h.get? M = none → I ≠ T → Q (.done (.ret (.ref M))) ⟨h', g, d, t, os⟩) :
    wpAny (model prog w) A (Builtin.«map.__new__» ⟨[.type "map", .ref f, .ref D], []⟩) Q E ⟨h, g, d, t, os⟩ := by
  have f1 := mp_sub
  unfold Builtin.«map.__new__»
  have hl : (⟨h, g, d, t, os⟩ : Shared).heap.IsList D vs.toArray := isList_of hx
  refine wpAny_bind ?_
  repeat (any_goals (first | assumption | (with_reducible refine wpAny_pyIter_list hl ?_) | wp_step))
  have hs1 : (h.push { cls := .type "list_iterator", data := .fields #[.ref D, .int 0 0] }).objs.size = h.objs.size + 1 := Heap.size_push _ _
  refine hq _ (Ext.trans (Ext.push _ _) (Ext.trans (Ext.push _ _) (Ext.push _ _))) h.objs.size _ _ ⟨_, Heap.get?_push_of_some _ (Heap.get?_push_of_some _ (Heap.get?_push_size _ rfl)), rfl, rfl⟩ (Heap.get?_push_of_some _ (Heap.get?_push_size _ rfl)) (Heap.get?_push_size _ rfl) (none_size _) ?_ ?_ ?_
  · cases q : h.get? (h.push { cls := .type "list_iterator", data := .fields #[.ref D, .int 0 0] }).objs.size with
    | none => rfl
    | some o => have := Heap.lt_size q; rw [hs1] at this; exact absurd this (Nat.not_lt.mpr (Nat.le_succ _))
  · generalize hT : ({ cls := Value.type "tuple", data := Data.seq _ } : Obj) = oT
    cases q : h.get? ((h.push { cls := .type "list_iterator", data := .fields #[.ref D, .int 0 0] }).push oT).objs.size with
    | none => first | rfl | exact q
    | some o => have := Heap.lt_size q; rw [Heap.size_push, hs1] at this; exact absurd this (Nat.not_lt.mpr (Nat.le_add_right _ 2))
  · show h.objs.size ≠ (h.push { cls := .type "list_iterator", data := .fields #[.ref D, .int 0 0] }).objs.size
    rw [hs1]; exact Nat.ne_of_lt (Nat.lt_succ_self _)
theorem map_meets (f D : Addr) : Meets (Builtin.«map.__new__» ⟨[.type "map", .ref f, .ref D], []⟩) (fun _ R s => (∃ vs n, s.heap.get? D = some (lst vs n)) ∧ ∀ h', Ext s.heap h' → ∀ I T M, h'.IsListIter I D 0 → h'.get? T = some { cls := .type "tuple", data := .seq #[.ref I] } → h'.get? M = some (mapObj T f) → s.heap.get? I = none → s.heap.get? T = none → s.heap.get? M = none → I ≠ T → R (.ok (.ret (.ref M))) { s with heap := h' }) :=
  .of_wp fun prog w A R s hs => by
    obtain ⟨h, g, d, t, os⟩ := s
    obtain ⟨⟨vs, n, hx⟩, hq⟩ := hs
    refine map_new (vs := vs) (n := n) hx ?_
    intro h' e I T M h1 h2 h3 h4 h5 h6 h7
    exact ⟨_, rfl, hq h' e I T M h1 h2 h3 h4 h5 h6 h7⟩
theorem call_map {A : Around} {E : Value → Shared → Prop} {s : Shared} {Q : Value → Shared → Prop} {f D : Addr} {vs : List Value} {n : Nat} (hx : s.heap.get? D = some (lst vs n))
    (hq : ∀ h', Ext s.heap h' → ∀ I T M, h'.IsListIter I D 0 → h'.get? T = some { cls := .type "tuple", data := .seq #[.ref I] } → h'.get? M = some (mapObj T f) → s.heap.get? I = none → s.heap.get? T = none → s.heap.get? M = none → I ≠ T → Q (.ref M) { s with heap := h' }) :
    wpAny (model prog w) A (call (.type "map") [.ref f, .ref D]) Q E s := by
  refine callType_new mp_called (by decide) (mp_typeCall _ _) (mp_newCall _ _) (fun obj => PySem.F.args_object_init_3 obj _ _) mp_entry (map_meets f D) ?_
  refine ⟨⟨vs, n, hx⟩, ?_⟩
  intro h' e I T M h1 h2 h3 h4 h5 h6 h7
  exact ⟨⟨_, h3, rfl⟩, hq h' e I T M h1 h2 h3 h4 h5 h6 h7⟩
end
end
section
section
open PySem.Builtin PySem.Builtin.SmallTypes
variable {prog : Program} {w : World} {A : Around} {E : Value → Shared → Prop} {s : Shared}
theorem map_item {M T f I D : Addr} {i : Nat} {items : Array Value} {x : Str} {t : Tok} {Q : Option Value → Shared → Prop} (hM : s.heap.get? M = some (mapObj T f)) (hT : s.heap.get? T = some { cls := .type "tuple", data := .seq #[.ref I] })
    (hit : s.heap.IsListIter I D i) (hl : s.heap.IsList D items) (hx : items[i]? = some (.str x t)) (hIM : M ≠ I)
    (hcall : ∀ h' (E' : Value → Shared → Prop), h'.IsListIter I D (i + 1) → Heap.SameBut I s.heap h' → wpAny (model prog w) A.in1 (call (.ref f) [.str x t]) (fun r s' => r = .str x t ∧ Q (some r) s') E' { s with heap := h' }) : wpAny (model prog w) A (pyNext (.ref M)) Q E s := by
  unfold pyNext
  refine wpAny_bind (wpAny_attempt (wpAny_callSpecial?_slot (name := Str.ofString "__next__") (show s.TypeIs (.ref M) "map" from ⟨_, hM, rfl⟩) mp_slot_next
    (wpAny_call_entry mp_slot_next ⟨_, hM, rfl⟩ mp_entry_next ?_ (mp_args_next _))))
  unfold Builtin.«map.__next__»
  refine wpAny_bind (wpAny_of_eq (a := (Value.ref M, [])) (by rfl) ?_)
  dsimp only
  refine wpAny_bind (wpAny_field hM rfl (x := .ref T) rfl ?_)
  refine wpAny_bind (wpAny_seqItems hT rfl ?_)
  dsimp only
  refine wpAny_bind ?_
  rw [← Array.forIn_toList]
  show wpAny _ _ (forIn [Value.ref I] _ _) _ _ _
  rw [List.forIn_cons]
  refine wpAny_bind (wpAny_bind (wpAny_holding (wpAny_nextOf_list_item hit hl hx ?_)))
  intro h' hit' hs'
  refine wpAny_pure ?_
  dsimp only
  rw [List.forIn_nil]
  refine wpAny_pure ?_
  refine wpAny_bind (wpAny_field ((hs'.2 _ hIM).trans hM) rfl (x := .ref f) rfl ?_)
  refine wpAny_bind (wpAny_holding (wpAny_mono (hcall h' _ hit' hs') (fun r s' hr => ?_) (fun _ _ e => e)))
  obtain ⟨rfl, hq⟩ := hr
  show wpAny _ _ ((letGo [Value.str x t] [Value.str x t]) >>= _) _ _ _
  refine wpAny_bind ?_
  show wpAny _ _ ((holding [Value.str x t] point) >>= fun _ => letGo [] [Value.str x t]) _ _ _
  refine wpAny_bind (wpAny_holding (wpAny_point ?_))
  refine wpAny_pure ?_
  exact wpAny_pure ⟨_, rfl, wpAny_pure hq⟩
theorem map_end {M T f I D : Addr} {i : Nat} {items : Array Value} {Q : Option Value → Shared → Prop} (hh : A.handled = none) (hM : s.heap.get? M = some (mapObj T f)) (hT : s.heap.get? T = some { cls := .type "tuple", data := .seq #[.ref I] })
    (hit : s.heap.IsListIter I D i) (hl : s.heap.IsList D items) (hx : items[i]? = none)
    (hQ : ∀ h', Heap.ExtBut I s.heap h' → Q none { s with heap := h' }) : wpAny (model prog w) A (pyNext (.ref M)) Q E s := by
  unfold pyNext
  refine wpAny_bind (wpAny_attempt (wpAny_callSpecial?_slot (name := Str.ofString "__next__") (show s.TypeIs (.ref M) "map" from ⟨_, hM, rfl⟩) mp_slot_next
    (wpAny_call_entry mp_slot_next ⟨_, hM, rfl⟩ mp_entry_next ?_ (mp_args_next _))))
  unfold Builtin.«map.__next__»
  refine wpAny_bind (wpAny_of_eq (a := (Value.ref M, [])) (by rfl) ?_)
  dsimp only
  refine wpAny_bind (wpAny_field hM rfl (x := .ref T) rfl ?_)
  refine wpAny_bind (wpAny_seqItems hT rfl ?_)
  dsimp only
  refine wpAny_bind ?_
  rw [← Array.forIn_toList]
  show wpAny _ _ (forIn [Value.ref I] _ _) _ _ _
  rw [List.forIn_cons]
  refine wpAny_bind (wpAny_bind (wpAny_holding (wpAny_nextOf_list_end (A := A.in1) hh hit hl hx ?_)))
  rintro h' e he ⟨o, ho, hc⟩
  refine wpAny_bind (wpAny_isInstance (T := "StopIteration") (b := true) ⟨o, ho, hc⟩ isSubtype_stop ?_)
  exact wpAny_pure (hQ _ he)
theorem mp_slot_iter : Slot "map" "__iter__" "map.__iter__" :=
  .of (owner := "map") (n := "__iter__") (by rw [typeLookup_type, builtinLookup_eq_fast]; kernel_rfl) (by decide +kernel) (by decide +kernel) (by decide +kernel)
    (by first | exact .inl (by decide +kernel) | exact .inr (by decide +kernel)) (by rw [isSubtype_type]; kernel_rfl)
theorem mp_entry_iter : entryFor table "map.__iter__" = some Builtin.«dict_keyiterator.__iter__» :=
  entryFor_alias (id' := "dict_keyiterator.__iter__") (by kernel_rfl) (by first | rfl | decide +kernel) (by decide +kernel) (by kernel_rfl)
theorem mp_args_iter (a : Value) : argsOk "map.__iter__" ⟨[a], []⟩ := by unfold argsOk; kernel_rfl
theorem map_iter {M T f : Addr} {Q : Value → Shared → Prop} (hM : s.heap.get? M = some (mapObj T f)) (h : Q (.ref M) s) : wpAny (model prog w) A (pyIter (.ref M)) Q E s := by
  have hT : s.TypeIs (.ref M) "map" := ⟨_, hM, rfl⟩
  refine wpAny_pyIter_slot hT mp_slot_iter (wpAny_call_entry mp_slot_iter hT mp_entry_iter ?_ (mp_args_iter _))
  refine wpAny_pure ⟨_, rfl, "map", _, hT, mp_slot_next.lookup, h⟩
end
end
section
section
open PySem.Builtin
variable {prog : Program} {w : World} {A : Around} {E : Value → Shared → Prop} {s : Shared}
theorem mp_no_len : typeLookup (.type "map") "__len__" = pure none := by rw [typeLookup_type, builtinLookup_eq_fast]; kernel_rfl
theorem mp_no_hint : typeLookup (.type "map") "__length_hint__" = pure none := by rw [typeLookup_type, builtinLookup_eq_fast]; kernel_rfl
/-- tuple() of a map -/
theorem collect_map {M T f : Addr} {fp wr : List Addr} {n : Nat} {P : Nat → Value → Prop} {St : Nat → Heap → Prop} {Q : List Value → Shared → Prop} (W : Walks prog w A.in1 M fp wr n P St) (hM : ∀ i h, St i h → h.get? M = some (mapObj T f)) (hst : St 0 s.heap) (hfp : ∀ b ∈ fp, b < s.heap.objs.size) (hI : M ∈ fp) (hn : n ≤ 1000)
    (hQ : ∀ h' tk acc, (∀ b o, b ∉ wr → s.heap.get? b = some o → h'.get? b = some o) → ItemsOf P acc n → Q acc.toList { s with heap := h', toks := tk }) : wpAny (model prog w) A (collect (.ref M)) Q E s := by
  have f1 := mp_no_len
  have f2 := mp_no_hint
  have hT : ∀ i (h : Heap) g d t os, St i h → (⟨h, g, d, t, os⟩ : Shared).TypeIs (.ref M) "map" := fun i h g d t os st => ⟨_, hM i h st, rfl⟩
  unfold collect
  refine wpAny_bind (wpAny_runValue (codeAny_builtin PySem.F.entry_proto_collect ?_))
  rw [Around.under_plainId PySem.F.plain_proto_collect _]
  show wpAny _ A.in1 (newList [] >>= fun l => again (.builtin "list.__iadd__" ⟨[l, .ref M], []⟩)) _ _ s
  refine wpAny_bind (wpAny_newObj_type ?_)
  refine wpAny_pure ⟨plainId_quiet PySem.F.plain_list_iadd _, codeAny_builtin PySem.F.entry_list_iadd ?_⟩
  rw [Around.under_plainId PySem.F.plain_list_iadd _]
  have hSf : s.heap.objs.size ∉ fp := fun hm => Nat.lt_irrefl _ (hfp _ hm)
  have hSM : s.heap.objs.size ≠ M := fun e => hSf (e ▸ hI)
  have hst1 : St 0 (s.heap.push { cls := .type "list", data := .seq ([] : List Value).toArray }) := W.frame 0 _ _ hst fun b _ o e => Heap.get?_push_of_some _ e
  have hS1 : (s.heap.push { cls := .type "list", data := .seq ([] : List Value).toArray }).get? s.heap.objs.size = some { cls := .type "list", data := .seq ([] : List Value).toArray } := Heap.get?_push_size _ rfl
  show wpAny _ A.in1 (Builtin.List.listExtendWith (.ref s.heap.objs.size) (.ref M) (.ref s.heap.objs.size)) _ _ _
  have h1 : Builtin.List.listSameRef (.ref s.heap.objs.size) (.ref M) = false := by simp [Builtin.List.listSameRef, hSM]
  unfold Builtin.List.listExtendWith
  refine wpAny_bind (wpAny_typeOf (hT 0 _ _ _ _ _ hst1) ?_)
  simp only [h1, show (Value.type "map" == Value.type "list") = false by decide, show (Value.type "map" == Value.type "tuple") = false by decide, Bool.or_false, Bool.false_eq_true, if_false]
  refine wpAny_bind (W.self 0 _ _ _ hst1 ?_)
  refine wpAny_bind (wpAny_holding ?_)
  unfold Builtin.List.listLengthHint
  refine wpAny_bind (wpAny_specialOf (hT 0 _ _ _ _ _ hst1) f1 ?_)
  dsimp only
  refine wpAny_bind (wpAny_specialOf (hT 0 _ _ _ _ _ hst1) f2 ?_)
  refine wpAny_pure ?_
  show wpAny _ A.in1 (rule "list.extend.makes-room" >>= fun _ => Builtin.List.listTouch (.ref s.heap.objs.size) >>= fun _ =>
    again (.builtin "list.extend.loop" ⟨[.ref s.heap.objs.size, .ref M, .ref s.heap.objs.size], []⟩)) _ _ _
  refine wpAny_bind (wpAny_rule (wpAny_bind ?_))
  show wpAny _ A.in1 (updateSeq s.heap.objs.size (·.push .none) >>= fun _ => updateSeq s.heap.objs.size (·.pop)) _ _ _
  refine wpAny_bind (wpAny_updateSeq hS1 rfl ?_)
  have hS2 := Heap.get?_update_self (Obj.mapSeq (·.push Value.none)) hS1 rfl
  refine wpAny_updateSeq hS2 rfl ?_
  have hS3 := Heap.get?_update_self (Obj.mapSeq (·.pop)) hS2 rfl
  have oth : ∀ b o, b ≠ s.heap.objs.size → s.heap.get? b = some o →
      (((s.heap.push { cls := .type "list", data := .seq ([] : List Value).toArray }).update s.heap.objs.size (Obj.mapSeq (·.push Value.none))).update s.heap.objs.size (Obj.mapSeq (·.pop))).get? b = some o :=
    fun b o hb e => (Heap.get?_update_other _ _ (Ne.symm hb)).trans ((Heap.get?_update_other _ _ (Ne.symm hb)).trans (Heap.get?_push_of_some _ e))
  generalize ((s.heap.push { cls := .type "list", data := .seq ([] : List Value).toArray }).update s.heap.objs.size (Obj.mapSeq (·.push Value.none))).update s.heap.objs.size (Obj.mapSeq (·.pop)) = h3 at hS3 oth ⊢
  have hst3 : St 0 h3 := W.frame 0 _ _ hst fun b hb o e => oth b o (fun q => hSf (q ▸ hb)) e
  refine wpAny_pure ⟨plainId_quiet PySem.F.plain_extend_loop _, codeAny_extend_loopS W.toS (by rw [sizeLine_eq]; omega) _ hSf _ n 0 _ _ _ rfl (Nat.zero_le _) hst3 hS3 (ItemsOf.nil P) fun s' acc' c' hm hS' hacc => ?_⟩
  show wpAny _ A (load s.heap.objs.size >>= _) _ _ s'
  refine wpAny_bind (wpAny_load hS' ?_)
  obtain ⟨h', g', d', tk', os'⟩ := s'
  have e1 : g' = s.gens := hm.gens
  have e2 : d' = s.drawn := hm.drawn
  have e3 : os' = s.os := hm.os
  subst e1 e2 e3
  refine wpAny_pure (hQ h' tk' acc' (fun b o hb e => ?_) hacc)
  have hbS : b ≠ s.heap.objs.size := Nat.ne_of_lt (Heap.lt_size e)
  refine hm.heap b o (fun hm' => ?_) (oth b o hbS e)
  rcases List.mem_cons.mp hm' with q | q
  · exact hbS q
  · exact hb q
end
section
open PySem.Builtin
open Sem (wp)
open AutoSeq1 (wpAny_loadPart')
variable {prog : Program} {w : World} {A : Around} {E : Value → Shared → Prop} {s : Shared}
set_option maxRecDepth 100000 in
theorem code_tuple_map {M T f : Addr} {fp wr : List Addr} {n : Nat} {P : Nat → Value → Prop} {St : Nat → Heap → Prop} {Q : Value → Shared → Prop} (W : Walks prog w A.in1.in1 M fp wr n P St) (hM : ∀ i h, St i h → h.get? M = some (mapObj T f)) (hst : St 0 s.heap) (hfp : ∀ b ∈ fp, b < s.heap.objs.size) (hI : M ∈ fp) (hn : n ≤ 1000)
    (hQ : ∀ (h' : Heap) (tk : Nat) (acc : Array Value), (∀ b o, b ∉ wr → s.heap.get? b = some o → h'.get? b = some o) → ItemsOf P acc n → Q (.ref h'.objs.size) { s with heap := h'.push { cls := .type "tuple", data := .seq acc }, toks := tk }) :
    codeAny (model prog w) A (.call (.builtin "tuple.__new__") ⟨[.type "tuple", .ref M], []⟩) (wants Q E) s := by
  refine codeAny_of_tree ?_
  show wpAny _ A.in1 (do checkBuiltinCall "tuple.__new__" ⟨[.type "tuple", .ref M], []⟩; again (.builtin "tuple.__new__" ⟨[.type "tuple", .ref M], []⟩)) _ _ s
  refine wpAny_bind (wpAny_of_eq (PySem.F.newCall_tuple_1 _) (wpAny_pure ⟨plainId_quiet PySem.F.plain_tuple_new _, codeAny_builtin PySem.F.entry_tuple_new ?_⟩))
  rw [Around.under_plainId PySem.F.plain_tuple_new _]
  have hsub := sub_tuple_self
  have hinit := init_tuple_lookup
  have hmh := madeHere_tuple
  have hT : s.TypeIs (.ref M) "map" := ⟨_, hM 0 _ hst, rfl⟩
  wp_walk using wpAny_typeOf hT, collect_map W hM hst hfp hI hn
  intro h' tk acc hm hacc
  show wpAny _ _ (Builtin.Tuple.tupleExact acc.toList.toArray >>= fun v => ret v) _ _ _
  unfold Builtin.Tuple.tupleExact
  refine wpAny_bind (wpAny_newObj_type ?_ (by show acc.toList.toArray.size ≤ sizeLine; simp only [Array.toArray_toList]; rw [hacc.1, sizeLine_eq]; omega))
  refine wpAny_pure ?_
  have e : acc.toList.toArray = acc := by simp
  rw [e]
  exact hQ h' tk acc hm hacc
theorem call_tuple_map {M T f : Addr} {fp wr : List Addr} {n : Nat} {P : Nat → Value → Prop} {St : Nat → Heap → Prop} {Q : Value → Shared → Prop} (W : Walks prog w A.in1.in1.in1 M fp wr n P St) (hM : ∀ i h, St i h → h.get? M = some (mapObj T f)) (hst : St 0 s.heap) (hfp : ∀ b ∈ fp, b < s.heap.objs.size) (hI : M ∈ fp) (hn : n ≤ 1000)
    (hQ : ∀ (h' : Heap) (tk : Nat) (acc : Array Value), (∀ b o, b ∉ wr → s.heap.get? b = some o → h'.get? b = some o) → ItemsOf P acc n → Q (.ref h'.objs.size) { s with heap := h'.push { cls := .type "tuple", data := .seq acc }, toks := tk }) :
    wpAny (model prog w) A (call (.type "tuple") [.ref M]) Q E s := by
  refine callType_codes (Q₁ := fun obj s₁ => s₁.TypeIs obj "tuple" ∧ Q obj s₁) PySem.F.called_tuple (PySem.F.typeCall_tuple_1 _) PySem.F.entry_object_init
    (code_tuple_map (A := A.in1) W hM hst hfp hI hn fun h' tk acc hm hacc => ⟨⟨_, Heap.get?_push_size _ rfl, rfl⟩, hQ h' tk acc hm hacc⟩) fun obj s₁ h₁ => ?_
  exact ⟨h₁.1, PySem.F.args_object_init_2 obj _, object_init_meets PySem.F.called_tuple.init.lookup PySem.F.called_tuple.made (by decide) prog w A.in1 _ s₁ ⟨h₁.1, rfl, h₁.2⟩⟩
end
section
variable {w : World} {mean : ExcName → Option Value} {mg mb : Str → Option Value}
theorem call_raw {A : Around} {E : Value → Shared → Prop} {s : Shared} {f : Addr} {d u : Nat} {args : List Value} {pre : Heap → Prop} {post : Heap → Value → Heap → Prop} {Q : Value → Shared → Prop}
    (C : Fn w mean mg mb f d u args pre post) (hr : Room A d u) (G : Gd w mean mg mb s.heap) (hp : pre s.heap)
    (h : ∀ v h' tk, Ext s.heap h' → post s.heap v h' → Q v { s with heap := h', toks := tk }) : wpAny (model prog w) A (call (.ref f) args) Q E s := by
  obtain ⟨hd, dp, fr, gd, un⟩ := A
  obtain rfl : hd = none := hr.handled
  exact wpAny_call (C dp un fr gd s _ hr G hp fun v h' tk e hq => h v h' tk e hq)
theorem walks_fs {A : Around} {h₀ b0 : Heap} {M T I D : Addr} {items : Array Value} {ss : List Str} (hr : Room A.in1 20 100) (G : Gd w mean mg mb h₀) (e0 : Ext h₀ b0) (hM : b0.get? M = some (mapObj T 156)) (hT : b0.get? T = some { cls := .type "tuple", data := .seq #[.ref I] })
    (hl : b0.IsList D items) (hI0 : h₀.get? I = none) (hMI : M ≠ I) (hTI : T ≠ I) (hDI : D ≠ I) (hIs : I < b0.objs.size) (hv : StrsAre items.toList ss) :
    Walks prog w A M (List.range b0.objs.size) [I] items.size (fun i v => items[i]? = some v) (fun i h => (∀ b o, b ≠ I → b0.get? b = some o → h.get? b = some o) ∧ h.IsListIter I D i) := by
  have hh : A.handled = none := hr.handled
  have hlI : ∀ {h : Heap}, (∀ b o, b ≠ I → b0.get? b = some o → h.get? b = some o) → h.IsList D items := fun {h} k => hl.at fun o e => k D o hDI e
  refine ⟨?_, ?_, ?_, ?_, ?_⟩
  · intro b hb
    rw [List.mem_singleton.mp hb]
    exact List.mem_range.mpr hIs
  · rintro i h h' ⟨k1, k2⟩ hk
    refine ⟨fun b o hb e => hk b (List.mem_range.mpr (Heap.lt_size e)) o (k1 b o hb e), k2.at fun o e => hk I (List.mem_range.mpr hIs) o e⟩
  · rintro i s Q E hi ⟨k1, k2⟩ hQ
    obtain ⟨v, hvi⟩ : ∃ v, items[i]? = some v := ⟨_, Array.getElem?_eq_getElem hi⟩
    obtain ⟨x, t, rfl, hx⟩ := hv.item i v (by simpa using hvi)
    refine map_item (k1 M _ hMI hM) (k1 T _ hTI hT) k2 (hlI k1) hvi hMI ?_
    intro h' E' hit' hs'
    have k1' : ∀ b o, b ≠ I → b0.get? b = some o → h'.get? b = some o := fun b o hb e => (hs'.2 b hb).trans (k1 b o hb e)
    have ex : Ext h₀ h' := fun b o e => k1' b o (fun q => by rw [q, hI0] at e; cases e) (e0 b o e)
    refine call_raw (fspath_spec x t) hr (G.keeps ex) trivial ?_
    rintro v h'' tk e1 rfl
    refine ⟨rfl, hQ _ h'' tk hvi ⟨fun b o hb e => e1 b o (k1' b o hb e), hit'.at fun o e => e1 I o e⟩ fun b o hb e => e1 b o ?_⟩
    exact (hs'.2 b (fun q => hb (List.mem_singleton.mpr q))).trans e
  · rintro s Q E ⟨k1, k2⟩ hQ
    refine map_end hh (k1 M _ hMI hM) (k1 T _ hTI hT) k2 (hlI k1) (by simp) ?_
    intro h' he
    exact hQ h' s.toks fun b o hb e => he b o (fun q => hb (List.mem_singleton.mpr q)) e
  · rintro i s Q E ⟨k1, k2⟩ hQ
    exact map_iter (k1 M _ hMI hM) hQ
end
end
section
section
open PySem.Builtin PySem.Builtin.Str
theorem split_new {prog : Program} {w : World} {A : Around} {E : Value → Shared → Prop} {s : Shared} {x y : Str} {t u : Tok} {Q : Value → Shared → Prop} (hy : (y.length == 0) = false)
    (h : ∀ l k, l.map (·.1) = Txt.split x y → Q (.ref s.heap.objs.size) { s with heap := s.heap.push { cls := .type "list", data := .seq (strValues l).toArray }, toks := k }) (hsz : x.length ≤ 10000) :
    wpAny (model prog w) A (call (.builtin "str.split") [.str x t, .str y u]) Q E s := by
  have hz := sizeLine_eq
  have hn : (partsBetween x (occurrences x y 0 x.length (x.length + 1)) y.length).length ≤ sizeLine := by
    have e1 := StrLaws.occ_length_le x y 0 x.length (x.length + 1)
    rw [length_partsBetween]; omega
  cases h1 : (decide (x.length < y.length) || decide (PySem.Builtin.Str.strKind x < PySem.Builtin.Str.strKind y))
  · cases hf : (occurrences x y 0 x.length (x.length + 1)).isEmpty
    · refine call_meets PySem.F.slot_str_split (typeIs_str _ _ _) PySem.F.entry_str_split (PySem.F.args_str_split_2 _ _) (meets_str_split_sep x y t u h1 hy hf (by omega) hn) ?_
      show wants Q E _ { s with toks := _, heap := s.heap.push { cls := .type "list", data := .seq (strsFrom s.toks (partsBetween x (occurrences x y 0 x.length (x.length + 1)) y.length)).toArray } }
      rw [strsFrom_eq]
      exact h (numbered s.toks _) _ ((numbered_texts _ _).trans ((if_neg (ne_true_of_eq_false h1)).trans (if_neg (ne_true_of_eq_false hf))).symm)
    · exact call_meets PySem.F.slot_str_split (typeIs_str _ _ _) PySem.F.entry_str_split (PySem.F.args_str_split_2 _ _) (meets_str_split_not_found x y t u h1 hy hf) (h [(x, t)] s.toks ((if_neg (ne_true_of_eq_false h1)).trans (if_pos hf)).symm)
  · exact call_meets PySem.F.slot_str_split (typeIs_str _ _ _) PySem.F.entry_str_split (PySem.F.args_str_split_2 _ _) (meets_str_split_cannot_occur x y t u h1) (h [(x, t)] s.toks (if_pos h1).symm)
end
section
theorem Fr.butI {h₀ h2 h4 : Heap} {L I0 : Addr} {m : Str → Option Value} (F : Fr h₀ L h2 m) (hk : ∀ b o, b ∉ [I0] → h2.get? b = some o → h4.get? b = some o) (hI0 : h₀.get? I0 = none) (hL : L ≠ I0) : Fr h₀ L h4 m :=
  ⟨F.ns.at' fun o e => hk L o (fun q => hL (List.mem_singleton.mp q)) e, fun b o e => hk b o (fun q => by rw [List.mem_singleton.mp q, hI0] at e; cases e) (F.keep b o e), F.above⟩
theorem News.butI {h₀ h2 h4 : Heap} {L I0 : Addr} {news : List (Addr × Obj)} (N : News h₀ L h2 news) (hk : ∀ b o, b ∉ [I0] → h2.get? b = some o → h4.get? b = some o) (hn : ∀ p ∈ news, p.1 ≠ I0) : News h₀ L h4 news :=
  fun p hp => ⟨hk _ _ (fun q => hn p hp (List.mem_singleton.mp q)) (N p hp).1, (N p hp).2⟩
theorem News.off {h₀ h1 : Heap} {L I0 : Addr} {news : List (Addr × Obj)} (N : News h₀ L h1 news) (h : h1.get? I0 = none) : ∀ p ∈ news, p.1 ≠ I0 := by
  intro p hp q
  have := (N p hp).1
  rw [q, h] at this; cases this
theorem Fr.offL {h₀ h1 : Heap} {L I0 : Addr} {m : Str → Option Value} (F : Fr h₀ L h1 m) (h : h1.get? I0 = none) : L ≠ I0 := by
  rintro rfl
  obtain ⟨oL, es, ep, hL, r⟩ := F.ns
  rw [h] at hL; cases hL
theorem assign_one {M : Model} {A : Around} {E : Value → Shared → Prop} {s : Shared} {env : Env} {x : Str} {px pos : Pos} {k : Nat} {v : Value} {Q : Unit → Shared → Prop}
    (h : wpAny M A (unpackItems v 1 none) (fun vs s' => ∃ y, vs = [y] ∧ wpAny M A (storeName env x y) Q E s') E s) : wpAny M A (assign (.Tuple [.Name x px] k pos) env v) Q E s := by
  show wpAny M A (do standAt pos; unpack v (assignEach [.Name x px] env)) Q E s
  refine wpAny_bind (wpAny_standAt ?_)
  unfold unpack
  refine wpAny_bind (wpAny_holding (wpAny_mono h (fun vs s' h' => ?_) fun _ _ e => e))
  obtain ⟨y, rfl, hy⟩ := h'
  show wpAny M A (do holding [] (assign (.Name x px) env y); pure ()) Q E s'
  exact wpAny_bind (wpAny_holding (wpAny_mono (assign_Name hy) (fun _ _ q => wpAny_pure q) fun _ _ e => e))
def pathOf : List Nat → List Nat
  | [] => []
  | c :: r => joinL [c] (r.map fun d => [d])
def LtAt (a b : List Nat) : Prop := ∃ j x y, a.take j = b.take j ∧ a[j]? = some x ∧ b[j]? = some y ∧ x < y
def cpre : List Nat → List Nat → List Nat
  | a :: r, b :: q => if a = b then a :: cpre r q else []
  | _, _ => []
theorem pathOf_split {r : List Nat} (hl : Lets r) (h5 : r.length = 5) : Txt.split (mkS (pathOf r)) (Str.ofString "/") = r.map ch := by
  cases r with
  | nil => cases h5
  | cons c q =>
    have h47 : ∀ d ∈ c :: q, d ≠ 47 := fun d hd => by have := hl d hd; omega
    have := split_mkS [c] (q.map fun d => [d]) (by simpa using (h47 c (.head _)).symm) (by
      intro b hb
      obtain ⟨d, hd, rfl⟩ := List.mem_map.mp hb
      simpa using (h47 d (.tail _ hd)).symm)
    rw [pathOf, this, List.map_cons, List.map_cons, List.map_map]
    rfl
theorem pathOf_len {r : List Nat} (h5 : r.length ≤ 5) : (pathOf r).length ≤ 9 := by
  match r, h5 with
  | [], _ => exact Nat.zero_le _
  | [a], _ => simp [pathOf, joinL]
  | [a, b], _ => simp [pathOf, joinL]
  | [a, b, c], _ => simp [pathOf, joinL]
  | [a, b, c, d], _ => simp [pathOf, joinL]
  | [a, b, c, d, e], _ => simp [pathOf, joinL]
theorem pathOf_head {r : List Nat} (hl : Lets r) (h5 : r.length = 5) : (pathOf r).head? ≠ some 47 := by
  cases r with
  | nil => cases h5
  | cons c q =>
    have := hl c (.head _)
    rw [pathOf, show [c] = [c] ++ [] by rfl, joinL_pre]
    simp; omega
theorem paired_get {α β : Type} {F : α → β → Prop} : ∀ {xs : List α} {ys : List β}, Paired F xs ys → ∀ {i : Nat} {y : β}, ys[i]? = some y → ∃ x, xs[i]? = some x ∧ F x y
  | _, _, .nil, i, y, h => by simp at h
  | _, _, .cons a t, i, y, h => by
    cases i with
    | zero => simp at h; subst h; exact ⟨_, rfl, a⟩
    | succ i => simpa using paired_get t (by simpa using h)
theorem paired_fwd {α β : Type} {F : α → β → Prop} : ∀ {xs : List α} {ys : List β}, Paired F xs ys → ∀ {i : Nat} {x : α}, xs[i]? = some x → ∃ y, ys[i]? = some y ∧ F x y
  | _, _, .nil, i, y, h => by simp at h
  | _, _, .cons a t, i, y, h => by
    cases i with
    | zero => simp at h; subst h; exact ⟨_, rfl, a⟩
    | succ i => simpa using paired_fwd t (by simpa using h)
theorem strs_uniq : ∀ {vs : List Value} {a b : List Str}, StrsAre vs a → StrsAre vs b → a = b
  | _, _, _, .nil, h => by cases h; rfl
  | _, _, _, .cons n t h, h2 => by
    cases h2 with
    | cons _ _ h2 => rw [strs_uniq h h2]
theorem map_ch_inj {a b : List Nat} (h : a.map ch = b.map ch) : a = b := by
  refine (List.map_inj_right ?_).mp h
  intro x y e
  have := congrArg (fun z : Str => z.cps.toList) e
  simpa using this
theorem rows_at {rs : List (List Nat)} {vs ys1 ys3 : List Value} {objs1 objs3 : List (Addr × Obj)} {h h₀ : Heap} {L : Addr} (N : News h₀ L h objs1) (hrs : ∀ r ∈ rs, Lets r ∧ r.length = 5) (hvs : StrsAre vs (rs.map fun r => mkS (pathOf r)))
    (hF1 : Paired (LObj objs1 fun v its => ∃ r t, r ∈ rs ∧ v = .str (mkS (pathOf r)) t ∧ StrsAre its.toList (r.map ch)) vs ys1)
    (hF3 : Paired (LObj objs3 fun v its => ∃ (T : Addr) (o : Obj) (its0 : Array Value) (n : Nat) (r : List Nat), v = .ref T ∧ (T, o) ∈ objs1 ∧ o.data = .seq its0 n ∧ StrsAre its0.toList (r.map ch) ∧ StrsAre its.toList (r.map ch)) ys1 ys3) :
    ys3.length = rs.length ∧ ∀ (i : Nat) r, rs[i]? = some r → ∃ T o its n, ys3[i]? = some (.ref T) ∧ (T, o) ∈ objs3 ∧ o.cls = .type "list" ∧ o.data = .seq its n ∧ StrsAre its.toList (r.map ch) := by
  refine ⟨by rw [← hF3.length, ← hF1.length, hvs.len_eq, List.length_map], ?_⟩
  intro i r hi
  obtain ⟨t, ht⟩ := hvs.get i (mkS (pathOf r)) (by rw [List.getElem?_map, hi]; rfl)
  obtain ⟨y1, hy1, T, o, its0, n0, rfl, hTo, hoc, hod, r1, t1, hr1, e1, hs1⟩ := paired_fwd hF1 ht
  have er : r = r1 := by
    injection e1 with e1
    have h1 := hrs r (List.mem_of_getElem? hi)
    have h2 := hrs r1 hr1
    have := pathOf_split h1.1 h1.2
    rw [e1, pathOf_split h2.1 h2.2] at this
    exact (map_ch_inj this).symm
  subst er
  obtain ⟨y3, hy3, T3, o3, its3, n3, rfl, hTo3, hoc3, hod3, T', o', its0', n', r', e2, hTo', hod', hs2, hs3⟩ := paired_fwd hF3 hy1
  injection e2 with e2
  subst e2
  have e3 : o' = o := Option.some.inj ((N _ hTo').1.symm.trans (N _ hTo).1)
  subst e3
  rw [hod] at hod'
  injection hod' with e4 e5
  subst e4
  rw [map_ch_inj (strs_uniq hs2 hs1)] at hs3
  exact ⟨T3, o3, its3, n3, hy3, hTo3, hoc3, hod3, hs3⟩
theorem LtAt.lists {a b : List Nat} (h : LtAt a b) : ∃ (j : Nat) (x y : Nat), (a.map ch).take j = (b.map ch).take j ∧ (a.map ch)[j]? = some (ch x) ∧ (b.map ch)[j]? = some (ch y) ∧ x < y := by
  obtain ⟨j, x, y, h1, h2, h3, h4⟩ := h
  exact ⟨j, x, y, by rw [← List.map_take, h1, List.map_take], by rw [List.getElem?_map, h2]; rfl, by rw [List.getElem?_map, h3]; rfl, h4⟩
theorem ch_ne {x y : Nat} (h : x ≠ y) : ch x ≠ ch y := by
  intro e
  have := congrArg (fun z : Str => z.cps.toList) e
  exact h (by simpa using this)
theorem ch_lt {x y : Nat} : ((ch x).cps.toList < (ch y).cps.toList) ↔ x < y := by
  show [x] < [y] ↔ x < y
  simp [List.cons_lt_cons_iff]
theorem Iter.at {prog : Program} {w : World} {A : Around} {L : Addr} {s : Shared} {h : Heap} {xv : Value} {n : Nat} {P : Nat → Value → Prop} {Q E : Value → Shared → Prop} (hit : Iter prog w A L h xv n P) (e : s.heap = h)
    (hQ : ∀ I fp wr St h' tk, Walks prog w A I fp wr n P St → L ∉ fp → St 0 h' → Ext s.heap h' → s.heap.objs.size ≤ h'.objs.size → (∀ b ∈ wr, s.heap.get? b = none) → (∀ b ∈ fp, b < h'.objs.size) →
      (∀ i g, St i g → ∀ b ∈ wr, ∃ o, g.get? b = some o) → Q (.ref I) { s with heap := h', toks := tk }) : wpAny (model prog w) A (pyIter xv) Q E s := hit s Q E e hQ
theorem News.cons {h₀ h : Heap} {L : Addr} {p : Addr × Obj} {l : List (Addr × Obj)} (hp : h.get? p.1 = some p.2 ∧ p.1 ≠ L ∧ h₀.get? p.1 = none) (N : News h₀ L h l) : News h₀ L h (p :: l) := by
  intro q hq
  rcases List.mem_cons.mp hq with rfl | hq
  · exact hp
  · exact N q hq
theorem cpre_self : ∀ a : List Nat, cpre a a = a
  | [] => rfl
  | x :: r => by rw [cpre, if_pos rfl, cpre_self r]
theorem cpre_at : ∀ {a b : List Nat} {i c d : Nat}, a.take i = b.take i → a[i]? = some c → b[i]? = some d → c ≠ d → cpre a b = a.take i
  | [], _, _, _, _, _, h, _, _ => by simp at h
  | _, [], _, _, _, _, _, h, _ => by simp at h
  | x :: a, y :: b, 0, c, d, _, h1, h2, hne => by
    have e1 : x = c := by simpa using h1
    have e2 : y = d := by simpa using h2
    rw [cpre, if_neg (by rw [e1, e2]; exact hne)]; rfl
  | x :: a, y :: b, i + 1, c, d, h, h1, h2, hne => by
    rw [List.take_succ_cons, List.take_succ_cons] at h
    obtain ⟨e, h⟩ := List.cons.inj h
    rw [cpre, if_pos e, List.take_succ_cons, cpre_at h (by simpa using h1) (by simpa using h2) hne]
theorem cpre_len : ∀ a b : List Nat, (cpre a b).length ≤ a.length
  | [], _ => by simp [cpre]
  | _ :: _, [] => by simp [cpre]
  | x :: a, y :: b => by
    rw [cpre]
    split
    · have := cpre_len a b
      simp only [List.length_cons]; omega
    · simp
theorem join_path (l : List Nat) : Str.join (Str.ofString "/") (l.map ch) = mkS (pathOf l) := by
  rw [slash_is]
  cases l with
  | nil => rfl
  | cons c r =>
    have := join_mkS [c] (r.map fun d => [d])
    rw [List.map_map] at this
    exact this
theorem items_are {items acc : Array Value} (h : ItemsOf (fun i v => items[i]? = some v) acc items.size) : acc = items := by
  apply Array.ext_getElem?
  intro i
  obtain ⟨h1, h2⟩ := h
  cases q : acc[i]? with
  | some v => exact (h2 i v q).symm
  | none =>
    rw [Array.getElem?_eq_none_iff] at q
    exact (Array.getElem?_eq_none_iff.mpr (by omega)).symm
variable {w : World} {mean : ExcName → Option Value} {mg mb : Str → Option Value}
set_option maxRecDepth 100000 in
set_option maxHeartbeats 4000000 in
theorem common_spec (D : Addr) (rs : List (List Nat)) (vs : List Value) (nn : Nat) (hrs : ∀ r ∈ rs, Lets r ∧ r.length = 5) (hr0 : rs ≠ []) (hr5 : rs.length ≤ 5) (hord : ∀ (i j : Nat) a b, i < j → rs[i]? = some a → rs[j]? = some b → LtAt a b) :
    Fn w mean mg mb 196 60 400 [.ref D] (fun h => h.get? D = some (lst vs nn) ∧ StrsAre vs (rs.map fun r => mkS (pathOf r))) (fun _ v _ => ∃ t a b, rs.head? = some a ∧ rs.getLast? = some b ∧ v = .str (mkS (pathOf (cpre a b))) t) := by
  rintro dp un fr gd s R hr G ⟨hD, hvs⟩ hR
  have hvl : vs.length = rs.length := by rw [hvs.len_eq, List.length_map]
  refine' enterC (d := 59) (u := 397) (binds := [(Str.ofString "paths", .ref D)]) hr G ?ho ?hcd ?hb ?hl ?hc ?_ ?c1 ?c2 ?c3
  (case ho => k_dflt k_is)
  (case hcd => k_dflt k_is)
  (case hb => exact BindsTo.of_eq rfl)
  (case hl => rfl)
  (case hc => decide)
  (case c1 => rfl)
  (case c2 => rfl)
  (case c3 => rfl)
  intro L h₁ tk cells hr' F N Y X T
  refine wp_in (by passes_own) hr' ?_
  clear hr'
  intro dp un fr gd Q₀ E₀ hr' hE₀ hQ₀
  k_cells Y
  walk_at "m ec"
  walk_at "m go2"
  rename Fr _ _ _ _ => F1
  rename News _ _ _ _ => N1
  refine call_map (F1.keep _ _ hD) ?_
  intro h2 e2 I0 T0 M0 k1 k2 k3 k4 k5 k6 k7
  have F2 := Fr.ext F1 e2
  have N2 := News.ext N1 e2
  have hDI : D ≠ I0 := by rintro rfl; have := F1.keep _ _ hD; rw [k4] at this; cases this
  have hMI : M0 ≠ I0 := by
    rintro rfl
    obtain ⟨o, ho, hc, _⟩ := k1
    rw [k3] at ho; cases ho
    have hc' : Value.type "map" = Value.type "list_iterator" := hc
    exact absurd hc' (by decide)
  have hTI : T0 ≠ I0 := Ne.symm k7
  have hI0 : s.heap.get? I0 = none := by
    cases q : s.heap.get? I0 with
    | none => rfl
    | some o => have := F1.keep _ _ q; rw [k4] at this; cases this
  have hLI := Fr.offL F1 k4
  have hNI := News.off N1 k4
  clear F1 N1
  walk_at "m go2"
  rename Fr _ _ _ _ => F3
  have hl0 := isList_of (F3.keep _ _ hD)
  obtain ⟨oI, hoI, _⟩ := id k1
  refine call_tuple_map (walks_fs (b0 := h2) ((((hr'.mono (d' := 20) (u' := 104) (by decide) (by decide)).in1).in1).in1).in1 ⟨T, X⟩ F3.keep k3 k2 hl0 hI0 hMI hTI hDI (Heap.lt_size hoI) hvs) (fun i h st => st.1 M0 _ hMI k3) ⟨fun b o _ e => e, k1⟩ (fun b hb => List.mem_range.mp hb) (List.mem_range.mpr (Heap.lt_size k3)) ?_ ?_
  · rw [List.size_toArray]; omega
  intro h4 tk4 acc hk4 hacc
  have F5 := Fr.push (Fr.butI F3 hk4 hI0 hLI) { cls := .type "tuple", data := .seq acc }
  have N5 := News.push (Fr.butI F3 hk4 hI0 hLI) (News.butI N2 hk4 hNI) { cls := .type "tuple", data := .seq acc }
  obtain rfl := items_are hacc
  clear F3 N2
  walk_at "m go2"
  obtain ⟨x0, t0, vs0, e0⟩ : ∃ x0 t0 vs0, vs = Value.str x0 t0 :: vs0 := by
    cases rs with
    | nil => exact absurd rfl hr0
    | cons r0 rr =>
      obtain ⟨t, vs', rfl, _⟩ := hvs.cons_inv
      exact ⟨_, _, _, rfl⟩
  rename Fr _ _ _ _ => F6
  rename News _ _ _ _ => N6
  refine PyProof.Rows.truthy_tuple (items := vs.toArray) ⟨_, N6.get (.head _), rfl, _, rfl⟩ (by rw [List.size_toArray]; omega) ?_
  rw [show (!vs.toArray.isEmpty) = true by rw [e0]; rfl]
  walk_at "m go2"
  refine PyProof.Rows.item_tuple (items := vs.toArray) (j := 0) (x := .str x0 t0) ⟨_, N6.get (.head _), rfl, _, rfl⟩ (by decide) (by decide) (by rw [e0]; exact StrLaws.seqIndex_nonneg (i := 0) (by decide) (by simp)) (by rw [e0]; rfl) ?_
  walk_at "m go2"
  refine wpAny_Try_except ?_
  walk_at "m go2"
  rename Fr _ _ _ _ => F7
  rename News _ _ _ _ => N7
  rename _ = Data.cell (some (Value.str (Str.ofString "/") _)) => hsep
  rename _ = Data.cell (some (Value.str (Str.ofString ".") _)) => hcur
  clear k1 k2 k3 k4 k5 k6 k7 hk4 hacc hl0 e2 hoI
  (try clear F6); (try clear N6); (try clear F5); (try clear N5)
  refine' comp_objs_assign ?w1 ?w2 ?w3 ?w4 ?w5 ?w6 ?w7 ?w8 ?_ ?w9
  case w1 => rfl
  case w2 => rfl
  case w3 => decide
  case w4 => rfl
  case w5 => decide
  case w6 => rfl
  case w7 => rfl
  case w8 => rfl
  case w9 => intro _; rfl
  walk_at "m go2"
  rename Fr _ _ _ _ => F8
  rename News _ _ _ _ => N8
  have gsep := N8.get (.tail _ (.tail _ (.head _)))
  have gcur := N8.get (.tail _ (.head _))
  refine' CompAtO.mk (fun _ => true) (fun v its => ∃ r t, r ∈ rs ∧ v = .str (mkS (pathOf r)) t ∧ StrsAre its.toList (r.map ch)) rfl F8 N8 (Iter.tuple (vs := vs) hr'.handled ⟨_, N8.get (.head _), rfl, _, rfl⟩ (N8 _ (.head _)).2.1 F8.ns.lt) ?sz ?tests ?helt ?fin
  case sz => rw [sizeLine_eq]; omega
  case tests => intros; exact tests_none ⟨rfl, keeps_tok _ _⟩
  case helt =>
    rintro C i v s₃ m₃ E' hi - F9 hm
    obtain ⟨y, ty, rfl, hy⟩ := hvs.item i v hi
    rw [List.getElem?_map] at hy
    obtain ⟨r, hr1, hr2⟩ := Option.map_eq_some_iff.mp hy
    subst hr2
    have hrr := hrs r (List.mem_of_getElem? hr1)
    walk_at "m go2"
    refine split_new (by decide +kernel) ?_ (by rw [mkS_len]; have := pathOf_len (Nat.le_of_eq hrr.2); omega)
    intro l k hl
    refine ⟨⟨_, _, rfl, none_size _, ⟨_, Heap.get?_push_size _ rfl, rfl, _, rfl⟩, r, ty, List.mem_of_getElem? hr1, rfl, ?_⟩, keeps_of (Ext.push _ _)⟩
    rw [pathOf_split hrr.1 hrr.2] at hl
    rw [← hl]
    exact strsAre_of_values l
  case fin =>
    rintro D1 ys1 c1 vs1 objs1 h5 tk5 F9 N9 hD1 hobjs1 hlen1 hP1 hF1
    rw [filter_all, list_of_idx hlen1 hP1] at hF1
    clear F8 N8
    change Fr s.heap L h5 _ at F9
    change News s.heap L h5 _ at N9
    walk_at "m go3"
    refine wpAny_Try_except ?_
    walk_at "m go3"
    have ms : ∀ {p : Addr × Obj} {l : List (Addr × Obj)}, p ∈ l → p ∈ (D1, lst ys1 c1) :: (objs1 ++ l) := fun hm => .tail _ (List.mem_append_right _ hm)
    have gsep1 := N9.get (ms (.tail _ (.tail _ (.head _))))
    have gcur1 := N9.get (ms (.tail _ (.head _)))
    refine' comp_set ?c1 ?c2 ?c3 ?c4 ?c5 ?_ ?c6
    walk_at "m comp"
    walk_at "m go3"
    refine' SetAt.mk F9 N9 (Iter.tuple (vs := vs) hr'.handled ⟨_, N9.get (ms (.head _)), rfl, _, rfl⟩ (N9 _ (ms (.head _))).2.1 F9.ns.lt) ?sz ?helt ?fin
    case sz => rw [e0]; simp
    case helt =>
      rintro C i v s₃ m₃ E' hi F10 hm
      obtain ⟨y, ty, rfl, hy⟩ := hvs.item i v hi
      rw [List.getElem?_map] at hy
      obtain ⟨r, hr1, hr2⟩ := Option.map_eq_some_iff.mp hy
      subst hr2
      have hrr := hrs r (List.mem_of_getElem? hr1)
      have hst := starts_slash (pathOf r) (pathOf_head hrr.1 hrr.2)
      rw [← slash_is] at hst
      walk_at "m go3"
      exact ⟨congrArg Value.bool hst, keeps_tok _ _⟩
    case fin =>
      rintro D2 h6 tk6 F10 N10 e6 hD2
      clear F9 N9
      walk_at "m go3"
      refine assign_one ?_
      refine set_unpack (w := w) (D := D2) hr'.handled (by exact N10.get (.head _)) ?_
      intro h7 e7
      have F11 := Fr.ext F10 e7
      have N11 := News.ext N10 e7
      clear F10 N10
      refine ⟨_, rfl, ?_⟩
      walk_at "m go3"
      rename Fr _ _ _ _ => F12
      rename News _ _ _ _ => N12
      have ms2 : ∀ {p : Addr × Obj} {l : List (Addr × Obj)}, p ∈ l → p ∈ (D2, ledSet w) :: (D1, lst ys1 c1) :: (objs1 ++ l) := fun hm => .tail _ (ms hm)
      refine' comp_objs_assign ?w1 ?w2 ?w3 ?w4 ?w5 ?w6 ?w7 ?w8 ?_ ?w9
      case w1 => rfl
      case w2 => rfl
      case w3 => decide
      case w4 => rfl
      case w5 => decide
      case w6 => rfl
      case w7 => rfl
      case w8 => rfl
      case w9 => intro _; rfl
      walk_at "m go3"
      have gcur2 := N12.get (ms2 (.tail _ (.head _)))
      refine' CompAtO.mk (fun _ => true) (fun v its => ∃ (T : Addr) (o : Obj) (its0 : Array Value) (n : Nat) (r : List Nat), v = .ref T ∧ (T, o) ∈ objs1 ∧ o.data = .seq its0 n ∧ StrsAre its0.toList (r.map ch) ∧ StrsAre its.toList (r.map ch)) rfl F12 N12 (Iter.list (vs := ys1) hr'.handled (isList_of (N12.get (.tail _ (.head _)))) (N12 _ (.tail _ (.head _))).2.1 F12.ns.lt) ?sz ?tests ?helt ?fin
      case sz => have := hF1.length; rw [sizeLine_eq]; omega
      case tests => intros; exact tests_none ⟨rfl, keeps_tok _ _⟩
      case helt =>
        rintro C i v s₃ m₃ E' hi - F13 hm
        obtain ⟨v0, hv0, T, o, its0, n0, rfl, hTo, hoc, hod, r, t0, hr0', hr1, hr2⟩ := paired_get hF1 hi
        have hrr := hrs r hr0'
        have hT1 := N12.get (.tail _ (.tail _ (List.mem_append_left _ hTo)))
        have hT3 := F13.keep _ _ hT1
        have gcur3 := F13.keep _ _ gcur2
        have hTC : T ≠ C := Nat.ne_of_lt (Nat.lt_of_lt_of_le (Heap.lt_size hT1) F13.above)
        refine' comp_vals ?c1 ?c2 ?c3 ?c4 ?c5 ?_ ?c6
        walk_at "m comp"
        walk_at "m go3"
        refine' CompAt.mk (fun _ => true) (fun v y => v = y) F13 News.nil (Iter.list (vs := its0.toList) hr'.handled ⟨o, hT3, hoc, n0, hod⟩ hTC F13.ns.lt) ?sz2 ?tests2 ?helt2 ?fin2
        case sz2 => rw [hr2.len_eq, List.length_map, sizeLine_eq]; omega
        case tests2 =>
          rintro C' i' v' s₄ m₄ E'' hi' F14 hm'
          obtain ⟨c, tc, hc1, rfl⟩ := charItem hr2 hi'
          have hc2 := hrr.1 c (List.mem_of_getElem? hc1)
          have hne : (ch c != Str.ofString ".") = true := by
            apply bne_iff_ne.mpr
            intro q
            have : [c] = [46] := mkS_inj (q.trans (by decide +kernel))
            have := List.cons.inj this
            omega
          refine tests_one ?_
          walk_at "m go3"
          refine truthy_mkS (l := [c]) (by simp) (by simp) ?_
          intro k
          show ite (true = true) _ _
          rw [if_pos (Eq.refl true)]
          clear hi' hc1 hc2
          generalize ch c = x at hne hm' ⊢
          walk_at "m go3"
          exact ⟨rfl, keeps_tok _ _⟩
        case helt2 =>
          rintro C' i' v' s₄ m₄ E'' hi' - F14 hm'
          walk_at "m go3"
          exact ⟨rfl, keeps_tok _ _⟩
        case fin2 =>
          rintro D4 ys4 c4 vs4 h9 tk9 F14 N14 e14 hD4 hlen4 hP4 hF4
          rw [filter_all] at hF4
          obtain rfl := paired_same hF4
          have e4 := list_of_idx hlen4 hP4
          exact ⟨⟨D4, vs4.toArray, rfl, hD4, isList_of (N14.get (.head _)), T, o, its0, n0, r, rfl, hTo, hod, hr2, by rw [e4]; exact hr2⟩, keeps_of e14⟩
      case fin =>
        rintro D3 ys3 c3 vs3 objs3 h8 tk8 F13 N13 hD3 hobjs3 hlen3 hP3 hF3
        rw [filter_all, list_of_idx hlen3 hP3] at hF3
        change Fr s.heap L h8 _ at F13
        change News s.heap L h8 _ at N13
        obtain ⟨hl3, hrows⟩ := rows_at (News.sub N12 fun p hp => .tail _ (.tail _ (List.mem_append_left _ hp))) hrs hvs hF1 hF3
        clear hF1 hF3 F12 N12 hP1 hP3 hobjs1
        walk_at "m go3"
        rename Fr _ _ _ _ => F14
        rename News _ _ _ _ => N14
        have N15 : News s.heap L h8 ((D3, lst ys3 c3) :: (L + 1, _) :: objs3) := News.sub N14 (by
          intro p hp
          rcases List.mem_cons.mp hp with rfl | hp
          · exact .head _
          · rcases List.mem_cons.mp hp with rfl | hp
            · exact .tail _ (List.mem_append_right _ (ms2 (.tail _ (.tail _ (.head _)))))
            · exact .tail _ (List.mem_append_left _ hp))
        clear N14 ms ms2 gsep1 gcur1 gcur2 e6 e7 hD1 hD2 hD3 hobjs3 hlen1 hlen3 hcur
        have hn0 : 0 < rs.length := by cases rs with | nil => exact absurd rfl hr0 | cons _ _ => simp
        obtain ⟨ra, hra⟩ : ∃ ra, rs[0]? = some ra := ⟨_, List.getElem?_eq_getElem hn0⟩
        obtain ⟨rb, hrb⟩ : ∃ rb, rs[rs.length - 1]? = some rb := ⟨_, List.getElem?_eq_getElem (by omega)⟩
        have hu1 := hr'.units
        refine call_min_at (n := ys3.length) (P := fun i v => ys3[i]? = some v) (by omega) ?_
        refine Iter.at (Iter.list (L := L) (vs := ys3) hr'.handled (isList_of (N15.get (.head _))) (N15 _ (.head _)).2.1 F14.ns.lt) rfl fun I fp wr St h9 tk9 W hLf hst e9 hsz9 hwr9 hfp9 hlive9 => ?_
        refine ⟨I, fp, wr, St, rfl, W, hst, hfp9, ?_, ?_⟩
        · intro S hS j vi vj s' Q E hoff hj hvi hvj hq
          have live : ∀ p ∈ objs3, s'.heap.get? p.1 = some p.2 := fun p hp => by
            have hp8 := (N15 p (.tail _ (.tail _ hp))).1
            refine hoff p.1 p.2 (fun hw => ?_) (fun e => ?_) (e9 _ _ hp8)
            · have := hwr9 _ hw; rw [hp8] at this; cases this
            · rw [← e, e9 _ _ hp8] at hS; cases hS
          obtain ⟨rj, hrj⟩ : ∃ rj, rs[j + 1]? = some rj := ⟨_, List.getElem?_eq_getElem (by omega)⟩
          obtain ⟨T1, o1, its1, n1, hy1, hm1, hc1, hd1, hs1⟩ := hrows (j + 1) rj hrj
          obtain ⟨T2, o2, its2, n2, hy2, hm2, hc2, hd2, hs2⟩ := hrows 0 ra hra
          obtain rfl := Option.some.inj (hvi.symm.trans hy1)
          obtain rfl := Option.some.inj (hvj.symm.trans hy2)
          obtain ⟨jj, x, y, q1, q2, q3, q4⟩ := (hord 0 (j + 1) ra rj (by omega) hra hrj).lists
          refine lt_lists (xs := its1.toList) (ys := its2.toList) ⟨o1, live _ hm1, hc1, n1, hd1⟩ ⟨o2, live _ hm2, hc2, n2, hd2⟩ hs1 hs2 q1.symm q3 q2 (ch_ne (by omega)) (Nat.lt_of_le_of_lt (Nat.add_le_add_left (by decide : 1 ≤ 397) _) hu1) ?_
          rw [decide_eq_false (by rw [ch_lt]; omega)]
          exact hq
        · intro v h10 tk10 hv hk
          obtain ⟨T2, o2, its2, n2, hy2, hm2, hc2, hd2, hs2⟩ := hrows 0 ra hra
          obtain rfl := Option.some.inj (hv.symm.trans hy2)
          have ex : Ext h8 h10 := fun b o q => hk b o (fun hb => by rw [hwr9 b hb] at q; cases q) (e9 b o q)
          have F15 := Fr.ext F14 ex
          have N16 := News.ext N15 ex
          clear F14 N15
          walk_at "m go3"
          rename Fr _ _ _ _ => F17
          rename News _ _ _ _ => N17
          refine call_max_at (n := ys3.length) (P := fun i v => ys3[i]? = some v) (by omega) ?_
          refine Iter.at (Iter.list (L := L) (vs := ys3) hr'.handled (isList_of (N17.get (.head _))) (N17 _ (.head _)).2.1 F17.ns.lt) rfl fun I fp wr St h11 tk11 W hLf hst e11 hsz11 hwr11 hfp11 hlive11 => ?_
          refine ⟨I, fp, wr, St, rfl, W, hst, hfp11, ?_, ?_⟩
          · intro S hS j vi vj s' Q E hoff hj hvi hvj hq
            have live : ∀ p ∈ objs3, s'.heap.get? p.1 = some p.2 := fun p hp => by
              have hp8 := (N17 p (.tail _ (.tail _ hp))).1
              refine hoff p.1 p.2 (fun hw => ?_) (fun e => ?_) (e11 _ _ hp8)
              · have := hwr11 _ hw; rw [hp8] at this; cases this
              · rw [← e, e11 _ _ hp8] at hS; cases hS
            obtain ⟨rj, hrj⟩ : ∃ rj, rs[j + 1]? = some rj := ⟨_, List.getElem?_eq_getElem (by omega)⟩
            obtain ⟨ri, hri⟩ : ∃ ri, rs[j]? = some ri := ⟨_, List.getElem?_eq_getElem (by omega)⟩
            obtain ⟨T1, o1, its1, n1, hy1, hm1, hc1, hd1, hs1⟩ := hrows (j + 1) rj hrj
            obtain ⟨T4, o4, its4, n4, hy4, hm4, hc4, hd4, hs4⟩ := hrows j ri hri
            obtain rfl := Option.some.inj (hvi.symm.trans hy1)
            obtain rfl := Option.some.inj (hvj.symm.trans hy4)
            obtain ⟨jj, x, y, q1, q2, q3, q4⟩ := (hord j (j + 1) ri rj (by omega) hri hrj).lists
            refine gt_lists (xs := its1.toList) (ys := its4.toList) ⟨o1, live _ hm1, hc1, n1, hd1⟩ ⟨o4, live _ hm4, hc4, n4, hd4⟩ hs1 hs4 q1.symm q3 q2 (ch_ne (by omega)) (Nat.lt_of_le_of_lt (Nat.add_le_add_left (by decide : 1 ≤ 397) _) hu1) ?_
            rw [decide_eq_true (by rw [ch_lt]; omega)]
            exact hq
          · intro v h12 tk12 hv hk
            obtain ⟨T4, o4, its4, n4, hy4, hm4, hc4, hd4, hs4⟩ := hrows (rs.length - 1) rb hrb
            rw [hl3] at hv
            obtain rfl := Option.some.inj (hv.symm.trans hy4)
            have ex2 : Ext _ h12 := fun b o q => hk b o (fun hb => by rw [hwr11 b hb] at q; cases q) (e11 b o q)
            have F18 := Fr.ext F17 ex2
            have NE := News.ext N17 ex2
            have N18 := News.cons (NE _ (.tail _ (.head _))) (News.cons (NE _ (.tail _ (.tail _ hm2))) (News.cons (NE _ (.tail _ (.tail _ hm4))) News.nil))
            clear NE
            have hra5 := (hrs ra (List.mem_of_getElem? hra)).2
            have hrb5 := (hrs rb (List.mem_of_getElem? hrb)).2
            clear F17 N17 hrows hrs hord hvs
            walk_at "m go3"
            rename Fr _ _ _ _ => F19
            rename News _ _ _ _ => N19
            refine wpAny_mono (Q := fun (f : Flow) (s' : Shared) => f = Flow.next ∧ ∃ h tk m₁ oS C oC itsC nC tS, s' = { s with heap := h, toks := tk } ∧ Fr s.heap L h m₁ ∧ News s.heap L h [(L + 1, oS), (C, oC)] ∧ oS.data = .cell (some (.str (Str.ofString "/") tS)) ∧ m₁ (Str.ofString "common") = some (.ref C) ∧ m₁ (Str.ofString "isabs") = some (.bool false) ∧ oC.cls = .type "list" ∧ oC.data = .seq itsC nC ∧ StrsAre itsC.toList ((cpre ra rb).map ch)) ?cfor ?crest (fun _ _ e => e)
            case cfor =>
              refine' For_pair3F F19 hr'.handled ?hxi ?hxc ?hp ?_ ?hs ?hE
              case hxi => rfl
              case hxc => rfl
              case hp => rfl
              case hs => intro _; rfl
              case hE => first | assumption | passes_own
              walk_at "m go3"
              refine enum_list (vs := its2.toList) (fun i m => ra.take i = rb.take i ∧ m (Str.ofString "common") = some (.ref T2) ∧ m (Str.ofString "s1") = some (.ref T2) ∧ m (Str.ofString "s2") = some (.ref T4) ∧ m (Str.ofString "isabs") = some (.bool false)) hr'.handled ⟨o2, N19.get (.tail _ (.head _)), hc2, n2, hd2⟩ (N19 _ (.tail _ (.head _))).2.1 F19 N19 ?hj ?turn ?done rfl
              case hj => exact ⟨rfl, rfl, rfl, rfl, rfl⟩
              case turn =>
                rintro i v t m₁ h tk own hi ⟨htk, g1, g2, g3, g4⟩ F20 N20
                obtain ⟨c, tc, hc, rfl⟩ := charItem hs2 hi
                have hi5 : i < 5 := by have := (List.getElem?_eq_some_iff.mp hc).1; omega
                obtain ⟨d, hd⟩ : ∃ d, rb[i]? = some d := ⟨_, List.getElem?_eq_getElem (by omega)⟩
                obtain ⟨td, htd⟩ := hs4.get i (ch d) (by rw [List.getElem?_map, hd]; rfl)
                walk_at "m ec"
                walk_at "m go3"
                have hl4 : Heap.IsList h T4 its4 := ⟨o4, News.get N20 (List.mem_append_right _ (.tail _ (.tail _ (.head _)))), hc4, n4, hd4⟩
                refine item_listL hl4 (by omega) (by omega) (by simpa using htd) ?_
                by_cases hcd : c = d
                · subst hcd
                  have hne : (ch c != ch c) = false := by simp
                  walk_at "m go3"
                  walk_at "m end"
                  exact ⟨by rw [List.take_add_one, List.take_add_one, htk, hc, hd], g1, g2, g3, g4⟩
                · have hne : (ch c != ch d) = true := bne_iff_ne.mpr (ch_ne hcd)
                  walk_at "m go3"
                  rename Fr _ _ _ _ => F21
                  rename News _ _ _ _ => N21
                  refine' slice_upto (vs := its2.toList) F21 N21 ⟨o2, News.get N21 (List.mem_append_right _ (.tail _ (.head _))), hc2, n2, hd2⟩ hs2 (by omega) (by rw [hs2.len_eq, List.length_map]; omega) ?_ ?hs ?ht
                  case hs => with_unfolding_all rfl
                  case ht => kmk_pure
                  intro D5 ws5 h13 F22 N22 hws
                  walk_at "m go3"
                  rename Fr _ _ _ _ => F23
                  rename News _ _ _ _ => N23
                  refine ⟨rfl, _, _, _, _, D5, lst ws5, ws5.toArray, _, _, rfl, F23, News.sub N23 (fun p hp => ?_), hsep, rfl, g4, rfl, rfl, ?_⟩
                  · rcases List.mem_cons.mp hp with rfl | hp
                    · exact .tail _ (List.mem_append_right _ (.head _))
                    · rw [List.mem_singleton.mp hp]; exact .head _
                  · rw [cpre_at htk hc hd hcd, List.map_take]
                    simpa using hws
              case done =>
                rintro m₁ h tk ⟨htk, g1, g2, g3, g4⟩ F20 N20
                have e : its2.toList.length = 5 := by rw [hs2.len_eq, List.length_map, hra5]
                rw [e, List.take_of_length_le (by omega), List.take_of_length_le (by omega)] at htk
                subst htk
                refine ⟨rfl, h, tk, m₁, _, T2, o2, its2, n2, _, rfl, F20, News.sub N20 (fun p hp => ?_), hsep, g1, g4, hc2, hd2, ?_⟩
                · rcases List.mem_cons.mp hp with rfl | hp
                  · exact .head _
                  · rw [List.mem_singleton.mp hp]; exact .tail _ (.head _)
                · rw [cpre_self]; exact hs2
            case crest =>
              rintro f s' ⟨rfl, h, tk, m₁, oS, C, oC, itsC, nC, tS, rfl, F20, N20, hsep2, g1, g4, hcC, hdC, hsC⟩
              walk_at "m go3"
              walk1
              walk_at "m go3"
              rename Fr _ _ _ _ => F24
              rename News _ _ _ _ => N24
              have hcl : (cpre ra rb).length ≤ 5 := Nat.le_trans (cpre_len ra rb) (Nat.le_of_eq hra5)
              refine join_strs (vs := itsC.toList) ⟨oC, News.get N24 (.tail _ (.head _)), hcC, nC, hdC⟩ hsC ?_ ?_
              · rw [sum_ch, List.length_map, slash_is, mkS_len]; simp; omega
              intro t9 k9
              rw [join_path]
              refine PyProof.Rows.add_str ?_ ?_
              rotate_left
              · rw [show (Str.ofString "").length = 0 by decide +kernel, mkS_len, sizeLine_eq]
                have := pathOf_len hcl
                omega
              intro t10 k10
              rw [show Str.ofString "" = mkS [] by decide +kernel, mkS_append, List.nil_append]
              walk_at "m hd"
              refine hR _ _ _ F24.keep ⟨_, ra, rb, ?_, ?_, rfl⟩
              · rw [List.head?_eq_getElem?]; exact hra
              · rw [List.getLast?_eq_getElem?]; exact hrb
end
end
section
section
theorem d16 (n q : Nat) : n / q / 16 = n / (q * 16) := Nat.div_div_eq_div_mul n q 16
theorem eq16 (x y : Nat) : x = y ↔ x / 16 = y / 16 ∧ x % 16 = y % 16 := by
  constructor
  · rintro rfl; exact ⟨rfl, rfl⟩
  · rintro ⟨h1, h2⟩
    rw [← Nat.div_add_mod x 16, ← Nat.div_add_mod y 16, h1, h2]
theorem eqd (n a q : Nat) : n / q = a / q ↔ n / (q * 16) = a / (q * 16) ∧ n / q % 16 = a / q % 16 := by
  rw [eq16 (n / q), d16, d16]
theorem dig4 {n : Nat} (h : n < 1048576) : n / 65536 % 16 = n / 65536 := Nat.mod_eq_of_lt (Nat.div_lt_of_lt_mul h)
theorem up16 {a b q : Nat} (h : a / q = b / q) : a / (q * 16) = b / (q * 16) := by rw [← d16, h, d16]
theorem dne {a b q : Nat} (h : a / q ≠ b / q) (h1 : a / (q * 16) = b / (q * 16)) : 65 + a / q % 16 ≠ 65 + b / q % 16 := fun e => h ((eqd a b q).mpr ⟨h1, Nat.add_left_cancel e⟩)
theorem dne0 {a b : Nat} (h : a ≠ b) (h1 : a / 16 = b / 16) : 65 + a % 16 ≠ 65 + b % 16 := fun e => h ((eq16 a b).mpr ⟨h1, Nat.add_left_cancel e⟩)
theorem dlt {a b q : Nat} (h0 : a < b) (h : ¬ a / q = b / q) (h1 : a / (q * 16) = b / (q * 16)) : 65 + a / q % 16 < 65 + b / q % 16 := by
  have hl : a / q < b / q := Nat.lt_of_le_of_ne (Nat.div_le_div_right (Nat.le_of_lt h0)) h
  rw [← d16, ← d16] at h1
  generalize a / q = x at hl h1 ⊢
  generalize b / q = y at hl h1 ⊢
  omega
theorem prd {n q : Nat} (hq : 0 < q) (h : n % q ≠ 0) : (n - 1) / q = n / q := by
  have e := Nat.div_add_mod n q
  have hl := Nat.mod_lt n hq
  refine Nat.div_eq_of_lt_le ?_ ?_
  · rw [Nat.mul_comm]
    generalize q * (n / q) = x at e ⊢
    omega
  · rw [Nat.add_mul, Nat.one_mul, Nat.mul_comm]
    generalize q * (n / q) = x at e ⊢
    omega
theorem prdne {n q : Nat} (h : n % q = 0) (h1 : 1 ≤ n) : (n - 1) / q ≠ n / q := fun e => by
  have a := Nat.div_mul_le_self (n - 1) q
  rw [e, Nat.div_mul_cancel (Nat.dvd_of_mod_eq_zero h)] at a
  omega
theorem lets_lt {a b : Nat} (h : a < b) (hb : b < 1048576) : LtAt (lets a) (lets b) := by
  by_cases h0 : a / 65536 = b / 65536
  · by_cases h1 : a / 4096 = b / 4096
    · by_cases h2 : a / 256 = b / 256
      · by_cases h3 : a / 16 = b / 16
        · refine ⟨4, 65 + a % 16, 65 + b % 16, ?_, rfl, rfl, by omega⟩
          simp only [lets, List.take_succ_cons, List.take_zero]
          rw [h0, h1, h2, h3]
        · refine ⟨3, 65 + a / 16 % 16, 65 + b / 16 % 16, ?_, rfl, rfl, dlt h h3 h2⟩
          simp only [lets, List.take_succ_cons, List.take_zero]
          rw [h0, h1, h2]
      · refine ⟨2, 65 + a / 256 % 16, 65 + b / 256 % 16, ?_, rfl, rfl, dlt h h2 h1⟩
        simp only [lets, List.take_succ_cons, List.take_zero]
        rw [h0, h1]
    · refine ⟨1, 65 + a / 4096 % 16, 65 + b / 4096 % 16, ?_, rfl, rfl, dlt h h1 h0⟩
      simp only [lets, List.take_succ_cons, List.take_zero]
      rw [h0]
  · exact ⟨0, 65 + a / 65536 % 16, 65 + b / 65536 % 16, rfl, rfl, rfl, dlt h h0 (by omega)⟩
theorem cpre_lets {a b j : Nat} (ha : a < 1048576) (hb : b < 1048576) (h1 : a / 16 ^ j = b / 16 ^ j) (h2 : ∀ i, i < j → a / 16 ^ i ≠ b / 16 ^ i) (h5 : j ≤ 5) : cpre (lets a) (lets b) = (lets a).take (5 - j) := by
  match j, h5 with
  | 0, _ =>
    have e : a = b := by simpa using h1
    subst e
    rw [cpre_self]; rfl
  | 1, _ =>
    have h3 := h2 0 (by omega)
    simp only [Nat.pow_zero, Nat.div_one] at h3
    have h1 : a / 16 = b / 16 := h1
    refine cpre_at (i := 4) (c := 65 + a % 16) (d := 65 + b % 16) ?_ rfl rfl (dne0 h3 h1)
    simp only [lets, List.take_succ_cons, List.take_zero]
    have h256 : a / 256 = b / 256 := up16 h1
    have h4096 : a / 4096 = b / 4096 := up16 h256
    rw [show a / 65536 = b / 65536 from up16 h4096, h4096, h256, h1]
  | 2, _ =>
    have h3 : a / 16 ≠ b / 16 := h2 1 (by omega)
    have h1 : a / 256 = b / 256 := h1
    refine cpre_at (i := 3) (c := 65 + a / 16 % 16) (d := 65 + b / 16 % 16) ?_ rfl rfl (dne h3 h1)
    simp only [lets, List.take_succ_cons, List.take_zero]
    have h4096 : a / 4096 = b / 4096 := up16 h1
    rw [show a / 65536 = b / 65536 from up16 h4096, h4096, h1]
  | 3, _ =>
    have h3 : a / 256 ≠ b / 256 := h2 2 (by omega)
    have h1 : a / 4096 = b / 4096 := h1
    refine cpre_at (i := 2) (c := 65 + a / 256 % 16) (d := 65 + b / 256 % 16) ?_ rfl rfl (dne h3 h1)
    simp only [lets, List.take_succ_cons, List.take_zero]
    rw [show a / 65536 = b / 65536 from up16 h1, h1]
  | 4, _ =>
    have h3 : a / 4096 ≠ b / 4096 := h2 3 (by omega)
    have h1 : a / 65536 = b / 65536 := h1
    refine cpre_at (i := 1) (c := 65 + a / 4096 % 16) (d := 65 + b / 4096 % 16) ?_ rfl rfl (dne h3 h1)
    simp only [lets, List.take_succ_cons, List.take_zero]
    rw [h1]
  | 5, _ =>
    have h3 : a / 65536 ≠ b / 65536 := h2 4 (by omega)
    exact cpre_at (i := 0) (c := 65 + a / 65536 % 16) (d := 65 + b / 65536 % 16) rfl rfl rfl (dne h3 (by rw [Nat.div_eq_of_lt ha, Nat.div_eq_of_lt hb]))
def mt (nm : List Nat) : List Nat → Nat → Bool
  | [], _ => true
  | b :: r, p => keepS nm b p && mt nm r (p + 1)
theorem walkS_mt (nm : List Nat) : ∀ (cs sp : List Nat), walkS nm cs sp = (sp.filter (mt nm cs)).map (· + cs.length)
  | [], sp => by
    rw [walkS, show mt nm [] = fun _ => true from rfl, filter_all]
    simp
  | b :: r, sp => by
    rw [walkS, walkS_mt nm r, stepS, List.filter_map, List.filter_filter, List.map_map]
    congr 1
    · funext x
      simp only [Function.comp, List.length_cons]; omega
    · congr 1
      funext x
      simp only [Function.comp, mt]
      exact Bool.and_comm _ _
theorem mt_le {nm : List Nat} : ∀ {cs : List Nat} {p : Nat}, mt nm cs p = true → cs ≠ [] → p + cs.length ≤ nm.length
  | [], _, _, h => absurd rfl h
  | [b], p, h, _ => by
    simp only [mt, keepS, Bool.and_true, Bool.and_eq_true, decide_eq_true_eq] at h
    simp only [List.length_cons, List.length_nil]; omega
  | b :: c :: r, p, h, _ => by
    have h' : mt nm (c :: r) (p + 1) = true := by
      unfold mt at h
      exact (Bool.and_eq_true _ _ ▸ h).2
    have := mt_le h' (by simp)
    simp only [List.length_cons] at this ⊢; omega
/-- a pattern without a star -/
theorem takes_plain (nm cs : List Nat) : decide ((walkS nm cs [0]).getLast? = some nm.length) = (mt nm cs 0 && decide (cs.length = nm.length)) := by
  rw [walkS_mt]
  cases h : mt nm cs 0 with
  | false => rw [List.filter_cons_of_neg (by rw [h]; simp)]; simp
  | true => rw [List.filter_cons_of_pos h]; simp
/-- a pattern with a star ahead -/
theorem takes_starred (nm cs : List Nat) (h0 : cs ≠ []) (hl : cs.length ≤ nm.length) : decide ((walkS nm cs (List.range (nm.length + 1))).getLast? = some nm.length) = mt nm cs (nm.length - cs.length) := by
  rw [walkS_mt]
  have hlast : ∀ k, ((List.range k).filter (mt nm cs)).getLast? = some (nm.length - cs.length) → mt nm cs (nm.length - cs.length) = true := by
    intro k hk
    have := List.mem_of_getLast? hk
    exact (List.mem_filter.mp this).2
  cases h : mt nm cs (nm.length - cs.length) with
  | false =>
    apply decide_eq_false
    intro q
    rw [List.getLast?_map] at q
    obtain ⟨x, hx, hx2⟩ := Option.map_eq_some_iff.mp q
    have e : x = nm.length - cs.length := by omega
    subst e
    rw [hlast _ hx] at h; cases h
  | true =>
    apply decide_eq_true
    rw [List.getLast?_map]
    have split : List.range (nm.length + 1) = List.range (nm.length - cs.length + 1) ++ (List.range cs.length).map (· + (nm.length - cs.length + 1)) := by
      have := List.range_add (n := nm.length - cs.length + 1) (m := cs.length)
      rw [show nm.length - cs.length + 1 + cs.length = nm.length + 1 by omega] at this
      rw [this]
      congr 1
      refine List.map_congr_left fun x _ => by omega
    have none : ((List.range cs.length).map (· + (nm.length - cs.length + 1))).filter (mt nm cs) = [] := by
      apply List.filter_eq_nil_iff.mpr
      intro x hx hm
      obtain ⟨y, _, rfl⟩ := List.mem_map.mp hx
      have := mt_le hm h0
      omega
    rw [split, List.filter_append, none, List.append_nil, List.range_succ, List.filter_append, List.filter_cons_of_pos h, List.filter_nil, List.getLast?_append]
    simp
    omega
theorem path_lets (n : Nat) : pathOf (lets n) = [65 + n / 65536 % 16, 47, 65 + n / 4096 % 16, 47, 65 + n / 256 % 16, 47, 65 + n / 16 % 16, 47, 65 + n % 16] := rfl
theorem let46 (x : Nat) : (65 + x == 46) = false := by simp; omega
theorem qm_let (x : Nat) : qm (65 + x) = 65 + x := by rw [qm, if_neg (by omega)]
theorem qm_slash : qm 47 = 47 := rfl
theorem qm_dot : qm 63 = 46 := rfl
section
variable {n a : Nat} (hn : n < 1048576) (ha : a < 1048576)
include hn ha
theorem eqd4 : n / 65536 % 16 = a / 65536 % 16 ↔ n / 65536 = a / 65536 := by rw [dig4 hn, dig4 ha]
theorem eqd3 : (n / 65536 % 16 = a / 65536 % 16 ∧ n / 4096 % 16 = a / 4096 % 16) ↔ n / 4096 = a / 4096 := by rw [eqd4 hn ha, eqd n a 4096]
theorem eqd2 : (n / 65536 % 16 = a / 65536 % 16 ∧ n / 4096 % 16 = a / 4096 % 16 ∧ n / 256 % 16 = a / 256 % 16) ↔ n / 256 = a / 256 := by rw [← and_assoc, eqd3 hn ha, eqd n a 256]
theorem eqd1 : (n / 65536 % 16 = a / 65536 % 16 ∧ n / 4096 % 16 = a / 4096 % 16 ∧ n / 256 % 16 = a / 256 % 16 ∧ n / 16 % 16 = a / 16 % 16) ↔ n / 16 = a / 16 := by rw [← and_assoc, ← and_assoc, and_assoc (a := n / 65536 % 16 = a / 65536 % 16), eqd2 hn ha, eqd n a 16]
theorem eqd0 : (n / 65536 % 16 = a / 65536 % 16 ∧ n / 4096 % 16 = a / 4096 % 16 ∧ n / 256 % 16 = a / 256 % 16 ∧ n / 16 % 16 = a / 16 % 16 ∧ n % 16 = a % 16) ↔ n = a := by
  rw [eq16 n a, ← eqd1 hn ha, and_assoc, and_assoc, and_assoc]
end
theorem zmod (n q : Nat) : n % (16 * q) = 0 ↔ n % 16 = 0 ∧ n / 16 % q = 0 := by
  rw [Nat.mod_mul]
  omega
/-- the law's pattern of a block -/
abbrev blockRow (a j : Nat) : List Nat := (lets a).take (5 - j) ++ List.replicate j 63
theorem block_takes {a n j : Nat} (ha : a < 1048576) (hn : n < 1048576) (h5 : j ≤ 5) :
    decide ((walkS (pathOf (lets n)) ((pathOf (blockRow a j)).map qm) [0]).getLast? = some (pathOf (lets n)).length) = decide (n / 16 ^ j = a / 16 ^ j) := by
  rw [takes_plain, path_lets]
  match j, h5 with
  | 0, _ =>
    rw [show (pathOf (blockRow a 0)).map qm = [qm (65 + a / 65536 % 16), 47, qm (65 + a / 4096 % 16), 47, qm (65 + a / 256 % 16), 47, qm (65 + a / 16 % 16), 47, qm (65 + a % 16)] from rfl]
    simp only [qm_let, Nat.pow_zero, Nat.div_one]
    rw [Bool.eq_iff_iff]
    simp [mt, keepS, let46]
    exact eqd0 hn ha
  | 1, _ =>
    rw [show (pathOf (blockRow a 1)).map qm = [qm (65 + a / 65536 % 16), 47, qm (65 + a / 4096 % 16), 47, qm (65 + a / 256 % 16), 47, qm (65 + a / 16 % 16), 47, 46] from rfl]
    simp only [qm_let, show (16 : Nat) ^ 1 = 16 from rfl]
    rw [Bool.eq_iff_iff]
    simp [mt, keepS, let46]
    exact eqd1 hn ha
  | 2, _ =>
    rw [show (pathOf (blockRow a 2)).map qm = [qm (65 + a / 65536 % 16), 47, qm (65 + a / 4096 % 16), 47, qm (65 + a / 256 % 16), 47, 46, 47, 46] from rfl]
    simp only [qm_let, show (16 : Nat) ^ 2 = 256 from rfl]
    rw [Bool.eq_iff_iff]
    simp [mt, keepS, let46]
    exact eqd2 hn ha
  | 3, _ =>
    rw [show (pathOf (blockRow a 3)).map qm = [qm (65 + a / 65536 % 16), 47, qm (65 + a / 4096 % 16), 47, 46, 47, 46, 47, 46] from rfl]
    simp only [qm_let, show (16 : Nat) ^ 3 = 4096 from rfl]
    rw [Bool.eq_iff_iff]
    simp [mt, keepS, let46]
    exact eqd3 hn ha
  | 4, _ =>
    rw [show (pathOf (blockRow a 4)).map qm = [qm (65 + a / 65536 % 16), 47, 46, 47, 46, 47, 46, 47, 46] from rfl]
    simp only [qm_let, show (16 : Nat) ^ 4 = 65536 from rfl]
    rw [Bool.eq_iff_iff]
    simp [mt, keepS, let46]
    exact eqd4 hn ha
  | 5, _ =>
    rw [show (pathOf (blockRow a 5)).map qm = [46, 47, 46, 47, 46, 47, 46, 47, 46] from rfl]
    simp only [show (16 : Nat) ^ 5 = 1048576 from rfl]
    rw [Bool.eq_iff_iff]
    simp [mt, keepS]
    omega
def starTail : Nat → List Nat
  | 0 => []
  | k + 1 => 47 :: 65 :: starTail k
theorem star_path (k : Nat) : joinL [42] (List.replicate k [65]) = 42 :: starTail k := by
  have h : ∀ (k : Nat) (p : List Nat), joinL p (List.replicate k [65]) = p ++ starTail k := by
    intro k
    induction k with
    | zero => intro p; simp [joinL, starTail]
    | succ k ih =>
      intro p
      rw [List.replicate_succ]
      show joinL (p ++ 47 :: [65]) (List.replicate k [65]) = _
      rw [ih]; simp [starTail]
  rw [h]; rfl
theorem star_takes {n k : Nat} (hn : n < 1048576) (h1 : 1 ≤ k) (h4 : k ≤ 4) :
    decide ((walkS (pathOf (lets n)) (starTail k) (List.range ((pathOf (lets n)).length + 1))).getLast? = some (pathOf (lets n)).length) = decide (n % 16 ^ k = 0) := by
  match k, h1, h4 with
  | 1, _, _ =>
    rw [takes_starred _ _ (by simp [starTail]) (by simp [starTail, path_lets]), path_lets]
    rw [Bool.eq_iff_iff]
    simp [mt, keepS, starTail]
  | 2, _, _ =>
    rw [takes_starred _ _ (by simp [starTail]) (by simp [starTail, path_lets]), path_lets]
    rw [Bool.eq_iff_iff]
    simp [mt, keepS, starTail]
    exact and_comm.trans (zmod n 16).symm
  | 3, _, _ =>
    rw [takes_starred _ _ (by simp [starTail]) (by simp [starTail, path_lets]), path_lets]
    rw [Bool.eq_iff_iff]
    simp [mt, keepS, starTail]
    rw [show n % 4096 = 0 ↔ _ from zmod n 256, show n / 16 % 256 = 0 ↔ _ from zmod (n / 16) 16, d16]
    exact ⟨fun ⟨x, y, z⟩ => ⟨z, y, x⟩, fun ⟨x, y, z⟩ => ⟨z, y, x⟩⟩
  | 4, _, _ =>
    rw [takes_starred _ _ (by simp [starTail]) (by simp [starTail, path_lets]), path_lets]
    rw [Bool.eq_iff_iff]
    simp [mt, keepS, starTail]
    rw [show n % 65536 = 0 ↔ _ from zmod n 4096, show n / 16 % 4096 = 0 ↔ _ from zmod (n / 16) 256, show n / 16 / 16 % 256 = 0 ↔ _ from zmod (n / 16 / 16) 16, d16, d16]
    exact ⟨fun ⟨x, y, z, u⟩ => ⟨u, z, y, x⟩, fun ⟨x, y, z, u⟩ => ⟨u, z, y, x⟩⟩
def vN (n : Nat) : Nat := if n % 16 = 0 then (if n % 256 = 0 then (if n % 4096 = 0 then (if n % 65536 = 0 then 4 else 3) else 2) else 1) else 0
theorem vN_le (n : Nat) : vN n ≤ 4 := by
  unfold vN
  repeat' split
  all_goals omega
theorem v16_nat (n : Nat) : v16 (n : Int) = (vN n : Int) := by
  unfold v16 vN
  repeat' split
  all_goals first | rfl | (exfalso; omega)
theorem vN_cases (n : Nat) (P : Nat → Prop) (h0 : n % 16 ≠ 0 → P 0) (h1 : n % 16 = 0 → n % 256 ≠ 0 → P 1) (h2 : n % 256 = 0 → n % 4096 ≠ 0 → P 2) (h3 : n % 4096 = 0 → n % 65536 ≠ 0 → P 3) (h4 : n % 65536 = 0 → P 4) : P (vN n) := by
  unfold vN
  split
  · split
    · split
      · split
        · exact h4 (by assumption)
        · exact h3 (by assumption) (by assumption)
      · exact h2 (by assumption) (by assumption)
    · exact h1 (by assumption) (by assumption)
  · exact h0 (by assumption)
/-- how many of the four patterns take a number's path -/
theorem count_stars {n : Nat} : ([1, 2, 3, 4].filter fun k => decide (n % 16 ^ k = 0)).length = vN n := by
  rw [List.filter_cons, List.filter_cons, List.filter_cons, List.filter_cons, List.filter_nil]
  simp only [show (16 : Nat) ^ 1 = 16 from rfl, show (16 : Nat) ^ 2 = 256 from rfl, show (16 : Nat) ^ 3 = 4096 from rfl, show (16 : Nat) ^ 4 = 65536 from rfl, decide_eq_true_eq]
  unfold vN
  repeat' split
  all_goals first | rfl | (exfalso; omega)
theorem cpre_next {n : Nat} (h1 : 1 ≤ n) (hn : n < 1048576) : cpre (lets (n - 1)) (lets n) = (lets n).take (4 - vN n) ∧ (lets (n - 1)).take (4 - vN n) = (lets n).take (4 - vN n) := by
  have key : ∀ {i c d : Nat}, (lets (n - 1)).take i = (lets n).take i → (lets (n - 1))[i]? = some c → (lets n)[i]? = some d → c ≠ d → cpre (lets (n - 1)) (lets n) = (lets n).take i ∧ (lets (n - 1)).take i = (lets n).take i :=
    fun e h2 h3 h4 => ⟨(cpre_at e h2 h3 h4).trans e, e⟩
  refine vN_cases n (fun v => cpre (lets (n - 1)) (lets n) = (lets n).take (4 - v) ∧ (lets (n - 1)).take (4 - v) = (lets n).take (4 - v)) ?_ ?_ ?_ ?_ ?_
  · intro h
    have e1 : (n - 1) / 16 = n / 16 := prd (by decide) h
    have e2 : (n - 1) / 256 = n / 256 := up16 e1
    have e3 : (n - 1) / 4096 = n / 4096 := up16 e2
    refine key (c := 65 + (n - 1) % 16) (d := 65 + n % 16) ?_ rfl rfl (dne0 (Nat.ne_of_lt (Nat.sub_lt h1 Nat.one_pos)) e1)
    simp only [lets, List.take_succ_cons, List.take_zero, Nat.sub_zero]
    rw [show (n - 1) / 65536 = n / 65536 from up16 e3, e3, e2, e1]
  · intro h h'
    have e2 : (n - 1) / 256 = n / 256 := prd (by decide) h'
    have e3 : (n - 1) / 4096 = n / 4096 := up16 e2
    refine key (i := 3) (c := 65 + (n - 1) / 16 % 16) (d := 65 + n / 16 % 16) ?_ rfl rfl (dne (prdne h h1) e2)
    simp only [lets, List.take_succ_cons, List.take_zero]
    rw [show (n - 1) / 65536 = n / 65536 from up16 e3, e3, e2]
  · intro h h'
    have e3 : (n - 1) / 4096 = n / 4096 := prd (by decide) h'
    refine key (i := 2) (c := 65 + (n - 1) / 256 % 16) (d := 65 + n / 256 % 16) ?_ rfl rfl (dne (prdne h h1) e3)
    simp only [lets, List.take_succ_cons, List.take_zero]
    rw [show (n - 1) / 65536 = n / 65536 from up16 e3, e3]
  · intro h h'
    have e4 : (n - 1) / 65536 = n / 65536 := prd (by decide) h'
    refine key (i := 1) (c := 65 + (n - 1) / 4096 % 16) (d := 65 + n / 4096 % 16) ?_ rfl rfl (dne (prdne h h1) e4)
    simp only [lets, List.take_succ_cons, List.take_zero]
    rw [e4]
  · intro h
    exact key (i := 0) (c := 65 + (n - 1) / 65536 % 16) (d := 65 + n / 65536 % 16) rfl rfl rfl (dne (prdne h h1) (by rw [Nat.div_eq_of_lt hn, Nat.div_eq_of_lt (Nat.lt_of_le_of_lt (Nat.sub_le n 1) hn)]))
theorem path_len : ∀ l : List Nat, ((pathOf l).length + 1) / 2 = l.length
  | [] => rfl
  | c :: r => by
    have h : ∀ (r : List Nat) (p : List Nat), (joinL p (r.map fun d => [d])).length = p.length + 2 * r.length := by
      intro r
      induction r with
      | nil => intro p; simp [joinL]
      | cons d r ih =>
        intro p
        rw [List.map_cons]
        show (joinL (p ++ 47 :: [d]) (r.map fun d => [d])).length = _
        rw [ih]; simp; omega
    rw [pathOf, h]; simp; omega
theorem common_len {n : Nat} (h1 : 1 ≤ n) (hn : n < 1048576) : ((pathOf (cpre (lets (n - 1)) (lets n))).length + 1) / 2 = 4 - vN n := by
  rw [path_len, (cpre_next h1 hn).1, List.length_take]
  show min (4 - vN n) 5 = _
  omega
theorem num_lets {n : Nat} (hn : n < 1048576) : numOf (lets n) = (n : Int) := by
  simp only [lets, numOf, List.foldl_cons, List.foldl_nil, stepN]
  rw [dig4 hn]
  have h0 := Nat.div_add_mod n 16
  have h1 := Nat.div_add_mod (n / 16) 16
  have h2 := Nat.div_add_mod (n / 256) 16
  have h3 := Nat.div_add_mod (n / 4096) 16
  rw [d16] at h1 h2 h3
  generalize n / 65536 = q4 at h3 ⊢
  generalize n / 4096 % 16 = d3 at h3 ⊢
  generalize n / 4096 = q3 at h2 h3
  generalize n / 256 % 16 = d2 at h2 ⊢
  generalize n / 256 = q2 at h1 h2
  generalize n / 16 % 16 = d1 at h1 ⊢
  generalize n / 16 = q1 at h0 h1
  generalize n % 16 = d0 at h0 ⊢
  clear hn
  omega
def ds : Nat → Nat → Nat
  | 0, _ => 0
  | k + 1, n => n % 16 + ds k (n / 16)
def vk : Nat → Nat → Nat
  | 0, _ => 0
  | k + 1, n => if n % 16 = 0 then 1 + vk k (n / 16) else 0
theorem ds_next : ∀ k n, 1 ≤ n → n < 16 ^ k → n + ds k (n - 1) = (n - 1) + ds k n + 15 * vk k n
  | 0, n, h1, h2 => by have h2 : n < 1 := h2; omega
  | k + 1, n, h1, h2 => by
    rw [ds, ds, vk]
    by_cases h : n % 16 = 0
    · have ih := ds_next k (n / 16) (by omega) (Nat.div_lt_of_lt_mul (by rw [Nat.mul_comm, ← Nat.pow_succ]; exact h2))
      rw [if_pos h, show (n - 1) / 16 = n / 16 - 1 by omega, show (n - 1) % 16 = 15 by omega, h]
      have h3 : 1 ≤ n / 16 := by omega
      generalize n / 16 = m at ih h3 ⊢
      omega
    · rw [if_neg h, show (n - 1) / 16 = n / 16 by omega, show (n - 1) % 16 = n % 16 - 1 by omega]
      have h3 : 1 ≤ n % 16 := by omega
      generalize n % 16 = m at h3 ⊢
      omega
theorem vN_vk (n : Nat) (h5 : n % 1048576 ≠ 0) : vN n = vk 5 n := by
  have z2 := zmod n 16
  have z3 := zmod n 256
  have z4 := zmod n 4096
  have z5 := zmod n 65536
  have y2 := zmod (n / 16) 16
  have y3 := zmod (n / 16) 256
  have y4 := zmod (n / 16) 4096
  have x2 := zmod (n / 16 / 16) 16
  have x3 := zmod (n / 16 / 16) 256
  have w2 := zmod (n / 16 / 16 / 16) 16
  refine vN_cases n (fun v => v = vk 5 n) ?_ ?_ ?_ ?_ ?_
  · intro h; rw [vk, if_neg h]
  · intro h h'
    rw [vk, if_pos h, vk, if_neg fun e => h' (z2.mpr ⟨h, e⟩)]
  · intro h h'
    obtain ⟨a, b⟩ := z2.mp h
    rw [vk, if_pos a, vk, if_pos b, vk, if_neg fun e => h' (z3.mpr ⟨a, y2.mpr ⟨b, e⟩⟩)]
  · intro h h'
    obtain ⟨a, b⟩ := z3.mp h
    obtain ⟨b, c⟩ := y2.mp b
    rw [vk, if_pos a, vk, if_pos b, vk, if_pos c, vk, if_neg fun e => h' (z4.mpr ⟨a, y3.mpr ⟨b, x2.mpr ⟨c, e⟩⟩⟩)]
  · intro h
    obtain ⟨a, b⟩ := z4.mp h
    obtain ⟨b, c⟩ := y3.mp b
    obtain ⟨c, d⟩ := x2.mp c
    rw [vk, if_pos a, vk, if_pos b, vk, if_pos c, vk, if_pos d, vk, if_neg fun e => h5 (z5.mpr ⟨a, y4.mpr ⟨b, x3.mpr ⟨c, w2.mpr ⟨d, e⟩⟩⟩⟩)]
theorem less_next {n : Nat} (h1 : 1 ≤ n) (hn : n < 1048576) : (numOf (lets n) - sumL (lets n)) - (numOf (lets (n - 1)) - sumL (lets (n - 1))) = 15 * (vN n : Int) := by
  rw [num_lets hn, num_lets (by omega)]
  have e : ∀ m : Nat, sumL (lets m) = ((ds 5 m : Nat) : Int) := by
    intro m
    simp only [ds, d16]
    simp only [sumL, lets, List.map_cons, List.map_nil, List.sum_cons, List.sum_nil]
    generalize m / 65536 % 16 = a
    generalize m / 4096 % 16 = b
    generalize m / 256 % 16 = c
    generalize m / 16 % 16 = d
    generalize m % 16 = f
    omega
  rw [e, e, vN_vk n (by rw [Nat.mod_eq_of_lt hn]; omega)]
  have h := ds_next 5 n h1 hn
  omega
abbrev dd : List Nat := [46, 46]
abbrev sing (l : List Nat) : List (List Nat) := l.map fun d => [d]
def stkF (acc : List (List Nat)) (cs : List (List Nat)) : List (List Nat) := cs.foldl (fun acc c => if c = [46, 46] then acc.dropLast else acc ++ [c]) acc
theorem stkF_sing : ∀ (l : List Nat) (acc : List (List Nat)), stkF acc (sing l) = acc ++ sing l
  | [], acc => by simp [stkF]
  | c :: r, acc => by
    have ih := stkF_sing r (acc ++ [[c]])
    show stkF (if [c] = [46, 46] then acc.dropLast else acc ++ [[c]]) (sing r) = _
    rw [if_neg (by simp), ih]; simp
theorem stkF_dd : ∀ (t : Nat) (acc : List (List Nat)), stkF acc (List.replicate t dd) = acc.take (acc.length - t)
  | 0, acc => by simp [stkF]
  | t + 1, acc => by
    rw [List.replicate_succ]
    show stkF (if dd = [46, 46] then acc.dropLast else acc ++ [dd]) (List.replicate t dd) = _
    rw [if_pos rfl, stkF_dd t, List.dropLast_eq_take, List.take_take, List.length_take, Nat.min_eq_left (Nat.sub_le _ _), Nat.min_eq_left (Nat.sub_le _ _), Nat.sub_sub, Nat.add_comm 1 t]
theorem stkF_append (acc a b : List (List Nat)) : stkF acc (a ++ b) = stkF (stkF acc a) b := List.foldl_append ..
abbrev stepsOf (n : Nat) : List (List Nat) := List.replicate (vN n + 1) dd ++ sing ((lets n).drop (4 - vN n))
theorem norm_stk {n : Nat} (h1 : 1 ≤ n) (hn : n < 1048576) : stk (sing (lets (n - 1)) ++ stepsOf n) = sing (lets n) := by
  show stkF [] (sing (lets (n - 1)) ++ (List.replicate (vN n + 1) dd ++ sing ((lets n).drop (4 - vN n)))) = _
  rw [stkF_append, stkF_append, stkF_sing, stkF_dd, stkF_sing, List.nil_append]
  have e : (sing (lets (n - 1))).length - (vN n + 1) = 4 - vN n := by
    show 5 - (vN n + 1) = _; omega
  rw [e, ← List.map_take, (cpre_next h1 hn).2, ← List.map_append, List.take_append_drop]
theorem norm_nam {n : Nat} : ∀ c ∈ sing (lets (n - 1)) ++ stepsOf n, c = [46, 46] ∨ Nam c := by
  have nam : ∀ (m : Nat) (c : List Nat), c ∈ sing (lets m) → Nam c := by
    intro m c hc
    obtain ⟨d, hd, rfl⟩ := List.mem_map.mp hc
    have := lets_lets m d hd
    exact ⟨d, rfl, this.1, this.2⟩
  intro c hc
  rcases List.mem_append.mp hc with hc | hc
  · exact .inr (nam _ c hc)
  · rcases List.mem_append.mp hc with hc | hc
    · exact .inl (List.eq_of_mem_replicate hc)
    · rw [sing, List.map_drop] at hc
      exact .inr (nam n c (List.mem_of_mem_drop hc))
theorem norm_full {n : Nat} (i : Nat) (hi : (sing (lets (n - 1)) ++ stepsOf n)[i]? = some [46, 46]) : stk ((sing (lets (n - 1)) ++ stepsOf n).take i) ≠ [] := by
  have ns : ∀ (l : List Nat) (j : Nat), (sing l)[j]? ≠ some [46, 46] := by
    intro l j h
    rw [List.getElem?_map] at h
    obtain ⟨d, _, hd⟩ := Option.map_eq_some_iff.mp h
    cases hd
  have hl5 : (sing (lets (n - 1))).length = 5 := rfl
  rcases Nat.lt_or_ge i 5 with h | h
  · rw [List.getElem?_append_left (by rw [hl5]; exact h)] at hi
    exact absurd hi (ns _ _)
  · rw [List.getElem?_append_right (by rw [hl5]; exact h), hl5] at hi
    rcases Nat.lt_or_ge (i - 5) (vN n + 1) with h2 | h2
    · have e : (sing (lets (n - 1)) ++ stepsOf n).take i = sing (lets (n - 1)) ++ List.replicate (i - 5) dd := by
        rw [List.take_append, hl5, List.take_of_length_le (by rw [hl5]; exact h)]
        congr 1
        rw [stepsOf, List.take_append, List.take_replicate, List.length_replicate]
        rw [show i - 5 - (vN n + 1) = 0 by omega, List.take_zero, List.append_nil, show min (i - 5) (vN n + 1) = i - 5 by omega]
      rw [e]
      show stkF [] (sing (lets (n - 1)) ++ List.replicate (i - 5) dd) ≠ []
      rw [stkF_append, stkF_sing, stkF_dd, List.nil_append, hl5]
      have := vN_le n
      intro q
      have q := congrArg List.length q
      rw [List.length_take, hl5] at q
      simp at q
      omega
    · rw [stepsOf, List.getElem?_append_right (by rw [List.length_replicate]; exact h2)] at hi
      exact absurd hi (ns _ _)
theorem join_path_append (c : Nat) (r : List Nat) (S : List (List Nat)) : joinL (pathOf (c :: r)) S = joinL [c] (sing r ++ S) := by
  rw [pathOf, joinL, joinL, joinL, List.foldl_append]
end
end
section
section
theorem lets_len (n : Nat) : (lets n).length = 5 := rfl
theorem strs_split {vs : List Value} {l : List Nat} {c : Nat} (h : StrsAre vs ((c :: l).map ch)) : ∃ t vs', vs = .str (mkS [c]) t :: vs' ∧ StrsAre vs' ((l.map fun d => [d]).map mkS) := by
  rw [List.map_cons] at h
  obtain ⟨t, vs', rfl, h'⟩ := h.cons_inv
  refine ⟨t, vs', rfl, ?_⟩
  rw [List.map_map]
  exact h'
/-- join(*names) of one-letter names -/
theorem join_names {w : World} {mean : ExcName → Option Value} {mg mb : Str → Option Value} (c : Nat) (l : List Nat) (t : Tok) (vs : List Value) (hc : ∀ d ∈ c :: l, d ≠ 47) (hn : l.length ≤ 12) (hv : StrsAre vs ((l.map fun d => [d]).map mkS)) :
    Fn w mean mg mb 177 40 200 (.str (mkS [c]) t :: vs) (fun _ => True) (fun _ v _ => ∃ t, v = .str (mkS (pathOf (c :: l))) t) := by
  have sg : ∀ d, d ≠ 47 → Seg [d] := fun d hd => ⟨by simp, by simpa using hd, by simpa using hd, by simp⟩
  refine join_spec [c] t (l.map fun d => [d]) vs (sg c (hc c (.head _))) ?_ (by simpa using hn) hv
  intro b hb
  obtain ⟨d, hd, rfl⟩ := List.mem_map.mp hb
  exact sg d (hc d (.tail _ hd))
theorem path_chars : ∀ (l : List Nat) (c : Nat), c ∈ pathOf l → c = 47 ∨ c ∈ l
  | [], _, h => nomatch h
  | a :: r, c, h => by
    have key : ∀ (r p : List Nat), c ∈ joinL p (r.map fun d => [d]) → c ∈ p ∨ c = 47 ∨ c ∈ r := by
      intro r
      induction r with
      | nil => intro p h; exact .inl h
      | cons d r ih =>
        intro p h
        rw [List.map_cons] at h
        rcases ih (p ++ 47 :: [d]) h with h | h | h
        · rcases List.mem_append.mp h with h | h
          · exact .inl h
          · rcases List.mem_cons.mp h with h | h
            · exact .inr (.inl h)
            · exact .inr (.inr (List.mem_singleton.mp h ▸ .head _))
        · exact .inr (.inl h)
        · exact .inr (.inr (.tail _ h))
    rcases key r [a] h with h | h | h
    · exact .inr (List.mem_singleton.mp h ▸ .head _)
    · exact .inl h
    · exact .inr (.tail _ h)
theorem rep_str (x : Str) (t : Tok) : ∀ k : Nat, StrsAre (List.replicate k [Value.str x t]).flatten (List.replicate k x)
  | 0 => .nil
  | k + 1 => by
    rw [List.replicate_succ, List.flatten_cons, List.replicate_succ]
    exact .cons _ _ (rep_str x t k)
theorem ints_last {vs : List Value} {ns : List Nat} {b : Nat} (h : IntsAre vs (ns.map Int.ofNat)) (hb : ns.getLast? = some b) : ∃ vs' t, vs = vs' ++ [.int (b : Int) t] := by
  rcases List.eq_nil_or_concat ns with rfl | ⟨r, z, e⟩
  · cases hb
  · rw [List.concat_eq_append] at e; subst e
    have hz : z = b := by simpa using hb
    subst hz
    rcases List.eq_nil_or_concat vs with rfl | ⟨vs', v, e⟩
    · have := h.length; simp at this
    · rw [List.concat_eq_append] at e; subst e
      have hl := h.length
      have hl2 : vs'.length = r.length := by simpa using hl
      obtain ⟨t, ht⟩ := h.get r.length (z : Int) (by simp)
      rw [← hl2] at ht
      exact ⟨vs', t, by simpa using ht⟩
variable {w : World} {mean : ExcName → Option Value} {mg mb : Str → Option Value}
/-- what holds ahead of a turn -/
inductive J22 (DN DP : Addr) (a b jm : Nat) (k : Nat) (m : Str → Option Value) (news : List (Addr × Obj)) : Prop
  | mk (_ : news = []) (j : Nat) (l : Nat) (h : Nat) (sz : Nat) (t1 : Tok) (t2 : Tok) (t3 : Tok) (t4 : Tok) (_ : m (Str.ofString "low") = some (.int (l : Int) t1)) (_ : m (Str.ofString "high") = some (.int (h : Int) t2)) (_ : m (Str.ofString "size") = some (.int (sz : Int) t3)) (_ : m (Str.ofString "depth") = some (.int (5 - (j : Int)) t4)) (_ : m (Str.ofString "numbers") = some (.ref DN)) (_ : m (Str.ofString "paths") = some (.ref DP)) (_ : j ≤ jm) (_ : l = a / 16 ^ j) (_ : h = b / 16 ^ j) (_ : sz = 16 ^ j) (_ : k = jm - j)
set_option maxRecDepth 100000 in
set_option maxHeartbeats 4000000 in
theorem block_spec (DN DP : Addr) (ns : List Nat) (a b jm : Nat) (vs ps : List Value) (c1 c2 : Nat) (hn0 : ns.head? = some a) (hn1 : ns.getLast? = some b) (hn5 : ns.length ≤ 5) (hb : ∀ n ∈ ns, n < 1048576) (hord : ∀ (i j : Nat) m n, i < j → ns[i]? = some m → ns[j]? = some n → m < n)
    (hj1 : a / 16 ^ jm = b / 16 ^ jm) (hj2 : ∀ i, i < jm → a / 16 ^ i ≠ b / 16 ^ i) (hj5 : jm ≤ 5) (hvs : IntsAre vs (ns.map Int.ofNat)) (hps : StrsAre ps (ns.map fun n => mkS (pathOf (lets n)))) :
    Fn w mean mg mb 239 80 600 [.ref DN, .ref DP] (fun h => h.get? DN = some (lst vs c1) ∧ h.get? DP = some (lst ps c2)) (fun _ v _ => v = .bool true) := by
  rintro dp un fr gd s R hr G ⟨hDN, hDP⟩ hR
  refine' enter (d := 79) (u := 597) (binds := [(Str.ofString "numbers", .ref DN), (Str.ofString "paths", .ref DP)]) hr G ?ho ?hcd ?hb ?hl ?hc ?_ ?c1 ?c2 ?c3
  walk_at "m enter"
  intro L h₁ hr' F N X T
  refine wp_in (by passes_own) hr' ?_
  clear hr'
  intro dp un fr gd Q₀ E₀ hr' hE₀ hQ₀
  have ha16 : a < 1048576 := hb a (List.mem_of_mem_head? (by rw [hn0]; rfl))
  have hb16 : b < 1048576 := hb b (List.mem_of_getLast? hn1)
  walk_at "m ec"
  walk_at "m go3"
  obtain ⟨ta, hva⟩ := hvs.get 0 (a : Int) (by rw [List.getElem?_map, ← List.head?_eq_getElem?, hn0]; rfl)
  obtain ⟨vs', tb, hvb⟩ := ints_last hvs hn1
  have hvl : vs.length ≤ 5 := by rw [hvs.length, List.length_map]; exact hn5
  refine item_listL (isList_of (F.keep _ _ hDN)) (by omega) (by omega) hva ?_
  walk_at "m go3"
  rename Fr _ _ _ _ => F1
  refine item_last (xs := vs') (x := .int (b : Int) tb) (by rw [← hvb]; exact isList_of (F1.keep _ _ hDN)) (by rw [hvb] at hvl; simp at hvl; omega) ?_
  walk_at "m go3"
  rename Fr _ _ _ _ => F2
  rename News _ _ _ _ => N2
  refine' While_inv (J22 DN DP a b jm) ?F ?N ?hJ ?turn ?hE
  case F => exact F2
  case N => exact N2
  case hJ => exact ⟨rfl, 0, a, b, 1, _, _, _, _, rfl, rfl, rfl, rfl, rfl, rfl, Nat.zero_le _, by simp, by simp, rfl, rfl⟩
  case hE => first | assumption | passes_own
  case turn =>
    rintro k m₁ news₁ h tk F3 N3 ⟨rfl, j, lw, hg, sz, t1, t2, t3, t4, g1, g2, g3, g4, g5, g6, hj, el, eh, es, rfl⟩
    clear F2 N2
    have hszb : sz ≤ 1048576 := by
      rw [es]
      have : 16 ^ j ≤ 16 ^ 5 := Nat.pow_le_pow_right (by decide) (by omega)
      omega
    have hsz1 : 1 ≤ sz := by rw [es]; exact Nat.one_le_pow _ _ (by decide)
    have hlb : lw ≤ a := by rw [el]; exact Nat.div_le_self _ _
    have hhb : hg ≤ b := by rw [eh]; exact Nat.div_le_self _ _
    have hjlt : ¬ (lw : Int) = (hg : Int) → j < jm := by
      intro hne
      rcases Nat.lt_or_ge j jm with hlt | hge
      · exact hlt
      · exfalso
        apply hne
        have hjm : j = jm := by omega
        rw [el, eh, hjm, hj1]
    have hjeq : (lw : Int) = (hg : Int) → j = jm := by
      intro he
      rcases Nat.lt_or_ge j jm with hlt | hge
      · exfalso
        have := hj2 j hlt
        rw [el, eh] at he
        omega
      · omega
    walk_at "m go3"
    · have hne : ¬ (lw : Int) = (hg : Int) := by assumption
      have hlt := hjlt hne
      have hd : (lw : Int).fdiv 16 = ((lw / 16 : Nat) : Int) := by rw [Int.fdiv_eq_ediv_of_nonneg _ (by decide)]; rfl
      have hd2 : (hg : Int).fdiv 16 = ((hg / 16 : Nat) : Int) := by rw [Int.fdiv_eq_ediv_of_nonneg _ (by decide)]; rfl
      have hd3 : (sz : Int) * 16 = ((sz * 16 : Nat) : Int) := by simp
      have hd4 : (5 - (j : Int) - 1) = 5 - ((j + 1 : Nat) : Int) := by omega
      rename Fr _ _ _ _ => F4
      rw [hd, hd2, hd3, hd4] at F4
      refine WhileStep.intro (n' := jm - (j + 1)) F4 (by assumption) (by omega) ⟨rfl, j + 1, lw / 16, hg / 16, sz * 16, _, _, _, _, rfl, rfl, rfl, rfl, g5, g6, hlt, ?_, ?_, ?_, rfl⟩
      · rw [el, Nat.div_div_eq_div_mul, ← Nat.pow_succ]
      · rw [eh, Nat.div_div_eq_div_mul, ← Nat.pow_succ]
      · rw [es, ← Nat.pow_succ]
    · rename_i hz
      have hjm := hjeq (by simpa using hz)
      subst hjm
      clear hjlt hjeq hz
      walk_at "m go3"
      walk1
      walk_at "m go3"
      refine item_listL (isList_of (F3.keep _ _ hDN)) (by omega) (by omega) hva ?_
      walk_at "m go3"
      rename Fr _ _ _ _ => F4
      rename News _ _ _ _ => N4
      refine call_fn (letters_spec a ta ha16) F4 N4 X T (hr'.mono (by decide) (by decide)) trivial ?_
      rintro v h5 tk5 e5 F5 N5 ⟨D5, ws5, c5, rfl, hD0, hD1, hws⟩
      have N6 := News.add F4 N5 hD0 hD1
      have hwl : ws5.length = 5 := by rw [hws.len_eq, List.length_map, lets_len]
      clear F4 N4 N5
      walk_at "m go3"
      rename Fr _ _ _ _ => F7
      rename News _ _ _ _ => N7
      refine kba_turn (value' := .Name (Str.ofString "x") ⟨0, 0, 0, 0⟩) (fun _ => rfl) ?_
      refine' slice_upto (vs := ws5) F7 N7 (isList_of (N7.get (.head _))) hws (by omega) (by omega) ?_ ?hs ?ht
      case hs => with_unfolding_all rfl
      case ht => kmk_pure
      intro D8 ws8 h8 F8 N8 hws8
      rw [show (5 - (j : Int)).toNat = 5 - j by omega, ← List.map_take] at hws8
      walk_at "m go3"
      rename Fr _ _ _ _ => F9
      rename News _ _ _ _ => N9
      walk1
      walk_at "m go3"
      have hns0 : ns ≠ [] := by rintro rfl; cases hn0
      refine call_fn (common_spec DP (ns.map lets) ps c2 ?r1 ?r2 ?r3 ?r4) F9 N9 X T (hr'.mono (by decide) (by decide)) ?r5 ?_
      case r1 =>
        intro r hr
        obtain ⟨n, _, rfl⟩ := List.mem_map.mp hr
        exact ⟨lets_lets n, rfl⟩
      case r2 => simpa using hns0
      case r3 => simpa using hn5
      case r4 =>
        intro i k r q hik h1 h2
        rw [List.getElem?_map] at h1 h2
        obtain ⟨m, hm, rfl⟩ := Option.map_eq_some_iff.mp h1
        obtain ⟨n, hn, rfl⟩ := Option.map_eq_some_iff.mp h2
        exact lets_lt (hord i k m n hik hm hn) (hb n (List.mem_of_getElem? hn))
      case r5 => exact ⟨F9.keep _ _ hDP, by rw [List.map_map]; exact hps⟩
      rintro v h10 tk10 e10 F10 N10 ⟨t10, ra, rb, hra, hrb, rfl⟩
      clear F9 N9
      rw [List.head?_map, hn0] at hra
      rw [List.getLast?_map, hn1] at hrb
      obtain rfl := Option.some.inj hra
      obtain rfl := Option.some.inj hrb
      rw [cpre_lets ha16 hb16 hj1 hj2 hj5]
      walk_at "m go3"
      have hw8l : ws8.length = 5 - j := by rw [hws8.len_eq, List.length_map, List.length_take, lets_len]; omega
      refine join_strs (isList_of (N10.get (.head _))) hws8 ?_ ?_
      · rw [sum_ch, List.length_map, slash_is, mkS_len, List.length_take, lets_len]; simp; omega
      intro t11 k11
      rw [join_path]
      generalize hnm : (lets a).take (5 - j) = nm at hws8 ⊢
      generalize hpx : mkS (pathOf nm) = px
      have hpne : (px != px) = false := by simp
      walk_at "m go3"
      rename Fr _ _ _ _ => F11
      rename News _ _ _ _ => N11
      refine KMa.mul F11 N11 (N11.isList (.head _)) (by omega) (by omega) (by simp; omega) rfl ?_
      intro D12 h12 F12 N12 hlt12
      walk_at "m go3"
      refine add_arrays F12 N12 (N12.isList (.tail _ (.tail _ (.head _)))) (N12.isList (.head _)) ?_ ?_
      rotate_left
      · simp only [List.size_toArray]
        have := (rep_str (Str.ofString "?") k11 (5 - (5 - (j : Int))).toNat).len_eq
        rw [List.length_replicate] at this
        rw [this, sizeLine_eq]
        omega
      intro h13 F13 N13
      dsimp only at F13 N13 ⊢
      generalize h12.objs.size = D13 at F13 N13 ⊢
      subst hnm
      have hsN : StrsAre (ws8 ++ (List.replicate (5 - (5 - (j : Int))).toNat [Value.str (Str.ofString "?") k11]).flatten) ((blockRow a j).map ch) := by
        have h1 := rep_str (Str.ofString "?") k11 (5 - (5 - (j : Int))).toNat
        rw [show (5 - (5 - (j : Int))).toNat = j by omega] at h1 ⊢
        rw [blockRow, List.map_append, List.map_replicate, show ch 63 = Str.ofString "?" by decide +kernel]
        exact hws8.append' h1
      have N14 : News s.heap L h13 [(D13, lst (ws8 ++ (List.replicate (5 - (5 - (j : Int))).toNat [Value.str (Str.ofString "?") k11]).flatten))] := News.sub N13 (fun p hp => by rw [List.mem_singleton.mp hp]; exact .head _)
      generalize ws8 ++ (List.replicate (5 - (5 - (j : Int))).toNat [Value.str (Str.ofString "?") k11]).flatten = wsN at hsN N14
      clear N13 N12 F12 F11 N11 hlt12
      walk_at "m go3"
      rename Fr _ _ _ _ => F15
      rename News _ _ _ _ => N15
      have hrl : (blockRow a j).length = 5 := by rw [blockRow, List.length_append, List.length_take, List.length_replicate, lets_len]; omega
      have hrc : ∀ d ∈ blockRow a j, d ≠ 47 ∧ (Sgn d ∨ d = 63) := by
        intro d hd
        rcases List.mem_append.mp hd with hd | hd
        · have := lets_lets a d (List.mem_of_mem_take hd)
          exact ⟨by omega, .inl (.inr this)⟩
        · have := List.eq_of_mem_replicate hd
          exact ⟨by omega, .inr this⟩
      obtain ⟨c, l, hrow⟩ : ∃ c l, blockRow a j = c :: l := by
        cases hq : blockRow a j with
        | nil => rw [hq] at hrl; cases hrl
        | cons c l => exact ⟨c, l, rfl⟩
      have hwN : wsN.length = 5 := by rw [hsN.len_eq, List.length_map, hrl]
      rw [hrow] at hsN
      obtain ⟨tc, vs1, ev, hv1⟩ := strs_split hsN
      walk1
      walk_at "m go3"
      walk1
      walk_at "m go3"
      refine star_at (vs := wsN) (isList_of (N15.get (.head _))) (by omega) ?_
      intro h16 e16
      have F16 := Fr.ext F15 e16
      have N16 := News.ext N15 e16
      refine ⟨X.keeps F16.keep, ?_⟩
      clear F15 N15
      rw [ev, List.nil_append]
      refine call_fn (join_names c l tc vs1 (fun d hd => (hrc d (hrow ▸ hd)).1) (by rw [hrow] at hrl; simp at hrl; omega) hv1) F16 N16 X T (hr'.mono (by decide) (by decide)) trivial ?_
      rintro v h17 tk17 e17 F17 N17 ⟨t17, rfl⟩
      rw [← hrow]
      walk_at "m go3"
      refine call_fn (translate_plain (pathOf (blockRow a j)) t17 ?p1 ?p2) F17 N17 X T (hr'.mono (by decide) (by decide)) trivial ?_
      case p1 =>
        intro d hd
        rcases path_chars _ d hd with rfl | hd
        · exact .inl (.inl rfl)
        · exact (hrc d hd).2
      case p2 => exact Nat.le_trans (pathOf_len (Nat.le_of_eq hrl)) (by decide)
      rintro v h18 tk18 e18 F18 N18 ⟨t18, rfl⟩
      clear F17 N17 F16 N16
      have hp1 : (lw : Int) * (sz : Int) ≤ 1048576 := by
        have : lw * sz ≤ a := by rw [el, es]; exact Nat.div_mul_le_self _ _
        have h2 : ((lw * sz : Nat) : Int) ≤ (a : Int) := by omega
        rw [Int.natCast_mul] at h2
        omega
      have hp0 : 0 ≤ (lw : Int) * (sz : Int) := Int.mul_nonneg (by omega) (by omega)
      have hsz0 : (sz : Int) ≠ 0 := by omega
      generalize hru : mkS ([40, 63, 115, 58] ++ (pathOf (blockRow a j)).map qm ++ [41, 92, 90]) = ru at F18 N18 ⊢
      walk_at "m go3"
      walk1
      walk_at "m go3"
      rename Fr _ _ _ _ => F19
      rename News _ _ _ _ => N19
      refine iter_list (vs := [_, _, _, _]) (fun _ m => m (Str.ofString "rule") = some (.str ru t18) ∧ m (Str.ofString "low") = some (.int (lw : Int) t1) ∧ m (Str.ofString "size") = some (.int (sz : Int) t3)) hr'.handled (isList_of (N19.get (.head _))) (N19 _ (.head _)).2.1 F19 N19 ?hj ?turn ?done rfl
      case hj => exact ⟨rfl, g1, g3⟩
      case turn =>
        rintro i v m₁ h tk own hi ⟨j1, j2, j3⟩ F20 N20
        obtain ⟨nn, tn, rfl, hnn⟩ : ∃ nn tn, v = .int nn tn ∧ (nn = (lw : Int) * sz - 1 ∨ nn = (lw : Int) * sz ∨ nn = (lw : Int) * sz + sz - 1 ∨ nn = (lw : Int) * sz + sz) := by
          match i, hi with
          | 0, hi => exact ⟨_, _, (Option.some.inj hi).symm, .inl rfl⟩
          | 1, hi => exact ⟨_, _, (Option.some.inj hi).symm, .inr (.inl rfl)⟩
          | 2, hi => exact ⟨_, _, (Option.some.inj hi).symm, .inr (.inr (.inl rfl))⟩
          | 3, hi => exact ⟨_, _, (Option.some.inj hi).symm, .inr (.inr (.inr rfl))⟩
          | i + 4, hi => simp at hi
        walk_at "m ec"
        walk_at "m go3"
        · have hlo : 0 ≤ nn := by assumption
          have hhi : nn < 16 ^ Int.toNat 5 := by assumption
          have hhi2 : nn < 1048576 := by rw [show (16 : Int) ^ Int.toNat 5 = 1048576 by decide] at hhi; exact hhi
          obtain ⟨n', rfl⟩ : ∃ n' : Nat, nn = (n' : Int) := ⟨nn.toNat, by omega⟩
          have hn16 : n' < 1048576 := by omega
          clear hnn hhi hp0 hp1 hlo hhi2
          walk1
          walk_at "m go3"
          walk1
          walk_at "m go3"
          walk1
          walk_at "m go3"
          refine call_fn (letters_spec n' tn hn16) F20 N20 X T (hr'.mono (by decide) (by decide)) trivial ?_
          rintro v h21 tk21 e21 F21 N21 ⟨D21, ws21, c21, rfl, _, hD21, hws21⟩
          refine star_at (vs := ws21) (isList_of hD21) (by rw [hws21.len_eq, List.length_map, lets_len]; decide) ?_
          intro h22 e22
          have F22 := Fr.ext F21 e22
          have N22 := News.ext N21 e22
          refine ⟨X.keeps F22.keep, ?_⟩
          clear F21 N21 F20 N20
          obtain ⟨tc2, vs2, ev2, hv2⟩ := strs_split (c := 65 + n' / 65536 % 16) (l := [65 + n' / 4096 % 16, 65 + n' / 256 % 16, 65 + n' / 16 % 16, 65 + n' % 16]) hws21
          rw [ev2]
          refine call_fn (join_names _ _ tc2 vs2 (fun d hd => by have := lets_lets n' d hd; omega) (by simp) hv2) F22 N22 X T (hr'.mono (by decide) (by decide)) trivial ?_
          rintro v h23 tk23 e23 F23 N23 ⟨t23, rfl⟩
          walk_at "m go3"
          subst hru
          have hrwl : ((pathOf (blockRow a j)).map qm).length ≤ 9 := by rw [List.length_map]; exact pathOf_len (Nat.le_of_eq hrl)
          refine call_fn (takes_spec false ((pathOf (blockRow a j)).map qm) ((pathOf (blockRow a j)).map qm) (pathOf (lets n')) t18 t23 rfl ?q1 (by omega) (by have := pathOf_len (r := lets n') (Nat.le_refl 5); omega)) F23 N23 X T (hr'.mono (by decide) (by decide)) trivial ?_
          case q1 =>
            intro hq
            obtain ⟨d, hd, hd2⟩ := List.mem_map.mp hq
            have h2 : d ≠ 42 ∧ d ≠ 63 ∨ d = 63 := by
              rcases path_chars _ d hd with rfl | hd
              · exact .inl ⟨by decide, by decide⟩
              · rcases (hrc d hd).2 with h | h
                · unfold Sgn at h
                  exact .inl ⟨by omega, by omega⟩
                · exact .inr h
            unfold qm at hd2
            split at hd2 <;> omega
          rintro v h24 tk24 e24 F24 N24 rfl
          rw [if_neg Bool.false_ne_true, block_takes ha16 hn16 hj5]
          have hkey : (decide (n' / 16 ^ j = a / 16 ^ j) != ((n' : Int).fdiv (sz : Int) == (lw : Int))) = false := by
            have h1 : (n' : Int).fdiv (sz : Int) = ((n' / sz : Nat) : Int) := by rw [Int.fdiv_eq_ediv_of_nonneg _ (by omega)]; rfl
            rw [h1, ← es, el, ← es]
            by_cases hq : n' / sz = a / sz
            · rw [decide_eq_true hq, hq]; simp
            · rw [decide_eq_false hq]
              have : (((n' / sz : Nat) : Int) == ((a / sz : Nat) : Int)) = false := beq_eq_false_iff_ne.mpr (by omega)
              rw [this]; rfl
          walk_at "m go4"
          walk_at "m hd"
          refine wpAny_execs_nil ?_
          (try dsimp only)
          walk_at "m hd"
          refine wpAny_execs_nil ?_
          (try dsimp only)
          walk_at "m hd"
          refine wpAny_execs_nil ?_
          (try dsimp only)
          walk_at "m end"
          exact ⟨j1, j2, j3⟩
        · rename_i hz1 hz2
          clear hz1 hz2 hnn hp0 hp1
          walk_at "m hd"
          refine wpAny_execs_nil ?_
          (try dsimp only)
          walk_at "m hd"
          refine wpAny_execs_nil ?_
          (try dsimp only)
          walk_at "m end"
          exact ⟨j1, j2, j3⟩
        · rename_i hz1
          clear hz1 hnn hp0 hp1
          walk_at "m hd"
          refine wpAny_execs_nil ?_
          (try dsimp only)
          walk_at "m hd"
          refine wpAny_execs_nil ?_
          (try dsimp only)
          walk_at "m end"
          exact ⟨j1, j2, j3⟩
      case done =>
        rintro m₁ h tk ⟨j1, j2, j3⟩ F20 N20
        walk_at "m go3"
        walk_at "m hd"
        exact hR _ _ _ F20.keep rfl
end
end
section
section
theorem slice_take {prog : Program} {w : World} {A : Around} {E : Value → Shared → Prop} {h₀ : Heap} {L l : Addr} {m : Str → Option Value} {news : List (Addr × Obj)} {value slice : PySem.Expr} {vs : List Value} {Q : Value → Shared → Prop} {h : Heap} {g : Array GenState} {d : Drawn} {tk : Nat} {os : OsState} {i : Int} {tt : Tok}
    (F : Fr h₀ L h m) (N : News h₀ L h news) (hl : h.IsList l vs.toArray) (h0 : 0 ≤ i) (hz : vs.length ≤ 1000)
    (k : ∀ D h', Fr h₀ L h' m → News h₀ L h' ((D, lst (vs.take i.toNat)) :: news) → Q (.ref D) ⟨h', g, d, tk, os⟩)
    (hs : subscripted slice false (.ref l) (.ref h.objs.size) = operate [.ref h.objs.size, .ref l] (getItem (.ref l) (.ref h.objs.size))) (ht : ∀ r, letTemporaryGo value (.ref l) r = pure ()) :
    wpAny (model prog w) A (subscriptTail value slice (.ref l) (.ref h.objs.size)) Q E ⟨h.push { cls := .type "slice", data := .fields #[.none, .int i tt, .none] }, g, d, tk, os⟩ :=
  kmk_slice_lit (s := ⟨h, g, d, tk, os⟩) (lo := none) (hi := some i) (zs := vs.take i.toNat) F N hl (by kmk_part) (by kmk_part)
    (by
      have := slicePick_upto' vs.toArray i.toNat
      rw [show ((i.toNat : Nat) : Int) = i by omega] at this
      rw [this]) (fun D h' F' N' _ => k D h' F' N') hs ht (by rw [List.size_toArray, sizeLine_eq]; omega)
theorem ints_take {vs : List Value} {ys : List Int} (h : IntsAre vs ys) (k : Nat) : IntsAre (vs.take k) (ys.take k) := by
  induction h generalizing k with
  | nil => simp; exact .nil
  | cons n t _ ih =>
    cases k with
    | zero => exact .nil
    | succ k => exact .cons _ _ (ih k)
theorem ints_append {vs ws : List Value} {xs ys : List Int} (h : IntsAre vs xs) (h2 : IntsAre ws ys) : IntsAre (vs ++ ws) (xs ++ ys) := by
  induction h with
  | nil => exact h2
  | cons n t _ ih => exact .cons _ _ ih
/-- the numbers of one listing -/
def nsOf (x : Int) : List Nat := (List.range (hiOf x - loOf x).toNat).map fun i => (loOf x).toNat + i
theorem nsOf_ints (x : Int) : (nsOf x).map Int.ofNat = upTo (loOf x) (hiOf x) := by
  have h := list_bounds x
  unfold nsOf upTo rangeInts
  rw [List.map_map]
  refine List.map_congr_left fun i _ => ?_
  show (((loOf x).toNat + i : Nat) : Int) = _
  omega
theorem nsOf_len (x : Int) : 2 ≤ (nsOf x).length ∧ (nsOf x).length ≤ 5 := by
  have h := list_bounds x
  unfold nsOf
  rw [List.length_map, List.length_range]
  omega
theorem nsOf_get {x : Int} {i n : Nat} (h : (nsOf x)[i]? = some n) : n = (loOf x).toNat + i ∧ n < 1048576 := by
  have hb := list_bounds x
  unfold nsOf at h
  rw [List.getElem?_map] at h
  obtain ⟨j, hj, rfl⟩ := Option.map_eq_some_iff.mp h
  obtain ⟨hl, hj⟩ := List.getElem?_eq_some_iff.mp hj
  rw [List.getElem_range] at hj
  rw [List.length_range] at hl
  omega
/-- a number's row of letters -/
inductive RowAt (yw : List Value) (objs : List (Addr × Obj)) (i n : Nat) : Prop
  | mk (T : Addr) (o : Obj) (its : Array Value) (c : Nat) (_ : yw[i]? = some (.ref T)) (_ : (T, o) ∈ objs) (_ : o.cls = .type "list") (_ : o.data = .seq its c) (_ : StrsAre its.toList ((lets n).map ch))
theorem law_rows {nv yw : List Value} {ns : List Nat} {objs : List (Addr × Obj)} (hnv : IntsAre nv (ns.map Int.ofNat)) (hF : Paired (LObj objs fun v its => ∃ (n : Nat) (t : Tok), v = .int (n : Int) t ∧ StrsAre its.toList ((lets n).map ch)) nv yw) :
    yw.length = ns.length ∧ ∀ (i n : Nat), ns[i]? = some n → RowAt yw objs i n := by
  refine ⟨by rw [← hF.length, hnv.length, List.length_map], fun i n hi => ?_⟩
  obtain ⟨t, ht⟩ := hnv.get i (n : Int) (by rw [List.getElem?_map, hi]; rfl)
  obtain ⟨y, hy, T, o, its, c, rfl, h1, h2, h3, n', t', e, h4⟩ := paired_fwd hF ht
  injection e with e _
  have e : n = n' := by omega
  subst e
  exact ⟨T, o, its, c, hy, h1, h2, h3, h4⟩
theorem fresh_of {h : Heap} {a b : Addr} {oa ob : Obj} (h1 : h.get? a = some oa) (h2 : h.get? b = some ob) (q : Addr) (hq : h.get? q = none) : q ≠ a ∧ q ≠ b :=
  ⟨fun e => (by rw [e, h1] at hq; cases hq), fun e => (by rw [e, h2] at hq; cases hq)⟩
theorem strs_of_get : ∀ {vs : List Value} {ts : List Str}, vs.length = ts.length → (∀ (i : Nat) x, ts[i]? = some x → ∃ u, vs[i]? = some (.str x u)) → StrsAre vs ts
  | [], [], _, _ => .nil
  | [], _ :: _, h, _ => by simp at h
  | _ :: _, [], h, _ => by simp at h
  | v :: vs, x :: ts, hl, h => by
    obtain ⟨u, hu⟩ := h 0 x rfl
    obtain rfl : v = .str x u := by simpa using hu
    exact .cons _ _ (strs_of_get (by simpa using hl) fun i y hi => by simpa using h (i + 1) y (by simpa using hi))
theorem law_paths {yw pv : List Value} {ns : List Nat} {objs l : List (Addr × Obj)} {h h₀ : Heap} {L : Addr} (N : News h₀ L h l) (hsub : ∀ p ∈ objs, p ∈ l) (hyl : yw.length = ns.length)
    (hrows : ∀ (i n : Nat), ns[i]? = some n → RowAt yw objs i n)
    (hF : Paired (fun v y => ∃ (T : Addr) (o : Obj) (its : Array Value) (q : Nat) (r : List Nat) (u : Tok), v = .ref T ∧ (T, o) ∈ objs ∧ o.data = .seq its q ∧ StrsAre its.toList (r.map ch) ∧ y = .str (mkS (pathOf r)) u) yw pv) : StrsAre pv (ns.map fun n => mkS (pathOf (lets n))) := by
  refine strs_of_get (by rw [← hF.length, hyl, List.length_map]) fun i x hi => ?_
  rw [List.getElem?_map] at hi
  obtain ⟨n, hn, rfl⟩ := Option.map_eq_some_iff.mp hi
  obtain ⟨T, o, its, c, hy, hm, _, hd, hs⟩ := hrows i n hn
  obtain ⟨y, hy2, T', o', its', c', r, u, e, hm', hd', hs', rfl⟩ := paired_fwd hF hy
  injection e with e
  subst e
  have e3 : o' = o := Option.some.inj ((N _ (hsub _ hm')).1.symm.trans (N _ (hsub _ hm)).1)
  subst e3
  rw [hd] at hd'
  injection hd' with e4 e5
  subst e4
  rw [map_ch_inj (strs_uniq hs' hs)] at hy2
  exact ⟨u, hy2⟩
def wOf (m : Nat) : Int := numOf (lets m) - sumL (lets m)
theorem starTail_len : ∀ k, (starTail k).length = 2 * k
  | 0 => rfl
  | k + 1 => by rw [starTail, List.length_cons, List.length_cons, starTail_len k]; omega
def tkV (n : Nat) : Value → Bool
  | .str x _ => decide (n % 16 ^ ((x.length - 9) / 2) = 0)
  | _ => false
theorem tkV_star (n k : Nat) (t : Tok) : tkV n (.str (mkS ([40, 63, 115, 58] ++ (46 :: 42 :: starTail k) ++ [41, 92, 90])) t) = decide (n % 16 ^ k = 0) := by
  show decide (n % 16 ^ (((mkS _).length - 9) / 2) = 0) = _
  rw [mkS_len]
  simp only [List.length_append, List.length_cons, List.length_nil, starTail_len]
  rw [show (0 + 1 + 1 + 1 + 1 + (2 * k + 1 + 1) + (0 + 1 + 1 + 1) - 9) / 2 = k by omega]
theorem count_rules (n : Nat) : ∀ {rv : List Value} {ks : List Nat}, StrsAre rv (ks.map fun k => mkS ([40, 63, 115, 58] ++ (46 :: 42 :: starTail k) ++ [41, 92, 90])) → (rv.filter (tkV n)).length = (ks.filter fun k => decide (n % 16 ^ k = 0)).length
  | _, [], .nil => rfl
  | _, k :: ks, .cons _ t h => by
    have ih := count_rules n h
    rw [List.filter_cons, List.filter_cons, tkV_star]
    split <;> simp [ih]
theorem rule_at {rv : List Value} {i : Nat} {v : Value} (h : StrsAre rv ([1, 2, 3, 4].map fun k => mkS ([40, 63, 115, 58] ++ (46 :: 42 :: starTail k) ++ [41, 92, 90]))) (hv : rv[i]? = some v) : ∃ (k : Nat) (t : Tok), 1 ≤ k ∧ k ≤ 4 ∧ v = .str (mkS ([40, 63, 115, 58] ++ (46 :: 42 :: starTail k) ++ [41, 92, 90])) t := by
  have hl := h.len_eq
  have hi := (List.getElem?_eq_some_iff.mp hv).1
  rw [List.length_map] at hl
  obtain ⟨k, hk⟩ : ∃ k, [1, 2, 3, 4][i]? = some k := ⟨_, List.getElem?_eq_getElem (by omega)⟩
  obtain ⟨t, ht⟩ := h.get i _ (by rw [List.getElem?_map, hk]; rfl)
  have hm := List.mem_of_getElem? hk
  refine ⟨k, t, ?_, ?_, Option.some.inj (hv.symm.trans ht)⟩
  all_goals (simp at hm; omega)
theorem least (P : Nat → Prop) (n : Nat) (h : P n) : ∃ j, j ≤ n ∧ P j ∧ ∀ i, i < j → ¬ P i := by
  induction n using Nat.strongRecOn with
  | ind n ih =>
    by_cases hq : ∃ i, i < n ∧ P i
    · obtain ⟨i, hi, hp⟩ := hq
      obtain ⟨j, h1, h2, h3⟩ := ih i hi hp
      exact ⟨j, by omega, h2, h3⟩
    · exact ⟨n, Nat.le_refl n, h, fun i hi hp => hq ⟨i, hi, hp⟩⟩
theorem least_block {a b : Nat} (ha : a < 1048576) (hb : b < 1048576) : ∃ j, j ≤ 5 ∧ a / 16 ^ j = b / 16 ^ j ∧ ∀ i, i < j → a / 16 ^ i ≠ b / 16 ^ i := by
  refine least (fun j => a / 16 ^ j = b / 16 ^ j) 5 ?_
  show a / 16 ^ 5 = b / 16 ^ 5
  rw [show (16 : Nat) ^ 5 = 1048576 from rfl]
  omega
theorem steps_ledger {h₀ h : Heap} {L a : Addr} {n vn : Nat} {t : Tok} {ws : List Value} {l : List (Addr × Obj)} (hvn : vN n = vn) (N : News h₀ L h ((a, lst ((List.replicate ((vn : Int) + 1).toNat [Value.str (Str.ofString "..") t]).flatten ++ ws)) :: l))
    (hws : StrsAre ws (((lets n).drop (4 - vn)).map ch)) : ∃ wsN, News h₀ L h ((a, lst wsN) :: l) ∧ StrsAre wsN ((stepsOf n).map mkS) := by
  refine ⟨_, N, ?_⟩
  rw [stepsOf, List.map_append, List.map_replicate, hvn, show mkS dd = Str.ofString ".." by decide +kernel, show ((vn : Int) + 1).toNat = vn + 1 by omega]
  refine (rep_str _ _ _).append' ?_
  rw [sing, List.map_map]
  exact hws
theorem seg_path (m : Nat) : Seg (pathOf (lets m)) := by
  rw [path_lets]
  refine ⟨by simp, ?_, ?_, by simp⟩
  · simp; omega
  · simp; omega
theorem seg_steps {n : Nat} : ∀ b ∈ stepsOf n, Seg b := by
  intro b hb
  rcases norm_nam (n := n) b (List.mem_append_right _ hb) with rfl | ⟨x, rfl, h1, h2⟩
  · exact ⟨by decide, by decide, by decide, by decide⟩
  · exact ⟨by simp, by simp; omega, by simp; omega, by simp⟩
theorem starTail_sgn : ∀ k, ∀ c ∈ starTail k, Sgn c
  | 0, _, h => nomatch h
  | k + 1, c, h => by
    rcases List.mem_cons.mp h with rfl | h
    · exact .inl rfl
    · rcases List.mem_cons.mp h with rfl | h
      · exact .inr ⟨by decide, by decide⟩
      · exact starTail_sgn k c h
theorem mulE {prog : Program} {w : World} {A : Around} {E : Value → Shared → Prop} {s : Shared} {l : Addr} {vs : List Value} {k : Nat} {x : Int} {u : Tok} {Q : Value → Shared → Prop} (hl : s.heap.get? l = some (lst vs k)) (hlo : 0 ≤ x) (hhi : x < 1000) (hsz : vs.length * x.toNat ≤ 256)
    (h : Q (.ref s.heap.objs.size) { s with heap := s.heap.push (lst (List.replicate x.toNat vs).flatten) }) : wpAny (model prog w) A (binaryOp .Mult (.ref l) (.int x u)) Q E s := by
  have hsz' : vs.toArray.size * x.toNat ≤ 256 := by simpa using hsz
  refine wpAny_binaryOp_repeat_ref (T := "list") (U := "int") (by decide) ⟨_, hl, rfl⟩ (fun s' => typeIs_int s' x u) noFill_list_mul PySem.F.fills_int_mul PySem.F.slot_int_rmul repeat_list PySem.F.slot_int_index.lookup
    (call_meets PySem.F.slot_int_rmul (typeIs_int s x u) PySem.F.entry_int_rmul (PySem.F.args_int_rmul_2 _ _) (lm_int_rmul_list_any x u l vs.toArray k none #[])
      ⟨hl, rfl, ⟨_, hl, rfl⟩, call_meets PySem.F.slot_list_mul ⟨_, hl, rfl⟩ PySem.F.entry_list_mul (PySem.F.args_list_mul_2 _ _)
        (lm_list_mul_any l vs.toArray k none #[] x u (by simp [Builtin.List.listFitsIndex]; omega) (by omega) (by simp [Builtin.List.listTooLong, sizeLine]; omega))
        ⟨hl, ?_⟩⟩)
  rw [listMul_foldl_if]
  exact h
theorem rules_are {vs rv : List Value} (hlen : vs.length = (5 - 1 : Int).toNat) (hP : ∀ (j : Nat) v, vs[j]? = some v → j < (5 - 1 : Int).toNat ∧ ∃ t, v = .int (1 + (j : Int)) t)
    (hF : Paired (fun v y => ∃ (k : Nat) (t u : Tok), 1 ≤ k ∧ k ≤ 4 ∧ v = .int (k : Int) t ∧ y = .str (mkS ([40, 63, 115, 58] ++ (46 :: 42 :: starTail k) ++ [41, 92, 90])) u) vs rv) :
    StrsAre rv ([1, 2, 3, 4].map fun k => mkS ([40, 63, 115, 58] ++ (46 :: 42 :: starTail k) ++ [41, 92, 90])) := by
  have key : ∀ (vs rv : List Value) (b : Nat), (∀ (j : Nat) v, vs[j]? = some v → ∃ t, v = .int ((b + j : Nat) : Int) t) → Paired (fun v y => ∃ (k : Nat) (t u : Tok), 1 ≤ k ∧ k ≤ 4 ∧ v = .int (k : Int) t ∧ y = .str (mkS ([40, 63, 115, 58] ++ (46 :: 42 :: starTail k) ++ [41, 92, 90])) u) vs rv →
      StrsAre rv ((List.range' b vs.length).map fun k => mkS ([40, 63, 115, 58] ++ (46 :: 42 :: starTail k) ++ [41, 92, 90])) := by
    intro vs rv b h hp
    induction hp generalizing b with
    | nil => exact .nil
    | cons hd tl ih =>
      obtain ⟨k, t, u, _, _, rfl, rfl⟩ := hd
      obtain ⟨t', e⟩ := h 0 _ rfl
      injection e with e _
      have e : k = b := by omega
      subst e
      rw [List.length_cons, List.range'_succ, List.map_cons]
      refine .cons _ _ (ih (k + 1) fun j v hv => ?_)
      obtain ⟨t2, e2⟩ := h (j + 1) v (by simpa using hv)
      exact ⟨t2, by rw [e2, show k + (j + 1) = k + 1 + j by omega]⟩
  have := key vs rv 1 (fun j v hv => by
    obtain ⟨_, t, e⟩ := hP j v hv
    exact ⟨t, by rw [e]; congr 1⟩) hF
  rw [hlen] at this
  exact this
variable {w : World} {mean : ExcName → Option Value} {mg mb : Str → Option Value}
theorem norm_path {n : Nat} (hn1 : 1 ≤ n) (hn16 : n < 1048576) (t : Tok) : Fn w mean mg mb 191 50 300 [.str (mkS (joinL (pathOf (lets (n - 1))) (stepsOf n))) t] (fun _ => True) (fun _ v _ => ∃ t, v = .str (mkS (pathOf (lets n))) t) := by
  have e : joinL (pathOf (lets (n - 1))) (stepsOf n) = joinL [65 + (n - 1) / 65536 % 16] (sing [65 + (n - 1) / 4096 % 16, 65 + (n - 1) / 256 % 16, 65 + (n - 1) / 16 % 16, 65 + (n - 1) % 16] ++ stepsOf n) := join_path_append _ _ _
  rw [e]
  have hv4 := vN_le n
  have h := normpath_spec (w := w) (mean := mean) (mg := mg) (mb := mb) [65 + (n - 1) / 65536 % 16] (sing [65 + (n - 1) / 4096 % 16, 65 + (n - 1) / 256 % 16, 65 + (n - 1) / 16 % 16, 65 + (n - 1) % 16] ++ stepsOf n) t (norm_nam (n := n)) (norm_full (n := n))
    (fun h => (by have e := (norm_stk hn1 hn16).symm.trans h; cases e))
    (by rw [List.length_append, stepsOf, List.length_append, List.length_replicate, List.length_map, List.length_map, List.length_drop, lets_len]; simp; omega)
  rintro dp un fr gd s R hr G hp hR
  refine h _ _ _ _ _ _ hr G trivial ?_
  rintro v h' tk k ⟨c39, r39, t39, hst, rfl⟩
  have hst2 : sing (lets n) = c39 :: r39 := (norm_stk hn1 hn16).symm.trans hst
  obtain ⟨e1, e2⟩ := List.cons.inj hst2
  rw [show joinL c39 r39 = pathOf (lets n) by rw [← e1, ← e2]; rfl]
  walk_at "m hd"
  exact hR _ _ _ k ⟨t39, rfl⟩
/-- what holds ahead of a turn of the law's own loop -/
inductive J23 (L DR : Addr) (rv : List Value) (cR : Nat) (i : Nat) (m : Str → Option Value) (news₁ : List (Addr × Obj)) : Prop
  | mk (ok op : Obj) (v0 v1 : Option Value) (_ : news₁ = [(L + 1, ok), (L + 1 + 1, op), (DR, lst rv cR)]) (_ : ok.data = .cell v0) (_ : op.data = .cell v1) (_ : m (Str.ofString "rules") = some (.ref DR))
/-- behind the first loop over k -/
inductive K23a (h₀ : Heap) (L : Addr) (s₁ : Shared) (m : Str → Option Value) (T : List (Addr × Obj)) (f : Flow) (s' : Shared) : Prop
  | mk (_ : f = Flow.next) (h : Heap) (tk : Nat) (ok' : Obj) (v0' : Option Value) (_ : s' = { s₁ with heap := h, toks := tk }) (_ : Fr h₀ L h m) (_ : News h₀ L h ((L + 1, ok') :: T)) (_ : ok'.data = .cell v0')
/-- ahead of a turn of the first loop over k -/
inductive J23c (L : Addr) (m₀ : Str → Option Value) (T : List (Addr × Obj)) (i : Nat) (m : Str → Option Value) (news₁ : List (Addr × Obj)) : Prop
  | mk (_ : m = m₀) (ok' : Obj) (v0' : Option Value) (_ : news₁ = (L + 1, ok') :: T) (_ : ok'.data = .cell v0')
/-- behind the second loop over k -/
inductive K23b (h₀ : Heap) (L DR DW DN : Addr) (d : Int) (s₁ : Shared) (T : List (Addr × Obj)) (f : Flow) (s' : Shared) : Prop
  | mk (_ : f = Flow.next) (h : Heap) (tk : Nat) (ok' : Obj) (v0' : Option Value) (m2 : Str → Option Value) (tot : Int) (u : Tok) (_ : s' = { s₁ with heap := h, toks := tk }) (_ : Fr h₀ L h m2) (_ : News h₀ L h ((L + 1, ok') :: T)) (_ : ok'.data = .cell v0')
    (_ : m2 (Str.ofString "rules") = some (.ref DR)) (_ : m2 (Str.ofString "rows") = some (.ref DW)) (_ : m2 (Str.ofString "numbers") = some (.ref DN)) (_ : m2 (Str.ofString "total") = some (.int tot u)) (_ : 0 ≤ tot) (_ : tot ≤ 20) (_ : 15 * tot = d)
/-- the names of the second loop over k -/
inductive J23t (DR DW DN : Addr) (b d : Int) (m : Str → Option Value) : Prop
  | mk (tot : Int) (u : Tok) (_ : m (Str.ofString "rules") = some (.ref DR)) (_ : m (Str.ofString "rows") = some (.ref DW)) (_ : m (Str.ofString "numbers") = some (.ref DN)) (_ : m (Str.ofString "total") = some (.int tot u)) (_ : 0 ≤ tot) (_ : tot ≤ b) (_ : 15 * tot = d)
/-- ahead of a turn of the second loop over k -/
inductive J23d (L DR DW DN : Addr) (T : List (Addr × Obj)) (lo : Nat) (i : Nat) (m : Str → Option Value) (news₁ : List (Addr × Obj)) : Prop
  | mk (_ : J23t DR DW DN (4 * (i : Int)) (wOf (lo + i) - wOf lo) m) (ok' : Obj) (v0' : Option Value) (_ : news₁ = (L + 1, ok') :: T) (_ : ok'.data = .cell v0')
set_option maxRecDepth 100000 in
set_option maxHeartbeats 8000000 in
theorem law_spec (l : Addr) (vs : List Value) (xs : List Int) (hi : IntsAre vs xs) (hn : xs.length ≤ 63) : Fn w mean mg mb 244 100 800 [.ref l] (fun h => h.IsList l vs.toArray) (fun _ v _ => v = .bool true) := by
  rintro dp un fr gd s R hr G hl hR
  refine' enterC (d := 99) (u := 797) (binds := [(Str.ofString "script", .ref l)]) hr G ?ho ?hcd ?hb ?hl ?hc ?_ ?c1 ?c2 ?c3
  (case ho => k_dflt k_is)
  (case hcd => k_dflt k_is)
  (case hb => exact BindsTo.of_eq rfl)
  (case hl => rfl)
  (case hc => decide)
  (case c1 => rfl)
  (case c2 => rfl)
  (case c3 => rfl)
  intro L h₁ tk cells hr' F N Y X T
  refine wp_in (by passes_own) hr' ?_
  clear hr'
  intro dp un fr gd Q₀ E₀ hr' hE₀ hQ₀
  k_cells Y
  walk_at "m ec"
  walk_at "m go3"
  refine' comp_vals_assign ?w1 ?w2 ?w3 ?w4 ?w5 ?w6 ?w7 ?w8 ?_ ?w9
  case w1 => rfl
  case w2 => rfl
  case w3 => decide
  case w4 => rfl
  case w5 => decide
  case w6 => rfl
  case w7 => rfl
  case w8 => rfl
  case w9 => intro _; rfl
  walk_at "m go3"
  rename IsRange _ _ _ _ _ _ _ _ => hrg
  rename Fr _ _ _ _ => F1
  rename News _ _ _ _ => N1
  refine' CompAtA.mk (fun _ => true) (fun v y => ∃ (k : Nat) (t u : Tok), 1 ≤ k ∧ k ≤ 4 ∧ v = .int (k : Int) t ∧ y = .str (mkS ([40, 63, 115, 58] ++ (46 :: 42 :: starTail k) ++ [41, 92, 90])) u) rfl F1 N1 (Iter.range hr'.handled hrg (by decide) (by decide) (by decide) (by decide) F1.ns.lt) ?sz ?tests ?helt ?fin
  case sz => rw [sizeLine_eq]; decide
  case tests => intros; exact tests_none ⟨rfl, keeps_tok _ _⟩
  case helt =>
    rintro C i v s₃ m₃ E' hv - F3 hm
    obtain ⟨hi4, t, rfl⟩ := hv
    have hi4 : i < 4 := hi4
    have X3 := X.keeps F1.keep
    have T3 := T.keeps F1.keep
    walk1
    walk_at "m go4"
    walk1
    walk_at "m go4"
    walk1
    walk_at "m go4"
    refine wpAny_List_spliced ?_
    walk_at "m go4"
    have F4 := Fr.push F3 (lst [Value.str (Str.ofString "A") (s₃.toks + 1)])
    walk_at "m go4"
    refine mulE (vs := [Value.str (Str.ofString "A") (s₃.toks + 1)]) (k := 0) (Heap.get?_push_size _ rfl) (by omega) (by omega) (by simp; omega) ?_
    have hka : (1 + (i : Int)).toNat = i + 1 := by omega
    rw [hka]
    have hvA := rep_str (Str.ofString "A") (s₃.toks + 1) (i + 1)
    have hlA := hvA.len_eq
    rw [List.length_replicate] at hlA
    refine star_at (vs := (List.replicate (i + 1) [Value.str (Str.ofString "A") (s₃.toks + 1)]).flatten) (isList_of (Heap.get?_push_size _ rfl)) (by omega) ?_
    intro h6 e6
    have ex6 : Ext s₃.heap h6 := Ext.trans (Ext.push _ _) (Ext.trans (Ext.push _ _) e6)
    have F6 := Fr.ext F3 ex6
    clear F4
    walk_at "m go4"
    rw [List.append_nil, show Str.ofString "*" = mkS [42] by decide +kernel]
    have hvA2 : StrsAre (List.replicate (i + 1) [Value.str (Str.ofString "A") (s₃.toks + 1)]).flatten ((List.replicate (i + 1) [65]).map mkS) := by
      rw [List.map_replicate, show mkS [65] = Str.ofString "A" by decide +kernel]; exact hvA
    refine call_fn (join_spec [42] _ (List.replicate (i + 1) [65]) _ ⟨by simp, by simp, by simp, by simp⟩ (fun b hb => by rw [List.eq_of_mem_replicate hb]; exact ⟨by simp, by simp, by simp, by simp⟩) (by rw [List.length_replicate]; omega) hvA2) F6 News.nil X3 T3 (hr'.mono (by decide) (by decide)) trivial ?_
    rintro v h7 tk7 e7 F7 - ⟨t7, rfl⟩
    rw [star_path]
    walk_at "m go4"
    refine call_fn (translate_star (starTail (i + 1)) t7 (starTail_sgn _) (by rw [starTail_len]; omega) (by rw [starTail_len]; omega)) F7 News.nil X3 T3 (hr'.mono (by decide) (by decide)) trivial ?_
    rintro v h8 tk8 e8 F8 - ⟨t8, rfl⟩
    exact ⟨⟨i + 1, t, t8, by omega, by omega, by rw [show (1 : Int) + (i : Int) = ((i + 1 : Nat) : Int) by omega], rfl⟩, keeps_of (Ext.trans ex6 (Ext.trans e7 e8))⟩
  case fin =>
    rintro DR rv cR vs' h3 tk3 F3 N3 hDR hlen3 hP3 hF3
    rw [filter_all] at hF3
    change Fr s.heap L h3 _ at F3
    change News s.heap L h3 _ at N3
    have hrules := rules_are hlen3 hP3 hF3
    have hDRk : DR ≠ L + 1 := fun e => by have := (N1 _ (.tail _ (.head _))).1; rw [← e] at this; rw [show Heap.get? _ DR = none from hDR] at this; cases this
    have hDRp : DR ≠ L + 1 + 1 := fun e => by have := (N1 _ (.head _)).1; rw [← e] at this; rw [show Heap.get? _ DR = none from hDR] at this; cases this
    clear F1 N1 hlen3 hP3 hF3 hrg
    walk_at "m go3"
    have hvl : vs.length ≤ 63 := by rw [hi.length]; exact hn
    refine' For_invTF F3 ?_ ?hs ?hE
    case hs => intro _; rfl
    case hE => first | assumption | passes_own
    walk_at "m go3"
    refine' slice_take (vs := vs) F3 N3 (hl.at fun o x => F3.keep _ o x) (by decide) (by omega) ?_ ?hs ?ht
    case hs => with_unfolding_all rfl
    case ht => kmk_pure
    intro D4 h4 F4 N4
    walk_at "m go3"
    rename Fr _ _ _ _ => F5
    rename News _ _ _ _ => N5
    refine add_arrays F5 N5 (N5.isList (.tail _ (.head _))) (N5.isList (.head _)) ?_ ?_
    rotate_left
    · simp only [List.size_toArray]
      rw [sizeLine_eq, List.length_take]
      simp; omega
    intro h6 F6 N6
    dsimp only at F6 N6 ⊢
    have hws := ints_append (ints_take hi (3 : Int).toNat) (.cons 63 (tk3 + 1) .nil)
    have N7 := News.cons (N6 _ (.tail _ (.tail _ (.tail _ (.tail _ (.tail _ (.head _))))))) (News.cons (N6 _ (.tail _ (.tail _ (.tail _ (.tail _ (.head _)))))) (News.cons (N6 _ (.tail _ (.tail _ (.tail _ (.head _))))) News.nil))
    refine iter_list_T (vs := vs.take (3 : Int).toNat ++ [Value.int 63 (tk3 + 1)]) (J23 L DR rv cR)
      hr'.handled (isList_of (N6.get (.head _))) (N6 _ (.head _)).2.1 ?hln F6 N7 ?hj ?turn ?done rfl (fun _ _ => rfl)
    case hln =>
      intro q hq
      simp only [List.mem_cons, List.not_mem_nil, or_false] at hq
      rcases hq with rfl | rfl | rfl
      · exact Nat.ne_of_gt (Heap.lt_size (N5 _ (.tail _ (.tail _ (.tail _ (.tail _ (.head _)))))).1)
      · exact Nat.ne_of_gt (Heap.lt_size (N5 _ (.tail _ (.tail _ (.tail _ (.head _))))).1)
      · exact Nat.ne_of_gt (Heap.lt_size (N5 _ (.tail _ (.tail _ (.head _)))).1)
    case hj => exact ⟨_, _, _, _, rfl, by assumption, by assumption, rfl⟩
    case done =>
      rintro m₁ news₁ h tk - - F8 N8
      walk_at "m go3"
      walk_at "m hd"
      exact hR _ _ _ F8.keep rfl
    case turn =>
      rintro i x m₁ news₁ s₁ own hxi ⟨ok, op, v0, v1, rfl, hok, hop, hmr⟩ - hown F8 N8
      obtain ⟨xv, tx, rfl, -⟩ := ints_item hws i x hxi
      clear F6 N6 N7 hxi hws
      walk_at "m go3"
      rename Fr _ _ _ _ => F9
      rename News _ _ _ _ => N9
      have hownk : ∀ p ∈ own, p.1 ≠ L + 1 := fun p hp => hown p hp (L + 1, ok) (.head _)
      have hownp : ∀ p ∈ own, p.1 ≠ L + 1 + 1 := fun p hp => hown p hp (L + 1 + 1, op) (.tail _ (.head _))
      walk1
      walk_at "m go3"
      refine call_fn (listing_spec xv tx) F9 N9 X T (hr'.mono (by decide) (by decide)) trivial ?_
      rintro v h10 tk10 e10 F10 N10 ⟨DN, nv, cN, rfl, hDN0, hDN1, hnv⟩
      rw [← nsOf_ints] at hnv
      have hlen := nsOf_len xv
      have hget : ∀ (i n : Nat), (nsOf xv)[i]? = some n → n = (loOf xv).toNat + i ∧ n < 1048576 := fun i n h => nsOf_get h
      generalize nsOf xv = ns at hnv hlen hget ⊢
      generalize (loOf xv).toNat = lo at hget
      have hDNk : DN ≠ L + 1 := fun e => by have := (N9 _ (List.mem_append_right _ (.head _))).1; rw [← e, hDN0] at this; cases this
      have hDNp : DN ≠ L + 1 + 1 := fun e => by have := (N9 _ (List.mem_append_right _ (.tail _ (.head _)))).1; rw [← e, hDN0] at this; cases this
      have N11 := News.add F9 N10 hDN0 hDN1
      have hnl : nv.length = ns.length := by rw [hnv.length, List.length_map]
      clear F9 N9 N10
      walk_at "m go3"
      rename Fr _ _ _ _ => F12
      rename News _ _ _ _ => N12
      refine' comp_objs_assign ?w1 ?w2 ?w3 ?w4 ?w5 ?w6 ?w7 ?w8 ?_ ?w9
      case w1 => rfl
      case w2 => rfl
      case w3 => decide
      case w4 => rfl
      case w5 => decide
      case w6 => rfl
      case w7 => rfl
      case w8 => rfl
      case w9 => intro _; rfl
      walk_at "m go3"
      refine' CompAtO.mk (fun _ => true) (fun v its => ∃ (n : Nat) (t : Tok), v = .int (n : Int) t ∧ StrsAre its.toList ((lets n).map ch)) rfl F12 N12 (Iter.list (vs := nv) hr'.handled (isList_of (N12.get (.head _))) (N12 _ (.head _)).2.1 F12.ns.lt) ?sz ?tests ?helt ?fin
      case sz => rw [sizeLine_eq]; omega
      case tests => intros; exact tests_none ⟨rfl, keeps_tok _ _⟩
      case helt =>
        rintro C i v s₃ m₃ E' hv - F13 hm
        have X3 := X.keeps F12.keep
        have T3 := T.keeps F12.keep
        obtain ⟨n, tn, rfl, hn1⟩ := item_nat hnv hv
        have hn16 := (hget i n hn1).2
        walk1
        walk_at "m go3"
        walk1
        walk_at "m go3"
        refine call_fn (letters_spec n tn hn16) F13 News.nil X3 T3 (hr'.mono (by decide) (by decide)) trivial ?_
        rintro v h14 tk14 e14 F14 - ⟨D14, ws14, c14, rfl, hD0, hD1, hws14⟩
        exact ⟨⟨D14, ws14.toArray, rfl, hD0, isList_of hD1, n, tn, rfl, hws14⟩, keeps_of e14⟩
      case fin =>
        rintro DW yw cW vw objs h15 tk15 F15 N15 hDW hobjs hlenW hPW hFW
        rw [filter_all, list_of_idx hlenW hPW] at hFW
        change Fr s.heap L h15 _ at F15
        change News s.heap L h15 _ at N15
        obtain ⟨hyl, hrows⟩ := law_rows hnv hFW
        have hc1 := (N12 _ (.tail _ (List.mem_append_right _ (.head _)))).1
        have hc2 := (N12 _ (.tail _ (List.mem_append_right _ (.tail _ (.head _))))).1
        have freshk := @fresh_of _ _ _ _ _ hc1 hc2
        have hk : ∀ p ∈ (DW, lst yw cW) :: (DN, lst nv cN) :: (DR, lst rv cR) :: (objs ++ own), p.1 ≠ L + 1 ∧ p.1 ≠ L + 1 + 1 := by
          intro p hp
          rcases List.mem_cons.mp hp with rfl | hp
          · exact freshk _ hDW
          · rcases List.mem_cons.mp hp with rfl | hp
            · exact ⟨hDNk, hDNp⟩
            · rcases List.mem_cons.mp hp with rfl | hp
              · exact ⟨hDRk, hDRp⟩
              · rcases List.mem_append.mp hp with hp | hp
                · exact freshk _ (hobjs p hp).1
                · exact ⟨hownk p hp, hownp p hp⟩
        have N16 : News s.heap L h15 ((L + 1, ok) :: (L + 1 + 1, op) :: (DW, lst yw cW) :: (DN, lst nv cN) :: (DR, lst rv cR) :: (objs ++ own)) := News.sub N15 (by
          walk_at "m sb")
        clear N15 N12 F12 hFW hPW hlenW hobjs hDW hc1 hc2 freshk
        have hkk : ∀ p ∈ (L + 1 + 1, op) :: (DW, lst yw cW) :: (DN, lst nv cN) :: (DR, lst rv cR) :: (objs ++ own), p.1 ≠ L + 1 := by
          intro p hp
          rcases List.mem_cons.mp hp with rfl | hp
          · exact Nat.ne_of_gt (Nat.lt_succ_self _)
          · exact (hk p hp).1
        walk_at "m go3"
        refine wpAny_mono (Q := K23a s.heap L s₁ (fun z => if z = Str.ofString "rows" then some (Value.ref DW) else if z = Str.ofString "numbers" then some (Value.ref DN) else if z = Str.ofString "x" then some (Value.int xv tx) else m₁ z) ((L + 1 + 1, op) :: (DW, lst yw cW) :: (DN, lst nv cN) :: (DR, lst rv cR) :: (objs ++ own))) ?cfor ?crest (fun _ _ e => e)
        case cfor =>
          refine' For_invTF F15 ?_ ?hs ?hE
          case hs => intro _; rfl
          case hE => first | assumption | passes_own
          walk_at "m go3"
          refine PyProof.Rows.len_list (isList_of (N16.get (.tail _ (.tail _ (.tail _ (.head _)))))) (by simp; omega) ?_
          rw [List.size_toArray, hnl]
          walk_at "m go3"
          rename IsRange _ _ _ _ _ _ _ _ => hrg
          rename Fr _ _ _ _ => F18
          rename News _ _ _ _ => N18
          refine iter_range_T (J23c L (fun z => if z = Str.ofString "rows" then some (Value.ref DW) else if z = Str.ofString "numbers" then some (Value.ref DN) else if z = Str.ofString "x" then some (Value.int xv tx) else m₁ z) ((L + 1 + 1, op) :: (DW, lst yw cW) :: (DN, lst nv cN) :: (DR, lst rv cR) :: (objs ++ own))) hr'.handled hrg (by decide) (by decide) (by omega) (by omega) F18 N18 ?hj ?turn ?done rfl (fun _ _ => rfl)
          case hj => exact ⟨rfl, _, _, rfl, hok⟩
          case done =>
            rintro m2 news₁ h tk ⟨rfl, ok', v0', rfl, hok'⟩ - F19 N19
            exact ⟨rfl, h, tk, ok', v0', rfl, F19, N19, hok'⟩
          case turn =>
            rintro i t m2 news₁ s₂ own2 hin ⟨rfl, ok', v0', rfl, hok'⟩ - hown2 F19 N19
            clear F18 N18 hrg
            have hi : i < ns.length := by omega
            obtain ⟨n, hn⟩ : ∃ n, ns[i]? = some n := ⟨_, List.getElem?_eq_getElem hi⟩
            obtain ⟨T1, o1, its1, q1, hy1, hm1, hcl1, hda1, hs1⟩ := hrows i n hn
            obtain ⟨tn, htn⟩ := hnv.get i (n : Int) (by rw [List.getElem?_map, hn]; rfl)
            rw [Int.zero_add]
            refine assign_Name ?_
            refine store_cell (c := L + 1) (o := ok') (rest := own2 ++ (L + 1 + 1, op) :: (DW, lst yw cW) :: (DN, lst nv cN) :: (DR, lst rv cR) :: (objs ++ own)) F19 (News.sub N19 (fun p hp => ?_)) hok' (fun p hp => ?_) rfl rfl rfl ?_
            · rcases List.mem_cons.mp hp with rfl | hp
              · exact List.mem_append_right _ (.head _)
              · rcases List.mem_append.mp hp with hp | hp
                · exact List.mem_append_left _ hp
                · exact List.mem_append_right _ (.tail _ hp)
            · rcases List.mem_append.mp hp with hp | hp
              · exact hown2 p hp (L + 1, ok') (.head _)
              · exact hkk p hp
            intro h20 ok2 F20 N20 hok2
            clear F19 N19
            have ml : ∀ {p : Addr × Obj}, p ∈ (L + 1 + 1, op) :: (DW, lst yw cW) :: (DN, lst nv cN) :: (DR, lst rv cR) :: (objs ++ own) → p ∈ (L + 1, ok2) :: (own2 ++ (L + 1 + 1, op) :: (DW, lst yw cW) :: (DN, lst nv cN) :: (DR, lst rv cR) :: (objs ++ own)) := fun hp => .tail _ (List.mem_append_right _ hp)
            have hn16 := (hget i n hn).2
            have hsz1 : its1.size = 5 := by
              have := hs1.len_eq
              rw [List.length_map, lets_len] at this
              simpa using this
            have hT1 : Heap.IsList h20 T1 its1 := ⟨o1, News.get N20 (ml (.tail _ (.tail _ (.tail _ (.tail _ (List.mem_append_left _ hm1)))))), hcl1, q1, hda1⟩
            have gW : Heap.IsList h20 DW yw.toArray := isList_of (News.get N20 (ml (.tail _ (.head _))))
            have gN : Heap.IsList h20 DN nv.toArray := isList_of (News.get N20 (ml (.tail _ (.tail _ (.head _)))))
            walk_at "m ec"
            walk_at "m go3"
            refine item_listL gW (by omega) (by omega) (by simpa using hy1) ?_
            walk_at "m go3"
            refine PyProof.Rows.len_list hT1 (by rw [hsz1]; decide) ?_
            rw [hsz1]
            walk_at "m go3"
            walk1
            walk_at "m go3"
            refine item_listL gW (by omega) (by omega) (by simpa using hy1) ?_
            walk_at "m go3"
            refine call_fn (num_spec T1 (lets n) (lets_lets n) rfl) F20 N20 X T (hr'.mono (by decide) (by decide)) ⟨its1.toList, hT1, hs1⟩ ?_
            rintro v h21 tk21 e21 F21 N21 ⟨t21, rfl⟩
            rw [num_lets hn16]
            walk_at "m go3"
            refine item_listL (isList_of (News.get N21 (ml (.tail _ (.tail _ (.head _)))))) (by omega) (by omega) (by simpa using htn) ?_
            have hnn : ((n : Int) != (n : Int)) = false := by simp
            walk_at "m go4"
            walk_at "m hd"
            refine wpAny_execs_nil ?_
            (try dsimp only)
            walk_at "m hd"
            refine wpAny_execs_nil ?_
            refine ⟨rfl, _, _, _, (L + 1, ok2) :: (L + 1 + 1, op) :: (DW, lst yw cW) :: (DN, lst nv cN) :: (DR, lst rv cR) :: (objs ++ own), rfl, F21, News.sub N21 (fun p hp => ?_), rfl, rfl, ok2, _, rfl, hok2⟩
            rcases List.mem_append.mp hp with hp | hp
            · exact .tail _ (List.mem_append_left _ hp)
            · rcases List.mem_cons.mp hp with rfl | hp
              · exact .head _
              · exact .tail _ (List.mem_append_right _ hp)
        case crest =>
          rintro f s' ⟨rfl, h17, tk17, ok', v0', rfl, F17, N17, hok'⟩
          clear F15 N16 hok
          walk_at "m go3"
          refine wpAny_Assign_Name ?_
          refine' comp_vals ?c1 ?c2 ?c3 ?c4 ?c5 ?_ ?c6
          walk_at "m comp"
          walk_at "m go3"
          refine' CompAt.mk (fun _ => true) (fun v y => ∃ (T : Addr) (o : Obj) (its : Array Value) (q : Nat) (r : List Nat) (u : Tok), v = .ref T ∧ (T, o) ∈ objs ∧ o.data = .seq its q ∧ StrsAre its.toList (r.map ch) ∧ y = .str (mkS (pathOf r)) u) F17 N17 (Iter.list (vs := yw) hr'.handled (isList_of (N17.get (.tail _ (.tail _ (.head _))))) (N17 _ (.tail _ (.tail _ (.head _)))).2.1 F17.ns.lt) ?sz ?tests ?helt ?fin
          case sz => rw [sizeLine_eq]; omega
          case tests => intros; exact tests_none ⟨rfl, keeps_tok _ _⟩
          case helt =>
            rintro C i v s₃ m₃ E' hv - F18 hm
            have X3 := X.keeps F17.keep
            have T3 := T.keeps F17.keep
            obtain ⟨n, hn⟩ : ∃ n, ns[i]? = some n := ⟨_, List.getElem?_eq_getElem (by have := (List.getElem?_eq_some_iff.mp hv).1; omega)⟩
            obtain ⟨T1, o1, its1, q1, hy1, hm1, hcl1, hda1, hs1⟩ := hrows i n hn
            obtain rfl : v = .ref T1 := Option.some.inj (hv.symm.trans hy1)
            have hn16 := (hget i n hn).2
            walk1
            walk_at "m go4"
            walk1
            walk_at "m go4"
            have hT1 : Heap.IsList h17 T1 its1.toList.toArray := ⟨o1, N17.get (.tail _ (.tail _ (.tail _ (.tail _ (.tail _ (List.mem_append_left _ hm1)))))), hcl1, q1, by simpa using hda1⟩
            have hl1 := hs1.len_eq
            rw [List.length_map, lets_len] at hl1
            refine star_at (vs := its1.toList) (hT1.at fun o x => F18.keep _ o x) (by omega) ?_
            intro h19 e19
            have F19 := Fr.ext F18 e19
            walk_at "m go4"
            obtain ⟨tc, vs1, ev, hv1⟩ := strs_split (c := 65 + n / 65536 % 16) (l := [65 + n / 4096 % 16, 65 + n / 256 % 16, 65 + n / 16 % 16, 65 + n % 16]) hs1
            rw [ev]
            refine call_fn (join_names _ _ tc vs1 (fun d hd => by have := lets_lets n d hd; omega) (by simp) hv1) F19 News.nil X3 T3 (hr'.mono (by decide) (by decide)) trivial ?_
            rintro v h20 tk20 e20 F20 - ⟨t20, rfl⟩
            exact ⟨⟨T1, o1, its1, q1, lets n, t20, rfl, hm1, hda1, hs1, rfl⟩, keeps_of (Ext.trans e19 e20)⟩
          case fin =>
            rintro DP pv cP vs' h18 tk18 F18 N18 e18 hDP hlen18 hP18 hF18
            rw [filter_all, list_of_idx hlen18 hP18] at hF18
            change Fr s.heap L h18 _ at F18
            change News s.heap L h18 _ at N18
            have hps := law_paths N17 (fun p hp => .tail _ (.tail _ (.tail _ (.tail _ (.tail _ (List.mem_append_left _ hp)))))) hyl hrows hF18
            have hpl : pv.length = ns.length := by rw [hps.len_eq, List.length_map]
            have hc1 := (N17 _ (.head _)).1
            have hc2 := (N17 _ (.tail _ (.head _))).1
            have hkP := @fresh_of _ _ _ _ _ hc1 hc2 _ hDP
            have hpath : ∀ (i n : Nat), ns[i]? = some n → ∃ u, pv[i]? = some (.str (mkS (pathOf (lets n))) u) := fun i n h => hps.get i _ (by rw [List.getElem?_map, h]; rfl)
            clear hP18 hF18 hlen18 hc1 hc2 hDP
            refine store_cell (c := L + 1 + 1) (o := op) (rest := (L + 1, ok') :: (DP, lst pv cP) :: (DW, lst yw cW) :: (DN, lst nv cN) :: (DR, lst rv cR) :: (objs ++ own)) F18 (News.sub N18 ?_) hop (fun p hp => ?_) rfl rfl rfl ?_
            · walk_at "m sb"
            · rcases List.mem_cons.mp hp with rfl | hp
              · exact Nat.ne_of_lt (Nat.lt_succ_self _)
              · rcases List.mem_cons.mp hp with rfl | hp
                · exact hkP.2
                · exact (hk p hp).2
            intro h19 op2 F19 N19 hop2
            have N20 : News s.heap L h19 ((L + 1, ok') :: (L + 1 + 1, op2) :: (DP, lst pv cP) :: (DW, lst yw cW) :: (DN, lst nv cN) :: (DR, lst rv cR) :: (objs ++ own)) := News.sub N19 (by walk_at "m sb")
            have hkR : ∀ p ∈ (L + 1 + 1, op2) :: (DP, lst pv cP) :: (DW, lst yw cW) :: (DN, lst nv cN) :: (DR, lst rv cR) :: (objs ++ own), p.1 ≠ L + 1 := by
              intro p hp
              rcases List.mem_cons.mp hp with rfl | hp
              · exact Nat.ne_of_gt (Nat.lt_succ_self _)
              · rcases List.mem_cons.mp hp with rfl | hp
                · exact hkP.1
                · exact (hk p hp).1
            have hkR2 : ∀ p ∈ (DP, lst pv cP) :: (DW, lst yw cW) :: (DN, lst nv cN) :: (DR, lst rv cR) :: (objs ++ own), p.1 ≠ L + 1 + 1 := by
              intro p hp
              rcases List.mem_cons.mp hp with rfl | hp
              · exact hkP.2
              · exact (hk p hp).2
            clear F18 N18 F17 N17 N19 hkk hk hop
            walk_at "m go3"
            rename Fr _ _ _ _ => F21
            refine wpAny_mono (Q := K23b s.heap L DR DW DN (wOf (lo + (ns.length - 1)) - wOf lo) s₁ ((L + 1 + 1, op2) :: (DP, lst pv cP) :: (DW, lst yw cW) :: (DN, lst nv cN) :: (DR, lst rv cR) :: (objs ++ own))) ?cfor2 ?crest2 (fun _ _ e => e)
            case cfor2 =>
              refine' For_invTF F21 ?_ ?hs ?hE
              case hs => intro _; rfl
              case hE => first | assumption | passes_own
              walk_at "m go3"
              rename News _ _ _ _ => N21
              refine PyProof.Rows.len_list (isList_of (N21.get (.tail _ (.tail _ (.head _))))) (by simp; omega) ?_
              rw [List.size_toArray, hpl]
              walk_at "m go3"
              rename IsRange _ _ _ _ _ _ _ _ => hrg
              rename Fr _ _ _ _ => F22
              rename News _ _ _ _ => N22
              have hcnt : ((ns.length : Int) - 1).toNat = ns.length - 1 := by omega
              refine iter_range_T (J23d L DR DW DN ((L + 1 + 1, op2) :: (DP, lst pv cP) :: (DW, lst yw cW) :: (DN, lst nv cN) :: (DR, lst rv cR) :: (objs ++ own)) lo) hr'.handled hrg (by decide) (by decide) (by omega) (by omega) F22 N22 ?hj ?turn ?done rfl (fun _ _ => rfl)
              case hj => exact ⟨⟨0, _, hmr, rfl, rfl, rfl, by decide, by decide, by simp⟩, _, _, rfl, hok'⟩
              case done =>
                rintro m2 news₁ h tk ⟨⟨tot, u, g1, g2, g3, g4, h1, h2, h3⟩, ok', v0', rfl, hok'⟩ - F23 N23
                rw [hcnt] at h2 h3
                exact ⟨rfl, h, tk, ok', v0', m2, tot, u, rfl, F23, N23, hok', g1, g2, g3, g4, h1, by omega, h3⟩
              case turn =>
                rintro i t m2 news₁ s₂ own2 hin ⟨⟨tot, u, g1, g2, g3, g4, htot0, htot1, htot⟩, ok3, v3, rfl, hok3⟩ - hown2 F23 N23
                clear F22 N22 hrg hok' hmr hown
                (try clear N21); (try clear N20); (try clear F19)
                rw [hcnt] at hin
                have hi : i + 1 < ns.length := by omega
                obtain ⟨n, hn⟩ : ∃ n, ns[i + 1]? = some n := ⟨_, List.getElem?_eq_getElem hi⟩
                obtain ⟨n0, hn0⟩ : ∃ n, ns[i]? = some n := ⟨_, List.getElem?_eq_getElem (Nat.lt_of_succ_lt hi)⟩
                obtain ⟨hne, hn16⟩ := hget _ _ hn
                obtain ⟨hne0, hn016⟩ := hget _ _ hn0
                have hn1 : 1 ≤ n := by omega
                have hnn : n0 = n - 1 := by omega
                obtain ⟨T1, o1, its1, q1, hy1, hm1, hcl1, hda1, hs1⟩ := hrows _ n hn
                obtain ⟨tn, htn⟩ := hnv.get (i + 1) (n : Int) (by rw [List.getElem?_map, hn]; rfl)
                obtain ⟨tp, htp⟩ := hpath _ n hn
                obtain ⟨tp0, htp0⟩ := hpath _ n0 hn0
                subst hnn
                rw [show (1 : Int) + (i : Int) = ((i + 1 : Nat) : Int) by omega]
                refine assign_Name ?_
                refine store_cell (c := L + 1) (o := ok3) (rest := own2 ++ (L + 1 + 1, op2) :: (DP, lst pv cP) :: (DW, lst yw cW) :: (DN, lst nv cN) :: (DR, lst rv cR) :: (objs ++ own)) F23 (News.sub N23 (fun p hp => ?_)) hok3 (fun p hp => ?_) rfl rfl rfl ?_
                · rcases List.mem_cons.mp hp with rfl | hp
                  · exact List.mem_append_right _ (.head _)
                  · rcases List.mem_append.mp hp with hp | hp
                    · exact List.mem_append_left _ hp
                    · exact List.mem_append_right _ (.tail _ hp)
                · rcases List.mem_append.mp hp with hp | hp
                  · exact hown2 p hp (L + 1, ok3) (.head _)
                  · exact hkR p hp
                intro h24 ok2 F24 N23' hok2
                clear F23 N23
                obtain ⟨rest, hrest⟩ : ∃ r, own2 ++ (objs ++ own) = r := ⟨_, rfl⟩
                have hm1' : (T1, o1) ∈ rest := hrest ▸ List.mem_append_right _ (List.mem_append_left _ hm1)
                have N24 : News s.heap L h24 ((L + 1, ok2) :: (L + 1 + 1, op2) :: (DP, lst pv cP) :: (DW, lst yw cW) :: (DN, lst nv cN) :: (DR, lst rv cR) :: rest) := News.sub N23' (by
                  rw [← hrest]
                  walk_at "m sb")
                clear N23'
                have ml : ∀ {p : Addr × Obj}, p ∈ (L + 1 + 1, op2) :: (DP, lst pv cP) :: (DW, lst yw cW) :: (DN, lst nv cN) :: (DR, lst rv cR) :: rest → p ∈ (L + 1, ok2) :: (L + 1 + 1, op2) :: (DP, lst pv cP) :: (DW, lst yw cW) :: (DN, lst nv cN) :: (DR, lst rv cR) :: rest := fun hp => .tail _ hp
                walk_at "m ec"
                walk_at "m go3"
                refine' comp_vals ?c1 ?c2 ?c3 ?c4 ?c5 ?_ ?c6
                walk_at "m comp"
                walk_at "m go3"
                have gk := (N24 _ (.head _)).1
                have gp := N24.get (ml (.head _))
                have gP := N24.get (ml (.tail _ (.head _)))
                have hpz : (pathOf (lets n)).length ≤ 9 := pathOf_len (Nat.le_refl 5)
                refine' CompAt.mk (tkV n) (fun _ _ => True) F24 N24 (Iter.list (vs := rv) hr'.handled (isList_of (N24.get (ml (.tail _ (.tail _ (.tail _ (.tail _ (.head _)))))))) (N24 _ (ml (.tail _ (.tail _ (.tail _ (.tail _ (.head _))))))).2.1 F24.ns.lt) ?sz ?tests ?helt ?fin
                case sz => rw [sizeLine_eq, hrules.len_eq]; decide
                case tests =>
                  rintro C j v s₃ m₃ E' hv F25 hm
                  obtain ⟨k, tk0, hk1, hk4, rfl⟩ := rule_at hrules hv
                  have X3 := X.keeps F24.keep
                  have T3 := T.keeps F24.keep
                  refine tests_one ?_
                  rw [tkV_star]
                  generalize hru : mkS ([40, 63, 115, 58] ++ (46 :: 42 :: starTail k) ++ [41, 92, 90]) = ru at hm ⊢
                  walk_at "m go4"
                  walk1
                  walk_at "m go4"
                  refine item_listL (isList_of (F25.keep _ _ gP)) (by omega) (by omega) (by simpa using htp) ?_
                  walk_at "m go4"
                  subst hru
                  refine call_fn (takes_spec true (starTail k) (46 :: 42 :: starTail k) (pathOf (lets n)) tk0 tp rfl (fun h => by have := starTail_sgn k 42 h; unfold Sgn at this; omega) (by rw [List.length_cons, List.length_cons, starTail_len]; omega) (by omega)) F25 News.nil X3 T3 (hr'.mono (by decide) (by decide)) trivial ?_
                  rintro v h26 tk26 e26 F26 - rfl
                  rw [if_pos rfl, star_takes hn16 hk1 hk4]
                  walk_at "m go4"
                  exact ⟨rfl, keeps_of e26⟩
                case helt =>
                  rintro C j v s₃ m₃ E' hv - F25 hm
                  walk_at "m go4"
                  exact keeps_tok _ s₃.toks
                case fin =>
                  rintro DT tv cT vs' h25 tk25 F25 N25 e25 hDT hlen25 hP25 hF25
                  rw [list_of_idx hlen25 hP25] at hF25
                  change Fr s.heap L h25 _ at F25
                  change News s.heap L h25 _ at N25
                  have htl : tv.length = vN n := by rw [← hF25.length, count_rules n hrules, count_stars]
                  have hv4 := vN_le n
                  obtain ⟨vn, hvn⟩ : ∃ z, vN n = z := ⟨_, rfl⟩
                  rw [hvn] at htl hv4
                  walk_at "m go3"
                  refine PyProof.Rows.len_list (isList_of (N25.get (.head _))) (by simp; omega) ?_
                  rw [List.size_toArray, htl]
                  clear hP25 hF25 hlen25 htl
                  walk_at "m go3"
                  rename Fr _ _ _ _ => F26
                  rename News _ _ _ _ => N26
                  have N27 := News.sub N26 (fun p hp => List.mem_cons_of_mem _ hp)
                  have gN := isList_of (N27.get (ml (.tail _ (.tail _ (.tail _ (.head _))))))
                  (try clear N25); (try clear F25); clear N26
                  walk1
                  walk_at "m go3"
                  refine item_listL gN (by omega) (by omega) (by simpa using htn) ?_
                  walk_at "m go3"
                  refine call_fn (six_spec (n : Int) tn (by omega) (by omega)) F26 N27 X T (hr'.mono (by decide) (by decide)) trivial ?_
                  rintro v h28 tk28 e28 F28 N28 ⟨t28, rfl⟩
                  rw [v16_nat, hvn]
                  clear F26 N27 gN
                  have hvv : ((vn : Int) != (vn : Int)) = false := by simp
                  walk_at "m go4"
                  walk_at "m hd"
                  refine wpAny_execs_nil ?_
                  (try dsimp only)
                  have gP2 := isList_of (N28.get (ml (.tail _ (.head _))))
                  have gp2 := N28.get (ml (.head _))
                  walk_at "m go3"
                  walk1
                  walk_at "m go3"
                  refine item_listL gP2 (by omega) (by omega) (by rw [show ((i + 1 : Nat) : Int) - 1 = (i : Int) by omega]; simpa using htp0) ?_
                  walk_at "m go3"
                  refine item_listL gP2 (by omega) (by omega) (by simpa using htp) ?_
                  walk_at "m go3"
                  rename Fr _ _ _ _ => F29
                  rename News _ _ _ _ => N29
                  (try clear F28); (try clear N28)
                  refine call_fn (common_spec _ [lets (n - 1), lets n] [_, _] _ ?r1 (by simp) (by simp) ?r4) F29 N29 X T (hr'.mono (by decide) (by decide)) ⟨N29.get (.head _), .cons _ _ (.cons _ _ .nil)⟩ ?_
                  case r1 =>
                    intro r hr
                    rcases List.mem_cons.mp hr with rfl | hr
                    · exact ⟨lets_lets _, rfl⟩
                    · rw [List.mem_singleton.mp hr]; exact ⟨lets_lets _, rfl⟩
                  case r4 =>
                    intro i j p q hij h1 h2
                    have hj1 : j < 2 := (List.getElem?_eq_some_iff.mp h2).1
                    obtain rfl : i = 0 := by omega
                    obtain rfl : j = 1 := by omega
                    obtain rfl := Option.some.inj h1
                    obtain rfl := Option.some.inj h2
                    exact lets_lt (by omega) hn16
                  rintro v h30 tk30 e30 F30 N30' ⟨t30, ra, rb, hra, hrb, rfl⟩
                  obtain rfl : lets (n - 1) = ra := Option.some.inj hra
                  obtain rfl : lets n = rb := Option.some.inj hrb
                  have N30 := News.sub N30' (fun p hp => List.mem_cons_of_mem _ hp)
                  clear F29 N29 N30' hra hrb gP2 gp2
                  have hcl := common_len hn1 hn16
                  have hcz : (pathOf (cpre (lets (n - 1)) (lets n))).length ≤ 9 := pathOf_len (cpre_len _ _)
                  rw [← mkS_len, hvn] at hcl
                  rw [← mkS_len] at hcz
                  generalize mkS (pathOf (cpre (lets (n - 1)) (lets n))) = cx at hcl hcz ⊢
                  have hcmp : (((cx.length : Nat) : Int) + 1).fdiv 2 = 4 - (vn : Int) := by
                    rw [Int.fdiv_eq_ediv_of_nonneg _ (by decide)]; omega
                  have hcmp2 : ((((cx.length : Nat) : Int) + 1).fdiv 2 != 4 - (vn : Int)) = false := by rw [hcmp]; simp
                  walk_at "m go4"
                  walk1
                  walk_at "m go4"
                  walk_at "m hd"
                  refine wpAny_execs_nil ?_
                  (try dsimp only)
                  clear hcl hcz hcmp hcmp2
                  walk_at "m go3"
                  rename Fr _ _ _ _ => F31
                  rename News _ _ _ _ => N31
                  (try clear F30); (try clear N30)
                  refine KMa.mul F31 N31 (N31.isList (.head _)) (by omega) (by omega) (by simp; omega) rfl ?_
                  intro D32 h32 F32 N32 hlt32
                  have gW2 := isList_of (N32.get (.tail _ (.tail _ (ml (.tail _ (.tail _ (.head _)))))))
                  walk_at "m go3"
                  refine item_listL gW2 (by omega) (by omega) (by simpa using hy1) ?_
                  walk_at "m go3"
                  have hT1 : Heap.IsList h32 T1 its1.toList.toArray := ⟨o1, N32.get (.tail _ (.tail _ (ml (.tail _ (.tail _ (.tail _ (.tail _ (.tail _ hm1')))))))), hcl1, q1, by simpa using hda1⟩
                  have hz1 : its1.toList.length = 5 := by rw [hs1.len_eq, List.length_map, lets_len]
                  refine kba_turn (value' := .Name (Str.ofString "x") ⟨0, 0, 0, 0⟩) (fun _ => rfl) ?_
                  refine' slice_from (vs := its1.toList) F32 N32 hT1 hs1 (by omega) (by omega) ?_ ?hs ?ht
                  case hs => with_unfolding_all rfl
                  case ht => kmk_pure
                  intro D33 ws33 h33 F33 N33 hws33
                  rw [show ((4 : Int) - (vn : Int)).toNat = 4 - vn by omega, ← List.map_drop] at hws33
                  have hl33 : ws33.length ≤ 5 := by rw [hws33.len_eq, List.length_map, List.length_drop, lets_len]; omega
                  clear F32 N32 F31 N31 hlt32 gW2
                  walk_at "m go3"
                  refine add_arrays F33 N33 (N33.isList (.tail _ (.head _))) (N33.isList (.head _)) ?_ ?_
                  rotate_left
                  · simp only [List.size_toArray]
                    rw [(rep_str (Str.ofString "..") _ _).len_eq, List.length_replicate, sizeLine_eq]
                    omega
                  intro h34 F34 N34
                  dsimp only at F34 N34 ⊢
                  generalize h33.objs.size = D34 at F34 N34 ⊢
                  obtain ⟨wsN, N34', hsN⟩ := steps_ledger hvn N34 hws33
                  have hzN : wsN.length ≤ 10 := by rw [hsN.len_eq, List.length_map, stepsOf, List.length_append, List.length_replicate, List.length_map, List.length_drop, lets_len, hvn]; omega
                  have N35 : News s.heap L h34 ((D34, lst wsN) :: (L + 1, ok2) :: (L + 1 + 1, op2) :: (DP, lst pv cP) :: (DW, lst yw cW) :: (DN, lst nv cN) :: (DR, lst rv cR) :: rest) := News.sub N34' (fun p hp => by
                    rcases List.mem_cons.mp hp with rfl | hp
                    · exact .head _
                    · exact .tail _ (.tail _ (.tail _ (.tail _ hp))))
                  clear N34 N34' N33 F33 hws33 hl33
                  have gp3 := N35.get (.tail _ (ml (.head _)))
                  walk_at "m go4"
                  walk1
                  walk_at "m go4"
                  walk1
                  walk_at "m go4"
                  rename Fr _ _ _ _ => F36
                  rename News _ _ _ _ => N36
                  have gP3 := isList_of (N36.get (.tail _ (ml (.tail _ (.head _)))))
                  refine item_listL gP3 (by omega) (by omega) (by rw [show ((i + 1 : Nat) : Int) - 1 = (i : Int) by omega]; simpa using htp0) ?_
                  walk_at "m go4"
                  refine star_at (vs := wsN) (isList_of (N36.get (.head _))) (by omega) ?_
                  intro h37 e37
                  have F37 := Fr.ext F36 e37
                  have N37 := News.ext N36 e37
                  clear F36 N36 gP3
                  walk_at "m go4"
                  rw [List.append_nil]
                  refine call_fn (join_spec (pathOf (lets (n - 1))) tp0 (stepsOf n) wsN (seg_path _) seg_steps (by rw [stepsOf, List.length_append, List.length_replicate, List.length_map, List.length_drop, lets_len, hvn]; omega) hsN) F37 N37 X T (hr'.mono (by decide) (by decide)) trivial ?_
                  rintro v h38 tk38 e38 F38 N38 ⟨t38, rfl⟩
                  walk_at "m go4"
                  refine call_fn (norm_path hn1 hn16 t38) F38 N38 X T (hr'.mono (by decide) (by decide)) trivial ?_
                  rintro v h39 tk39 e39 F39 N39 ⟨t39, rfl⟩
                  clear F37 N37 F38 N38
                  have gP4 := isList_of (N39.get (.tail _ (ml (.tail _ (.head _)))))
                  have gp4 := N39.get (.tail _ (ml (.head _)))
                  generalize mkS (pathOf (lets n)) = px at htp ⊢
                  have hpx : (px != px) = false := by simp
                  walk_at "m go4"
                  refine item_listL gP4 (by omega) (by omega) (by simpa using htp) ?_
                  walk_at "m go4"
                  walk_at "m hd"
                  refine wpAny_execs_nil ?_
                  (try dsimp only)
                  clear gP4 gp4 hpx htp
                  walk_at "m go4"
                  walk_at "m hd"
                  refine wpAny_execs_nil ?_
                  (try dsimp only)
                  rename Fr _ _ _ _ => F40
                  rename News _ _ _ _ => N40
                  have hnx : wOf n - wOf (n - 1) = 15 * (vn : Int) := by
                    have h := less_next hn1 hn16
                    rw [hvn] at h
                    exact h
                  rw [hne0] at hnx
                  refine ⟨rfl, _, _, _, (L + 1, ok2) :: (L + 1 + 1, op2) :: (DP, lst pv cP) :: (DW, lst yw cW) :: (DN, lst nv cN) :: (DR, lst rv cR) :: (objs ++ own), rfl, F40, News.sub N40 ?_, rfl, ⟨tot + (vn : Int), _, g1, g2, g3, rfl, by omega, by omega, by rw [← hne]; omega⟩, ok2, _, rfl, hok2⟩
                  rw [← hrest]
                  walk_at "m sb"
            case crest2 =>
              rintro f s' ⟨rfl, h22, tk22, ok2, v2, m2, tot, u, rfl, F22, N22, hok2, g1, g2, g3, g4, htot0, htot1, htot⟩
              clear F21 hok'
              obtain ⟨b, hb⟩ : ∃ n, ns[ns.length - 1]? = some n := ⟨_, List.getElem?_eq_getElem (by omega)⟩
              obtain ⟨a, ha⟩ : ∃ n, ns[0]? = some n := ⟨_, List.getElem?_eq_getElem (by omega)⟩
              obtain ⟨hbe, hb16⟩ := hget _ _ hb
              obtain ⟨hae, ha16⟩ := hget _ _ ha
              obtain ⟨TB, oB, itB, qB, hyB, hmB, hclB, hdaB, hsB⟩ := hrows _ b hb
              obtain ⟨TA, oA, itA, qA, hyA, hmA, hclA, hdaA, hsA⟩ := hrows _ a ha
              obtain ⟨yw', hyw'⟩ : ∃ l', yw = l' ++ [.ref TB] := List.getLast?_eq_some_iff.mp (by rw [List.getLast?_eq_getElem?, hyl]; exact hyB)
              rw [← hbe, show lo = a by omega] at htot
              obtain ⟨wa, hwa⟩ : ∃ z, wOf a = z := ⟨_, rfl⟩
              obtain ⟨wb, hwb⟩ : ∃ z, wOf b = z := ⟨_, rfl⟩
              rw [hwa, hwb] at htot
              have hW : (15 * tot != wb - wa) = false := by rw [htot]; simp
              walk_at "m go3"
              walk1
              walk_at "m go3"
              have gW := isList_of (N22.get (.tail _ (.tail _ (.tail _ (.head _)))))
              refine item_last (xs := yw') (x := .ref TB) (by rw [← hyw']; exact gW) (by have := congrArg List.length hyw'; simp at this; omega) ?_
              walk_at "m go3"
              refine call_fn (less_spec TB (lets b) (lets_lets b) rfl) F22 N22 X T (hr'.mono (by decide) (by decide)) ⟨itB.toList, ⟨oB, N22.get (.tail _ (.tail _ (.tail _ (.tail _ (.tail _ (.tail _ (List.mem_append_left _ hmB))))))), hclB, qB, by simpa using hdaB⟩, hsB⟩ ?_
              rintro v h23 tk23 e23 F23 N23 ⟨t23, rfl⟩
              rw [show numOf (lets b) - sumL (lets b) = wb from hwb]
              walk_at "m go3"
              walk1
              walk_at "m go3"
              have gW := isList_of (N23.get (.tail _ (.tail _ (.tail _ (.head _)))))
              refine item_listL gW (by omega) (by omega) (by simpa using hyA) ?_
              walk_at "m go3"
              refine call_fn (less_spec TA (lets a) (lets_lets a) rfl) F23 N23 X T (hr'.mono (by decide) (by decide)) ⟨itA.toList, ⟨oA, N23.get (.tail _ (.tail _ (.tail _ (.tail _ (.tail _ (.tail _ (List.mem_append_left _ hmA))))))), hclA, qA, by simpa using hdaA⟩, hsA⟩ ?_
              rintro v h24 tk24 e24 F24 N24 ⟨t24, rfl⟩
              rw [show numOf (lets a) - sumL (lets a) = wa from hwa]
              clear F22 N22 F23 N23 gW
              have gp2 := N24.get (.tail _ (.head _))
              walk_at "m go4"
              walk_at "m hd"
              refine wpAny_execs_nil ?_
              (try dsimp only)
              walk_at "m go4"
              walk1
              walk_at "m go3"
              obtain ⟨jm, hj5, hj1, hj2⟩ := least_block ha16 hb16
              refine call_fn (block_spec DN DP ns a b jm nv pv cN cP ?b1 ?b2 hlen.2 ?b3 ?b4 hj1 hj2 hj5 hnv hps) F24 N24 X T (hr'.mono (by decide) (by decide)) ⟨N24.get (.tail _ (.tail _ (.tail _ (.tail _ (.head _))))), N24.get (.tail _ (.tail _ (.head _)))⟩ ?_
              case b1 => rw [List.head?_eq_getElem?]; exact ha
              case b2 => rw [List.getLast?_eq_getElem?]; exact hb
              case b3 =>
                intro n hn
                obtain ⟨i, hi⟩ := List.getElem?_of_mem hn
                exact (hget i n hi).2
              case b4 =>
                intro i j m n hij hm hn
                have h1 := (hget i m hm).1
                have h2 := (hget j n hn).1
                omega
              rintro v h25 tk25 e25 F25 N25 rfl
              clear F24 N24
              walk_at "m go4"
              walk_at "m hd"
              refine wpAny_execs_nil ?_
              (try dsimp only)
              walk_at "m hd"
              refine wpAny_execs_nil ?_
              refine ⟨rfl, _, _, _, [(L + 1, ok2), (L + 1 + 1, op2), (DR, lst rv cR)], rfl, F25, News.sub N25 ?_, rfl, ok2, op2, _, _, rfl, hok2, hop2, g1⟩
              walk_at "m sb"
end
end
end Mine
end
section
open PySem PySem.W PySem.Calls PySem.Spec PyProof.Rows
set_option Elab.async false
namespace Mine
theorem fill_fin : (PySem.Challenge.rw_in0173_01, Mine.h0.heap_1) = (PySem.Challenge.rw_in0173_01, Mine.h0.heap_1) := by k_fill; rfl
theorem call_raw' {w : World} {mean : ExcName → Option Value} {mg mb : Str → Option Value} {A : Around} {E : Value → Shared → Prop} {s : Shared} {f : Addr} {d u : Nat} {args : List Value} {pre : Heap → Prop} {post : Heap → Value → Heap → Prop} {Q : Value → Shared → Prop}
    (C : Fn w mean mg mb f d u args pre post) (hr : Room A d u) (G : Gd w mean mg mb s.heap) (hp : pre s.heap)
    (h : ∀ v h' tk, Ext s.heap h' → post s.heap v h' → Q v { s with heap := h', toks := tk }) : wpAny (model prog w) A (call (.ref f) args) Q E s := by
  obtain ⟨hd, dp, fr, gd, un⟩ := A
  obtain rfl : hd = none := hr.handled
  exact wpAny_call (C dp un fr gd s _ hr G hp fun v h' tk e hq => h v h' tk e hq)
end Mine
set_option maxRecDepth 100000 in
set_option maxHeartbeats 8000000 in
theorem PySem.Challenge.cw_in0173_01_holds : PySem.Challenge.rw_in0173_01.Holds := by
  refine holds_law Mine.law_said fun said => ?_
  refine holds_open (q := Mine.view) (loose := Mine.loose) (Xt := fun s => xlAt Mine.view [] s && recOk PySem.Challenge.rw_in0173_01.row.records s) (XP := XL Mine.view []) (Yf := Mine.hook.obs) (Ya := Mine.hook.val) (YP := Mine.hook.says) (N := 5446) Mine.left Mine.hook.of Mine.hook.keeps (fun s e => xl_of s (Bool.and_eq_true_iff.mp e).1) XL.keeps (by rfl) (by rfl) (by rfl) (fun s e => recFacts_of (Bool.and_eq_true_iff.mp e).2) (by rfl) said (by decide +kernel) ⟨rfl, rfl, rfl, rfl, rfl, by decide +kernel⟩ ?hw ?hc
  all_goals clear said
  case hw => w_witness2
  intro w s₀ s₁ mg mb G Y fa o pm cd doc dV kV ho hd hcd hD hmg hg args vals as hpre hlay hrd hwl hlo
  have KX := km_in_of Y
  have GT : Mine.Gd w (ExcName.means s₀.heap) mg mb s₁.heap := ⟨G.T, KX⟩
  have e1 : mg (Str.ofString "law") = some (.ref 244) := mg_of KX G.T.g (by k_is)
  have e2 : mg (Str.ofString "law") = some (.ref fa) := hmg
  obtain rfl : fa = 244 := by rw [e1] at e2; injection e2 with e2; injection e2 with e2; exact e2.symm
  clear hmg hD hcd hd ho Y
  wrow_args hpre hlay hrd hwl hlo
  rename IntsAre _ _ => hI
  rename Heap.IsList _ _ _ => hL
  rename ¬ (_ < _) => hlen
  refine Mine.call_raw' (Mine.law_spec _ _ _ hI (by omega)) ⟨rfl, by decide +kernel, by decide +kernel⟩ GT hL ?_
  rintro v h' tk e rfl
  refine GoodW.toG ⟨.inl ⟨.bool true, .bool true, [], rfl, ?_, .bool true, ?_, ?_⟩, e, rfl, hg⟩
  · intro cls; rfl
  · first | rfl | wrow_post
  · intro _
    exact ⟨List.nodup_nil, fun a ha => nomatch ha⟩
end
