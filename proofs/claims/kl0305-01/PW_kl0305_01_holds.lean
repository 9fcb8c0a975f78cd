import PyProof.Rows.All
import Wide.All
import OpenK.AllK
import Wide.FinOn
import KE.KxSplit
import PySem.Challenge.RW_kl0305_01
set_option compiler.extract_closed false
section
open PySem PySem.W PyProof.Rows
set_option Elab.async false
set_option maxRecDepth 100000
set_option maxHeartbeats 8000000
namespace Mine
/-- the text's statements that the head keeps -/
def topView : Program := view PySem.Challenge.rw_kl0305_01.row.toRowW.prog [0, 1, 3, 5, 6, 7, 8, 10, 11, 12, 13, 14, 15, 16, 18, 19, 20, 21, 22, 23, 24, 25, 26]
/-- the names that the head lets go -/
def topLoose : List Str := [Str.ofString "twin_re_1_smtplib", Str.ofString "_twin_re_2", Str.ofString "twin_re_1_ElementTree", Str.ofString "_namespace_map", Str.ofString "_looks_like_prefix_name", Str.ofString "C14NWriterTarget"]
noncomputable def fencedQ (p : Program) (w : World) (N : Nat) : Option Shared :=
  (PySem.W.Fast.tw10274390034422433532 PySem.W.Fast.tw14364793385576792824 (opening p) w N (PySem.W.Fast.tw1435165496053646825 (opening p)).1 (PySem.W.Fast.tw1435165496053646825 (opening p)).2).bind (PySem.W.Fast.tw14289696077712309145 p)
theorem fencedQ_eq (p : Program) (w : World) (N : Nat) : fencedOpening treeTable p w N = fencedQ p w N := by
  unfold fencedOpening fencedQ
  rw [PySem.W.Fast.te10274390034422433532, PySem.W.Fast.te14364793385576792824, PySem.W.Fast.te1435165496053646825, PySem.W.Fast.te14289696077712309145]
noncomputable def topFromQ (p : Program) (w : World) (N : Nat) (s₀ : Shared) : Option Shared :=
  match s₀.heap.isNs mainGlobals && s₀.gens.size == 0 with
  | true => (PySem.W.Fast.tw14082659384304107361 PySem.W.Fast.tw14364793385576792824 p w s₀.heap.objs.size (s₀.heap.nsMap mainGlobals "__annotations__") N s₀ (topStub p)).bind fun s₁ => match staticsOk (importedModules p.main.body) s₀.heap s₁.heap && namesBound p s₁.heap && gensDone s₁ && laidKept s₀.heap s₁.heap with
      | true => some s₁
      | false => none
  | false => none
theorem topFromQ_eq (p : Program) (w : World) (N : Nat) (s₀ : Shared) : topFrom treeTable p w N s₀ = topFromQ p w N s₀ := by
  unfold topFrom topFromQ
  rw [PySem.W.Fast.te14082659384304107361, PySem.W.Fast.te14364793385576792824]
  rfl
theorem openQ_eq (p : Program) (w : World) (N : Nat) : openEnds treeTable p w N = (fencedQ p w N).bind (topFromQ p w N) := by
  unfold openEnds
  rw [fencedQ_eq]
  congr 1
  funext s
  exact topFromQ_eq p w N s
/-- the look at the world's end, quick -/
noncomputable def LookQ (b : Bool) (H : Hook) : Prop :=
  ∀ w : World, ((fencedQ PySem.Challenge.rw_kl0305_01.row.toRowW.prog (w.withFollow "special-get-raises" b) 3164).bind (topFromQ PySem.Challenge.rw_kl0305_01.row.toRowW.prog (w.withFollow "special-get-raises" b) 3164)).map
      (fun s => (PySem.W.Fast.tw4187177175401517315 topView topLoose (PySem.W.Fast.tw5923862056798008813 PySem.Challenge.rw_kl0305_01.row.toRowW.prog.main.body) (fun s => xlAt topView [] s && recOk PySem.Challenge.rw_kl0305_01.row.toRowW.records s) true s, H.obs s)) =
    some (openGood topView topLoose, H.val (w.withFollow "special-get-raises" b))
theorem leftTop (row : String) {p q : Program} {loose : List Str} {Xt : Shared → Bool} {α : Type} {Yf : Shared → α} {Ya : World → α} {N : Nat} {g0 : Bool}
    (hf : ∀ w : World, (openEnds treeTable p (w.withFollow row false) N).map (fun s => (openSeen q loose (importedModules p.main.body) Xt g0 s, Yf s)) = some (openGood q loose, Ya (w.withFollow row false)))
    (ht : ∀ w : World, (openEnds treeTable p (w.withFollow row true) N).map (fun s => (openSeen q loose (importedModules p.main.body) Xt g0 s, Yf s)) = some (openGood q loose, Ya (w.withFollow row true))) : LeftO p q loose Xt Yf Ya N g0 :=
  byRow2 row (P := fun w => (openEnds treeTable p w N).map (fun s => (openSeen q loose (importedModules p.main.body) Xt g0 s, Yf s)) = some (openGood q loose, Ya w)) hf ht
theorem lookTop {b : Bool} {H : Hook} (h : LookQ b H) : ∀ w : World, (openEnds treeTable PySem.Challenge.rw_kl0305_01.row.toRowW.prog (w.withFollow "special-get-raises" b) 3164).map
      (fun s => (openSeen topView topLoose (importedModules PySem.Challenge.rw_kl0305_01.row.toRowW.prog.main.body) (fun s => xlAt topView [] s && recOk PySem.Challenge.rw_kl0305_01.row.toRowW.records s) true s, H.obs s)) =
    some (openGood topView topLoose, H.val (w.withFollow "special-get-raises" b)) := fun w => by
  rw [openQ_eq, PySem.W.Fast.te4187177175401517315, PySem.W.Fast.te5923862056798008813]
  exact h w
theorem said_law : OpenLaw.wellSaid PySem.Challenge.rw_kl0305_01 = true := by
  rw [PySem.W.Fast.te9446332074065402090]
  kernel_rfl
theorem holdsTop (H : Hook) {d : DefRec} {kwd : List (Str × Expr)} (said : PySem.Challenge.rw_kl0305_01.row.wellSaid = true) (hdef : defOf topView PySem.Challenge.rw_kl0305_01.row.name = some (d, kwd)) (hp : PySem.Challenge.rw_kl0305_01.row.prog.theDef PySem.Challenge.rw_kl0305_01.row.name = some (d.params, d.body, d.scope)) (hk : kwWritten? d.params.kwonlyargs d.params.kw_defaults = some kwd)
    (hw : PySem.Challenge.rw_kl0305_01.row.toRowW.promised) (h : LookQ false H ∧ LookQ true H ∧ WalkO topView topLoose (XL topView []) H.says PySem.Challenge.rw_kl0305_01.row.toRowW d kwd fun f vs => PySem.call f vs) : PySem.Challenge.rw_kl0305_01.row.Holds :=
  holds_open (q := topView) (loose := topLoose) (Xt := fun s => xlAt topView [] s && recOk PySem.Challenge.rw_kl0305_01.row.toRowW.records s) (XP := XL topView []) (Yf := Hook.obs H) (Ya := Hook.val H) (YP := Hook.says H) (N := 3164) (leftTop "special-get-raises" (lookTop h.1) (lookTop h.2.1)) (Hook.of H) (Hook.keeps H)
    (fun s e => xl_of s (Bool.and_eq_true_iff.mp e).1) XL.keeps hdef hp hk (fun s e => recFacts_of (Bool.and_eq_true_iff.mp e).2) (by rfl) said (by decide +kernel) ⟨rfl, rfl, rfl, rfl, rfl, by decide +kernel⟩ hw h.2.2
local macro_rules | `(tactic| o_law) => `(tactic| refine holds_law said_law fun said => ?_)
local macro_rules | `(tactic| o_head $H) => do
  let hw := Lean.mkIdent `hw
  let hc := Lean.mkIdent `hc
  `(tactic| (refine' holdsTop $H (d := { name := Str.ofString "law", params := ?dp, body := ?db, scope := ?ds, pos := ⟨283, 0, 300, 75⟩ }) (kwd := []) (by assumption) ?h1 ?h2 ?h3 ?$hw ?$hc; (case h2 => rfl); (case h1 => kernel_rfl); (case h3 => kernel_rfl)))
open_top hd for PySem.Challenge.rw_kl0305_01
theorem look_f : LookQ false (kmHook hd.heap_1 [nat_lit 2, nat_lit 3, nat_lit 32, nat_lit 34, nat_lit 35, nat_lit 37, nat_lit 38, nat_lit 39, nat_lit 41, nat_lit 42, nat_lit 44, nat_lit 45, nat_lit 49, nat_lit 50, nat_lit 54, nat_lit 55, nat_lit 56, nat_lit 58, nat_lit 59, nat_lit 61, nat_lit 62, nat_lit 66, nat_lit 67, nat_lit 68, nat_lit 69, nat_lit 71, nat_lit 72, nat_lit 74, nat_lit 75, nat_lit 76, nat_lit 84, nat_lit 85, nat_lit 87, nat_lit 88, nat_lit 90, nat_lit 91, nat_lit 92, nat_lit 93, nat_lit 95, nat_lit 96, nat_lit 98, nat_lit 99, nat_lit 100, nat_lit 102, nat_lit 103, nat_lit 105, nat_lit 106, nat_lit 107, nat_lit 108, nat_lit 110, nat_lit 111, nat_lit 113, nat_lit 114, nat_lit 115, nat_lit 117, nat_lit 118, nat_lit 120, nat_lit 121, nat_lit 122, nat_lit 123, nat_lit 124, nat_lit 126, nat_lit 127, nat_lit 129, nat_lit 130, nat_lit 131, nat_lit 133, nat_lit 134, nat_lit 136, nat_lit 137, nat_lit 138, nat_lit 140, nat_lit 141, nat_lit 143, nat_lit 144, nat_lit 145, nat_lit 146, nat_lit 149, nat_lit 150, nat_lit 151, nat_lit 153, nat_lit 154, nat_lit 156, nat_lit 157, nat_lit 158, nat_lit 160, nat_lit 161, nat_lit 163, nat_lit 164, nat_lit 165, nat_lit 167, nat_lit 168, nat_lit 170, nat_lit 171, nat_lit 172, nat_lit 173, nat_lit 174, nat_lit 175, nat_lit 176, nat_lit 179, nat_lit 181, nat_lit 182, nat_lit 184, nat_lit 185, nat_lit 186, nat_lit 188, nat_lit 189, nat_lit 191, nat_lit 192, nat_lit 193, nat_lit 196, nat_lit 197, nat_lit 198, nat_lit 200, nat_lit 201, nat_lit 203, nat_lit 204, nat_lit 205, nat_lit 208, nat_lit 209, nat_lit 210, nat_lit 212, nat_lit 213, nat_lit 215, nat_lit 216, nat_lit 217, nat_lit 219, nat_lit 220, nat_lit 222, nat_lit 223, nat_lit 224, nat_lit 227, nat_lit 228, nat_lit 229, nat_lit 231, nat_lit 232, nat_lit 234, nat_lit 235, nat_lit 236, nat_lit 239, nat_lit 240, nat_lit 241, nat_lit 244, nat_lit 245] (fun _ => by kernel_rfl) [147]) := fun w => by kernel_rfl
theorem look_t : LookQ true (kmHook hd.heap_1 [nat_lit 2, nat_lit 3, nat_lit 32, nat_lit 34, nat_lit 35, nat_lit 37, nat_lit 38, nat_lit 39, nat_lit 41, nat_lit 42, nat_lit 44, nat_lit 45, nat_lit 49, nat_lit 50, nat_lit 54, nat_lit 55, nat_lit 56, nat_lit 58, nat_lit 59, nat_lit 61, nat_lit 62, nat_lit 66, nat_lit 67, nat_lit 68, nat_lit 69, nat_lit 71, nat_lit 72, nat_lit 74, nat_lit 75, nat_lit 76, nat_lit 84, nat_lit 85, nat_lit 87, nat_lit 88, nat_lit 90, nat_lit 91, nat_lit 92, nat_lit 93, nat_lit 95, nat_lit 96, nat_lit 98, nat_lit 99, nat_lit 100, nat_lit 102, nat_lit 103, nat_lit 105, nat_lit 106, nat_lit 107, nat_lit 108, nat_lit 110, nat_lit 111, nat_lit 113, nat_lit 114, nat_lit 115, nat_lit 117, nat_lit 118, nat_lit 120, nat_lit 121, nat_lit 122, nat_lit 123, nat_lit 124, nat_lit 126, nat_lit 127, nat_lit 129, nat_lit 130, nat_lit 131, nat_lit 133, nat_lit 134, nat_lit 136, nat_lit 137, nat_lit 138, nat_lit 140, nat_lit 141, nat_lit 143, nat_lit 144, nat_lit 145, nat_lit 146, nat_lit 149, nat_lit 150, nat_lit 151, nat_lit 153, nat_lit 154, nat_lit 156, nat_lit 157, nat_lit 158, nat_lit 160, nat_lit 161, nat_lit 163, nat_lit 164, nat_lit 165, nat_lit 167, nat_lit 168, nat_lit 170, nat_lit 171, nat_lit 172, nat_lit 173, nat_lit 174, nat_lit 175, nat_lit 176, nat_lit 179, nat_lit 181, nat_lit 182, nat_lit 184, nat_lit 185, nat_lit 186, nat_lit 188, nat_lit 189, nat_lit 191, nat_lit 192, nat_lit 193, nat_lit 196, nat_lit 197, nat_lit 198, nat_lit 200, nat_lit 201, nat_lit 203, nat_lit 204, nat_lit 205, nat_lit 208, nat_lit 209, nat_lit 210, nat_lit 212, nat_lit 213, nat_lit 215, nat_lit 216, nat_lit 217, nat_lit 219, nat_lit 220, nat_lit 222, nat_lit 223, nat_lit 224, nat_lit 227, nat_lit 228, nat_lit 229, nat_lit 231, nat_lit 232, nat_lit 234, nat_lit 235, nat_lit 236, nat_lit 239, nat_lit 240, nat_lit 241, nat_lit 244, nat_lit 245] (fun _ => by kernel_rfl) [147]) := fun w => by kernel_rfl
end Mine
end
section
open PySem PySem.W PyProof.Rows PySem.Calls PySem.Spec
set_option Elab.async false
set_option maxRecDepth 100000
set_option maxHeartbeats 8000000
namespace Mine

/-- the frame's names: those that a turn binds, those that it may store, the rest as it stood -/
abbrev names (m₀ u : Str → Option Value) (stored : List Str) (ps : List (Str × Value)) : Str → Option Value :=
  kstB (fun z => if stored.contains z then u z else m₀ z) ps

theorem names_eq {m₀ m : Str → Option Value} {stored : List Str} {ps : List (Str × Value)} (h1 : ∀ p ∈ ps, m p.1 = some p.2) (h2 : ∀ z, (∀ p ∈ ps, z ≠ p.1) → stored.contains z = false → m z = m₀ z) :
    names m₀ m stored ps = m := by
  funext z
  refine kstB_eq h1 fun hn => ?_
  show (if stored.contains z = true then m z else m₀ z) = m z
  cases h3 : stored.contains z with
  | true => simp
  | false => simp only [Bool.false_eq_true, if_false]; exact (h2 z hn h3).symm

def LPost {σ : Type} (h₀ : Heap) (L : Addr) (Led : σ → List (Addr × Obj)) (ps : σ → List (Str × Value)) (stored : List Str) (m₀ : Str → Option Value) (Inv : σ → List (Addr × Obj) → Prop) (I : Addr) (o : Obj) (s₁ : Shared) (Q : Flow → Shared → Prop) (f : Flow) (s₂ : Shared) : Prop :=
  match f with
  | .ret v => Q (.ret v) s₂
  | .brk => Q .next s₂
  | _ => ∃ h' tk m' all c tl, s₂ = { s₁ with heap := h', toks := tk } ∧ Fr h₀ L h' m' ∧ News h₀ L h' all ∧ (I, o) ∈ all ∧ (∀ p ∈ Led c ++ tl, p ∈ all) ∧ (∀ p ∈ Led c ++ tl, p.1 ≠ I) ∧ (∀ p ∈ ps c, m' p.1 = some p.2) ∧ (∀ z, (∀ p ∈ ps c, z ≠ p.1) → stored.contains z = false → m' z = m₀ z) ∧ Inv c tl

theorem LPost.next {σ : Type} {h₀ : Heap} {L : Addr} {Led : σ → List (Addr × Obj)} {ps : σ → List (Str × Value)} {stored : List Str} {m₀ : Str → Option Value} {Inv : σ → List (Addr × Obj) → Prop} {I : Addr} {o : Obj} {s₁ : Shared} {Q : Flow → Shared → Prop} {h' : Heap} {tk : Nat} {m' : Str → Option Value} {all : List (Addr × Obj)} (c : σ) (tl : List (Addr × Obj))
    (F : Fr h₀ L h' m') (N : News h₀ L h' all) (hI : (I, o) ∈ all) (hs : ∀ p ∈ Led c ++ tl, p ∈ all) (hoff : ∀ p ∈ Led c ++ tl, p.1 ≠ I) (hps : ∀ p ∈ ps c, m' p.1 = some p.2) (hr : ∀ z, (∀ p ∈ ps c, z ≠ p.1) → stored.contains z = false → m' z = m₀ z) (hi : Inv c tl) :
    LPost h₀ L Led ps stored m₀ Inv I o s₁ Q .next { s₁ with heap := h', toks := tk } := ⟨h', tk, m', all, c, tl, rfl, F, N, hI, hs, hoff, hps, hr, hi⟩

section
variable {prog : Program} {w : World} {A : Around} {E : Value → Shared → Prop} {s : Shared} {env : Env} {h₀ : Heap} {x : Str} {body : List Stmt} {Q : Flow → Shared → Prop}

theorem unrEnd_mono {L I : Addr} {s₁ s₂ : Shared} {it : Obj} {r r' : (Str → Option Value) → List (Addr × Obj) → Prop} (hr : ∀ m n, r m n → r' m n) (h : UnrEnd h₀ L s₁ I it r s₂) : UnrEnd h₀ L s₁ I it r' s₂ := by
  obtain ⟨h', tk, m', news', e, F, N, off, q⟩ := h
  exact ⟨h', tk, m', news', e, F, N, off, hr _ _ q⟩
theorem unrPost_mono {L I : Addr} {s₁ s₂ : Shared} {it : Obj} {r r' : (Str → Option Value) → List (Addr × Obj) → Prop} {f : Flow} (hr : ∀ m n, r m n → r' m n) (h : UnrPost h₀ L s₁ I it r Q f s₂) : UnrPost h₀ L s₁ I it r' Q f s₂ := by
  cases f with
  | ret v => exact h
  | brk => exact h
  | next => exact unrEnd_mono hr h
  | cont => exact unrEnd_mono hr h

/-- a range's turns by an invariant over the turn's number, the frame's names, the ledger -/
theorem range_ind {I : Addr} {a : Int} {n : Nat} (J : Nat → (Str → Option Value) → List (Addr × Obj) → Prop)
    (step : ∀ i m news, i < n → J i m news → ∀ t h tk, Fr h₀ env.locals h (fun y => if y = x then some (.int (a + (i : Int)) t) else m y) →
      News h₀ env.locals h ((I, itR (a + ((i + 1 : Nat) : Int)) ((n : Int) - ((i + 1 : Nat) : Int))) :: news) →
      wpAny (model prog w) A (execs body env) (UnrPost h₀ env.locals { s with heap := h, toks := tk } I (itR (a + ((i + 1 : Nat) : Int)) ((n : Int) - ((i + 1 : Nat) : Int))) (J (i + 1)) Q) E { s with heap := h, toks := tk })
    (done : ∀ m news, J n m news → ∀ h tk, Fr h₀ env.locals h m → News h₀ env.locals h news → Q .next { s with heap := h, toks := tk })
    : ∀ (k i : Nat), k + i = n → ∀ m news, J i m news → RangeRest prog w A E h₀ env x body Q s I a n k i m news := by
  intro k
  induction k with
  | zero =>
    intro i hi m news hJ
    have e : i = n := by omega
    subst e
    exact fun h tk F N => done m news hJ h tk F N
  | succ k ih =>
    intro i hi m news hJ
    exact fun t h tk F N => wpAny_mono (step i m news (by omega) hJ t h tk F N) (fun f s₂ p => unrPost_mono (fun m' n' q => ih (i + 1) (by omega) m' n' q) p) fun _ _ e => e

def SJ {σ : Type} (Led : σ → List (Addr × Obj)) (ps : σ → List (Str × Value)) (stored : List Str) (m₀ : Str → Option Value) (Inv : σ → List (Addr × Obj) → Prop) (m : Str → Option Value) (nx : List (Addr × Obj)) : Prop :=
  ∃ c tl, (∀ p ∈ Led c ++ tl, p ∈ nx) ∧ (∀ p ∈ ps c, m p.1 = some p.2) ∧ (∀ z, (∀ p ∈ ps c, z ≠ p.1) → stored.contains z = false → m z = m₀ z) ∧ Inv c tl

theorem LPost.unr {σ : Type} {L I : Addr} {Led : σ → List (Addr × Obj)} {ps : σ → List (Str × Value)} {stored : List Str} {m₀ : Str → Option Value} {Inv : σ → List (Addr × Obj) → Prop} {o : Obj} {s₁ s₂ : Shared} {f : Flow} (h : LPost h₀ L Led ps stored m₀ Inv I o s₁ Q f s₂) :
    UnrPost h₀ L s₁ I o (SJ Led ps stored m₀ Inv) Q f s₂ := by
  cases f with
  | ret v => exact h
  | brk => exact h
  | next =>
    obtain ⟨h', tk, m', all, c, tl, e, F, N, hI, hs, hoff, hps, hr, hi⟩ := h
    refine ⟨h', tk, m', Led c ++ tl, e, F, fun p hp => ?_, hoff, c, tl, fun _ h => h, hps, hr, hi⟩
    rcases List.mem_cons.mp hp with rfl | hp
    · exact N _ hI
    · exact N _ (hs p hp)
  | cont =>
    obtain ⟨h', tk, m', all, c, tl, e, F, N, hI, hs, hoff, hps, hr, hi⟩ := h
    refine ⟨h', tk, m', Led c ++ tl, e, F, fun p hp => ?_, hoff, c, tl, fun _ h => h, hps, hr, hi⟩
    rcases List.mem_cons.mp hp with rfl | hp
    · exact N _ hI
    · exact N _ (hs p hp)

theorem range_loop {σ : Type} (Led : σ → List (Addr × Obj)) (ps : σ → List (Str × Value)) (stored : List Str) (Inv : Addr → Nat → σ → List (Addr × Obj) → Prop) (c₀ : σ) (tl₀ : List (Addr × Obj))
    {r : Addr} {a₀ b₀ : Int} {t₀ u₀ v₀ : Tok} {m₀ : Str → Option Value} {news : List (Addr × Obj)}
    (hh : A.handled = none) (hr : IsRange s.heap r a₀ b₀ 1 t₀ u₀ v₀) (F : Fr h₀ env.locals s.heap m₀) (N : News h₀ env.locals s.heap news) (hsub : ∀ p ∈ Led c₀ ++ tl₀, p ∈ news) (hps : ∀ p ∈ ps c₀, m₀ p.1 = some p.2)
    (hx : stored.contains x = true) (ha : -(2 ^ 62) ≤ a₀) (ha' : a₀ < 2 ^ 62) (hb : -(2 ^ 62) ≤ b₀) (hb' : b₀ < 2 ^ 62)
    (h0 : ∀ I : Addr, AllLt I news → Inv I 0 c₀ tl₀)
    (step : ∀ I i c tl, i < (b₀ - a₀).toNat → Inv I i c tl → ∀ t u h tk o, Fr h₀ env.locals h (fun y => if y = x then some (.int (a₀ + (i : Int)) t) else names m₀ u stored (ps c) y) →
      News h₀ env.locals h ((I, o) :: (Led c ++ tl)) →
      ∀ P9 : Flow → Shared → Prop, (∀ f s₂, LPost h₀ env.locals Led ps stored m₀ (Inv I (i + 1)) I o { s with heap := h, toks := tk } Q f s₂ → P9 f s₂) → wpAny (model prog w) A (execs body env) P9 E { s with heap := h, toks := tk })
    (done : ∀ I c tl, Inv I (b₀ - a₀).toNat c tl → ∀ u h tk, Fr h₀ env.locals h (names m₀ u stored (ps c)) → News h₀ env.locals h (Led c ++ tl) → Q .next { s with heap := h, toks := tk }) :
    wpAny (model prog w) A (pyIter (.ref r)) (fun it s₂ => LoopAtV prog w A h₀ env x body Q E it s₂) E s := by
  refine iter_rangeUnr (n := (b₀ - a₀).toNat) hh hr (small_one ha ha' hb hb') ?_ F N fun I hI => ?_
  · rw [rangeSize_one]; split <;> omega
  · refine range_ind (fun i => SJ Led ps stored m₀ (Inv I i)) ?_ ?_ _ 0 (by omega) _ _ ⟨c₀, tl₀, hsub, hps, fun _ _ _ => rfl, h0 I (allLt_of hI)⟩
    · rintro i m nx hi ⟨c, tl, hs, h1, h2, hinv⟩ t h tk F₁ N₁
      have h2' : ∀ z, z ≠ x → (∀ p ∈ ps c, z ≠ p.1) → stored.contains z = false → m z = m₀ z := fun z _ a b => h2 z a b
      have e : (fun y => if y = x then some (Value.int (a₀ + (i : Int)) t) else m y) = fun y => if y = x then some (Value.int (a₀ + (i : Int)) t) else names m₀ m stored (ps c) y := by rw [names_eq h1 h2]
      rw [e] at F₁
      refine wpAny_mono (step I i c tl hi hinv t m h tk _ F₁ (fun p hp => ?_) _ fun _ _ q => q) (fun f s₂ p => p.unr) fun _ _ e => e
      rcases List.mem_cons.mp hp with rfl | hp
      · exact N₁ _ (List.mem_cons_self ..)
      · exact N₁ _ (List.mem_cons_of_mem _ (hs p hp))
    · rintro m nx ⟨c, tl, hs, h1, h2, hinv⟩ h tk F₁ N₁
      refine done I c tl hinv m h tk ?_ fun p hp => N₁ p (hs p hp)
      rw [names_eq h1 h2]; exact F₁

theorem LPost.unrW {σ : Type} {L I : Addr} {Led : σ → List (Addr × Obj)} {ps : σ → List (Str × Value)} {stored : List Str} {m₀ : Str → Option Value} {Inv : σ → List (Addr × Obj) → Prop} {o : Obj} {s₁ s₂ : Shared} {f : Flow} {keep : List (Addr × Obj)} {r : (Str → Option Value) → List (Addr × Obj) → Prop}
    (hr' : ∀ m n, SJ Led ps stored m₀ Inv m n → r m n) (h : LPost h₀ L Led ps stored m₀ Inv I o s₁ Q f s₂) :
    UnrPostW h₀ L s₁ [(I, o)] r Q f s₂ := by
  have go : ∀ g : Flow, g = .next ∨ g = .cont → LPost h₀ L Led ps stored m₀ Inv I o s₁ Q g s₂ → UnrPostW h₀ L s₁ [(I, o)] r Q g s₂ := by
    intro g hg h
    have h' : ∃ h' tk m' all c tl, s₂ = { s₁ with heap := h', toks := tk } ∧ Fr h₀ L h' m' ∧ News h₀ L h' all ∧ (I, o) ∈ all ∧ (∀ p ∈ Led c ++ tl, p ∈ all) ∧ (∀ p ∈ Led c ++ tl, p.1 ≠ I) ∧ (∀ p ∈ ps c, m' p.1 = some p.2) ∧ (∀ z, (∀ p ∈ ps c, z ≠ p.1) → stored.contains z = false → m' z = m₀ z) ∧ Inv c tl := by
      rcases hg with rfl | rfl <;> exact h
    obtain ⟨h', tk, m', all, c, tl, e, F, N, hI, hs, hoff, hps, hr, hi⟩ := h'
    have q : UnrEndW h₀ L s₁ [(I, o)] r s₂ := by
      refine ⟨h', tk, m', Led c ++ tl, e, F, fun p hp => ?_, fun p hp q hq => ?_, hr' _ _ ⟨c, tl, fun _ h => h, hps, hr, hi⟩⟩
      · rcases List.mem_append.mp hp with hp | hp
        · rw [List.mem_singleton.mp hp]; exact N _ hI
        · exact N _ (hs p hp)
      · rw [List.mem_singleton.mp hq]; exact hoff p hp
    rcases hg with rfl | rfl <;> exact q
  cases f with
  | ret v => exact h
  | brk => exact h
  | next => exact go _ (.inl rfl) h
  | cont => exact go _ (.inr rfl) h

theorem list_loop {σ : Type} (Led : σ → List (Addr × Obj)) (ps : σ → List (Str × Value)) (stored : List Str) (Inv : Addr → Nat → σ → List (Addr × Obj) → Prop) (c₀ : σ) (tl₀ : List (Addr × Obj))
    {ax : Addr} {lo : Obj} {vs : List Value} {n : Nat} {target : PySem.Expr} {m₀ : Str → Option Value} {news : List (Addr × Obj)}
    (hh : A.handled = none) (hm : (ax, lo) ∈ news) (hc : lo.cls = .type "list") (hd : lo.data = .seq vs.toArray n) (F : Fr h₀ env.locals s.heap m₀) (N : News h₀ env.locals s.heap news) (hsub : ∀ p ∈ Led c₀ ++ tl₀, p ∈ news) (hps : ∀ p ∈ ps c₀, m₀ p.1 = some p.2)
    (h0 : ∀ I : Addr, AllLt I news → Inv I 0 c₀ tl₀)
    (hkeep : ∀ I i c tl, Inv I i c tl → (ax, lo) ∈ Led c ++ tl)
    (step : ∀ I i c tl v, vs[i]? = some v → Inv I i c tl → ∀ u h tk o, Fr h₀ env.locals h (names m₀ u stored (ps c)) →
      News h₀ env.locals h ((I, o) :: (Led c ++ tl)) →
      ∀ P9 : Flow → Shared → Prop, (∀ f s₂, LPost h₀ env.locals Led ps stored m₀ (Inv I (i + 1)) I o { s with heap := h, toks := tk } Q f s₂ → P9 f s₂) → wpAny (model prog w) A (assign target env v) (fun _ s₂ => wpAny (model prog w) A (execs body env) P9 E s₂) E { s with heap := h, toks := tk })
    (done : ∀ I c tl, Inv I vs.length c tl → ∀ u h tk, Fr h₀ env.locals h (names m₀ u stored (ps c)) → News h₀ env.locals h (Led c ++ tl) → Q .next { s with heap := h, toks := tk }) :
    wpAny (model prog w) A (pyIter (.ref ax)) (fun it s₂ => TurnsAt prog w A h₀ env target body Q E it s₂) E s := by
  refine iter_listTurns hh F N hm hc hd fun I hI => ?_
  have all : ∀ (xs : List Value) (i : Nat) m nx, vs.drop i = xs → i + xs.length = vs.length → SJ Led ps stored m₀ (Inv I i) m nx → ItemsRest prog w A E h₀ env target body Q s [(I, "list_iterator")] [(ax, lo)] (xs.map .val) m nx := by
    intro xs
    induction xs with
    | nil =>
      rintro i m nx - hi ⟨c, tl, hs, h1, h2, hinv⟩ h tk F₁ N₁
      have e : i = vs.length := by simpa using hi
      subst e
      refine done I c tl hinv m h tk ?_ fun p hp => N₁ p (hs p hp)
      rw [names_eq h1 h2]; exact F₁
    | cons v xs ih =>
      rintro i m nx hdr hi ⟨c, tl, hs, h1, h2, hinv⟩
      rw [List.map_cons]
      refine ItemsRest.val fun h tk F₁ => AllObj.cons fun o _ => AllObj.nil fun N₁ => ?_
      have hv : vs[i]? = some v := by
        have := congrArg (fun l => l[0]?) hdr
        simpa using this
      have hdr' : vs.drop (i + 1) = xs := by
        have := congrArg List.tail hdr
        simpa [List.tail_drop] using this
      rw [← names_eq h1 h2] at F₁
      refine wpAny_mono (step I i c tl v hv hinv m h tk o F₁ (fun p hp => ?_) _ fun _ _ q => q) (fun _ s₂ q => wpAny_mono q (fun f s₃ p => ?_) fun _ _ e => e) fun _ _ e => e
      · rcases List.mem_cons.mp hp with rfl | hp
        · exact N₁ _ (List.mem_cons_self ..)
        · exact N₁ _ (List.mem_append_right _ (hs p hp))
      · refine LPost.unrW (keep := []) (fun m n q => ?_) p
        obtain ⟨c', tl', hs', a, b, d⟩ := id q
        exact ⟨⟨hs' _ (hkeep _ _ _ _ d), trivial⟩, ih (i + 1) m n hdr' (by rw [List.length_cons] at hi; omega) q⟩
  exact all vs 0 m₀ news (by simp) (by simp) ⟨c₀, tl₀, hsub, hps, fun _ _ _ => rfl, h0 I (allLt_of hI)⟩
end

theorem allLt_mem {d : Addr} : ∀ {l : List (Addr × Obj)}, AllLt d l → ∀ p ∈ l, p.1 < d
  | [], _, _, h => nomatch h
  | _ :: _, ⟨h, r⟩, p, hp => by
    rcases List.mem_cons.mp hp with rfl | hp
    · exact h
    · exact allLt_mem r p hp
end Mine
end
section
open PySem PySem.W PyProof.Rows PySem.Calls PySem.Spec
set_option Elab.async false
set_option maxRecDepth 100000
set_option maxHeartbeats 8000000
namespace Mine
section
variable {prog : Program} {w : World} {A : Around} {E : Value → Shared → Prop} {s : Shared} {h₀ : Heap} {L : Addr} {m : Str → Option Value} {news news' : List (Addr × Obj)}

theorem isSeq_list_iadd : isSeqSlot (some (.builtin "list.__iadd__")) = true := by decide +kernel

theorem inplace_list {l b : Addr} {Q : Value → Shared → Prop} (ha : s.TypeIs (.ref l) "list") (hb : s.TypeIs (.ref b) "list")
    (hc : wpAny (model prog w) A (call (.builtin "list.__iadd__") [.ref l, .ref b]) Q E s) : wpAny (model prog w) A (inplaceOp .Add (.ref l) (.ref b)) Q E s := by
  unfold inplaceOp
  refine wpAny_holding ?_
  have hl := PySem.F.slot_list_iadd.lookup
  have hfi : fillsInplaceSlot (.type "list") "add" (Operator.Add == .Add) = pure false := by
    unfold fillsInplaceSlot
    show (typeLookup (.type "list") (dunderI "add") >>= fun fi => pure (fi.isSome && !isSeqSlot fi)) = pure false
    rw [hl]
    show (pure (true && !isSeqSlot (some (.builtin "list.__iadd__"))) : Sem Bool) = pure false
    rw [isSeq_list_iadd]; rfl
  have hsi : seqSlot? (.type "list") (dunderI "add") = pure (some (.builtin "list.__iadd__")) := PySem.seqSlot_of hl isSeq_list_iadd
  refine wpAny_bind (wpAny_typeOf ha (wpAny_bind (wpAny_of_eq hfi ?_)))
  show wpAny _ A (if false = true then _ else _) Q E s
  rw [if_neg Bool.false_ne_true]
  refine wpAny_bind (wpAny_binaryOp1_none (nm := "add") ha hb noFill_list_add ?_)
  refine wpAny_bind (wpAny_of_eq hsi ?_)
  exact wpAny_bind (wpAny_rule hc)

def bumped (its ys : List Value) (n : Nat) : Nat := if (its.toArray ++ ys.toArray).size == its.toArray.size then n else n + 1
theorem iadd_K {l b : Addr} {its ys : List Value} {n k : Nat} {Q : Value → Shared → Prop} (F : Fr h₀ L s.heap m) (N : News h₀ L s.heap news) (hb : (b, W.listOf ys.toArray k) ∈ news)
    (U : Upd l (W.listOf its.toArray n) (W.listOf (its ++ ys).toArray (bumped its ys n)) news news') (h : ∀ h', Fr h₀ L h' m → News h₀ L h' news' → Q (.ref l) { s with heap := h' }) (hz : its.length + ys.length ≤ sizeLine) :
    wpAny (model prog w) A (inplaceOp .Add (.ref l) (.ref b)) Q E s := by
  have hbo := (N _ hb).1
  obtain ⟨pre, post, rfl, rfl, a, c⟩ := U.split
  have z := N (l, W.listOf its.toArray n) (List.mem_append.mpr (.inr (.head _)))
  have hm : Obj.mapSeq (fun x => x ++ ys.toArray) (W.listOf its.toArray n) = W.listOf (its ++ ys).toArray (bumped its ys n) := by
    show ({ cls := .type "list", data := .seq (its.toArray ++ ys.toArray) (bumped its ys n) } : Obj) = _
    rw [show its.toArray ++ ys.toArray = (its ++ ys).toArray from by simp]
  refine inplace_list ⟨_, z.1, rfl⟩ ⟨_, hbo, rfl⟩ ?_
  refine call_meets PySem.F.slot_list_iadd ⟨_, z.1, rfl⟩ PySem.F.entry_list_iadd (PySem.F.args_list_iadd_2 _ _)
    (AutoSeq1.list___iadd___list_list_0 l its.toArray n b ys.toArray k ?_ ?_ ?_) ⟨z.1, hbo, ?_⟩
  · simp [Builtin.List.listTooLong]; omega
  · simp; omega
  · simp; omega
  · refine h _ (F.change (Heap.SameBut.update ..) z.2.1 z.2.2) (news_set N a c (Heap.SameBut.update ..) ?_)
    rw [Heap.get?_update_self _ z.1 (by rw [hm]; rfl), hm]
end
end Mine
end
section
open PySem PySem.W PyProof.Rows PySem.Calls PySem.Spec
set_option Elab.async false
set_option maxRecDepth 100000
set_option maxHeartbeats 8000000
namespace Mine
section
variable {prog : Program} {w : World} {A : Around} {E : Value → Shared → Prop} {s : Shared} {h₀ : Heap} {L : Addr} {m : Str → Option Value} {env : Env}

theorem compEnd_mono {s₁ s₂ : Shared} {I C D : Addr} {oI oC oD : Obj} {S : List (Addr × Obj) → Prop} {r r' : Value → List (Addr × Obj) → Prop} {y : Value} (hr : ∀ n, S n → r y n → r' y n) (h : LCg.CompEnd h₀ L m s₁ I oI C oC D oD S r y s₂) : LCg.CompEnd h₀ L m s₁ I oI C oC D oD S r' y s₂ := by
  obtain ⟨h', tk, n', e, F, N, o, hS, q⟩ := h
  exact ⟨h', tk, n', e, F, N, o, hS, hr _ hS q⟩

/-- a comprehension's turns by an invariant over the turn's number, what is made, the ledger -/
theorem comp_ind {elt : PySem.Expr} {x : Str} {scope : Scope} {cl : List (Str × Addr)} {S : List (Addr × Obj) → Prop} {P : Nat → Value → Prop} {Fin : List Value → List (Addr × Obj) → Prop} {n : Nat}
    (Inv : Nat → List Value → List (Addr × Obj) → Prop)
    (step : ∀ i ys news v I oI C oC D m₂ h tk (E' : Value → Shared → Prop), i < n → P i v → Inv i ys news → LCg.NsObj oC m₂ → m₂ x = some v → Fr h₀ L h m → News h₀ L h ((I, oI) :: (C, oC) :: (D, LCg.lst ys) :: news) → LCg.Off3 I C D news → ((@Ne Nat I C) ∧ (@Ne Nat I D) ∧ (@Ne Nat C D)) →
      wpAny (model prog w) A (eval elt (compEnvC scope cl C env)) (LCg.CompEnd h₀ L m { s with heap := h, toks := tk } I oI C oC D (LCg.lst ys) S (fun y news' => Inv (i + 1) (ys ++ [y]) news')) E' { s with heap := h, toks := tk })
    (done : ∀ ys news, Inv n ys news → Fin ys news) :
    ∀ (k i : Nat), k + i = n → ∀ ys news, Inv i ys news → LCg.CompRest prog w A h₀ L m env elt x scope cl s S P Fin k i ys news := by
  intro k
  induction k with
  | zero =>
    intro i hi ys news h
    have e : i = n := by omega
    subst e
    exact done _ _ h
  | succ k ih =>
    intro i hi ys news hI v I oI C oC D m₂ h tk E' hP hN hx F N o1 o2
    exact wpAny_mono (step i ys news v I oI C oC D m₂ h tk E' (by omega) hP hI hN hx F N o1 o2) (fun y s₂ p => compEnd_mono (fun n' _ q => ih (i + 1) (by omega) _ _ q) p) fun _ _ e => e

/-- over a range -/
theorem comp_range {elt : PySem.Expr} {x : Str} {scope : Scope} {cl : List (Str × Addr)} {Q : Value → Shared → Prop} {r : Addr} {a b : Int} {t u v : Tok} {news : List (Addr × Obj)}
    (Inv : Nat → List Value → List (Addr × Obj) → Prop)
    (hh : A.handled = none) (hr : IsRange s.heap r a b 1 t u v) (F : Fr h₀ L s.heap m) (N : News h₀ L s.heap news)
    (ha : -(2 ^ 62) ≤ a) (ha' : a < 2 ^ 62) (hb : -(2 ^ 62) ≤ b) (hb' : b < 2 ^ 62) (hsz : (b - a).toNat ≤ sizeLine) (h0 : Inv 0 [] news)
    (step : ∀ g i ys news t I oI C oC D m₂ h tk (E' : Value → Shared → Prop), i < (b - a).toNat → Inv i ys news → LCg.NsObj oC m₂ → m₂ x = some (.int (a + (i : Int)) t) → Fr h₀ L h m → News h₀ L h ((I, oI) :: (C, oC) :: (D, LCg.lst ys) :: news) → LCg.Off3 I C D news → ((@Ne Nat I C) ∧ (@Ne Nat I D) ∧ (@Ne Nat C D)) →
      wpAny (model prog w) A (eval elt (compEnvC scope cl C env)) (LCg.CompEnd h₀ L m { { s with heap := g } with heap := h, toks := tk } I oI C oC D (LCg.lst ys) (fun _ => True) (fun y news' => Inv (i + 1) (ys ++ [y]) news')) E' { { s with heap := g } with heap := h, toks := tk })
    (done : ∀ g ys news, Inv (b - a).toNat ys news → ∀ D h tk, Fr h₀ L h m → News h₀ L h ((D, LCg.lst ys) :: news) → LCg.Off1 D news → Q (.ref D) { { s with heap := g } with heap := h, toks := tk }) :
    LCg.CompSrc prog w A h₀ L m env elt x scope cl (fun s₂ => LCg.FinE h₀ L m s₂ Q) (.ref r) s := by
  refine LCg.CompSrc.range (n := (b - a).toNat) hh F N hr (small_one ha ha' hb hb') ?_ hsz fun g => ?_
  · rw [rangeSize_one]; split <;> omega
  · refine comp_ind Inv ?_ ?_ (b - a).toNat 0 rfl _ _ h0
    · rintro i ys news v I oI C oC D m₂ h tk E' hi ⟨t, rfl⟩ hI hN hx F N o1 o2
      exact step g i ys news t I oI C oC D m₂ h tk E' hi hI hN hx F N o1 o2
    · intro ys news hI D h tk F N o1
      exact done g ys news hI D h tk F N o1

/-- over a list of the ledger -/
theorem comp_list {elt : PySem.Expr} {x : Str} {scope : Scope} {cl : List (Str × Addr)} {Q : Value → Shared → Prop} {ax : Addr} {vs : List Value} {k : Nat} {news : List (Addr × Obj)}
    (Inv : Nat → List Value → List (Addr × Obj) → Prop)
    (hh : A.handled = none) (hm : (ax, ({ cls := .type "list", data := .seq vs.toArray k } : Obj)) ∈ news) (F : Fr h₀ L s.heap m) (N : News h₀ L s.heap news)
    (hsz : vs.length ≤ sizeLine) (h0 : Inv 0 [] news)
    (step : ∀ g i ys news v I oI C oC D m₂ h tk (E' : Value → Shared → Prop), vs[i]? = some v → Inv i ys news → LCg.NsObj oC m₂ → m₂ x = some v → Fr h₀ L h m → News h₀ L h ((I, oI) :: (C, oC) :: (D, LCg.lst ys) :: news) → LCg.Off3 I C D news → ((@Ne Nat I C) ∧ (@Ne Nat I D) ∧ (@Ne Nat C D)) →
      wpAny (model prog w) A (eval elt (compEnvC scope cl C env)) (LCg.CompEnd h₀ L m { { s with heap := g } with heap := h, toks := tk } I oI C oC D (LCg.lst ys) (LCg.SrcAt h₀ ax vs.toArray) (fun y news' => Inv (i + 1) (ys ++ [y]) news')) E' { { s with heap := g } with heap := h, toks := tk })
    (done : ∀ g ys news, Inv vs.length ys news → ∀ D h tk, Fr h₀ L h m → News h₀ L h ((D, LCg.lst ys) :: news) → LCg.Off1 D news → Q (.ref D) { { s with heap := g } with heap := h, toks := tk }) :
    LCg.CompSrc prog w A h₀ L m env elt x scope cl (fun s₂ => LCg.FinE h₀ L m s₂ Q) (.ref ax) s := by
  refine LCg.CompSrc.ledger hh F N hm (by simpa using hsz) fun g => ?_
  have hl : vs.toArray.size = vs.length := by simp
  rw [hl]
  refine comp_ind Inv ?_ ?_ vs.length 0 rfl _ _ h0
  · rintro i ys news v I oI C oC D m₂ h tk E' hi hP hI hN hx F N o1 o2
    exact step g i ys news v I oI C oC D m₂ h tk E' (by simpa using hP) hI hN hx F N o1 o2
  · intro ys news hI D h tk F N o1
    exact done g ys news hI D h tk F N o1

theorem off3_of {I C D : Addr} {l : List (Addr × Obj)} (h1 : ∀ p ∈ l, p.1 ≠ I) (h2 : ∀ p ∈ l, p.1 ≠ C) (h3 : ∀ p ∈ l, p.1 ≠ D) : LCg.Off3 I C D l := LCg.Off3.of fun p hp => ⟨h1 p hp, h2 p hp, h3 p hp⟩
theorem off1_of {D : Addr} : ∀ {l : List (Addr × Obj)}, LCg.Off1 D l → ∀ p ∈ l, p.1 ≠ D
  | [], _, _, h => nomatch h
  | _ :: _, ⟨h, r⟩, p, hp => by
    rcases List.mem_cons.mp hp with rfl | hp
    · exact h
    · exact off1_of r p hp
end
end Mine
end
section
open PySem PySem.W PyProof.Rows PySem.Calls PySem.Spec
set_option Elab.async false
set_option maxRecDepth 100000
set_option maxHeartbeats 4000000
namespace Mine

/-- list.append bound to a list -/
abbrev boundOf (l : Addr) : Obj := { cls := .type "builtin_function_or_method", data := .fields #[.builtin "list.append", .ref l] }

theorem md_get : typeLookup (.type "method_descriptor") "__get__" = pure (some (.builtin "method_descriptor.__get__")) := by rw [typeLookup_type, builtinLookup_eq_fast]; kernel_rfl
theorem md_set : typeLookup (.type "method_descriptor") "__set__" = pure none := by rw [typeLookup_type, builtinLookup_eq_fast]; kernel_rfl
theorem md_delete : typeLookup (.type "method_descriptor") "__delete__" = pure none := by rw [typeLookup_type, builtinLookup_eq_fast]; kernel_rfl
theorem md_slot : Slot "method_descriptor" "__get__" "method_descriptor.__get__" :=
  .of (owner := "method_descriptor") (n := "__get__") (by rw [typeLookup_type, builtinLookup_eq_fast]; kernel_rfl) (by decide +kernel) (by decide +kernel) (by decide +kernel)
    (by first | exact .inl (by decide +kernel) | exact .inr (by decide +kernel)) (by rw [isSubtype_type]; kernel_rfl)
theorem md_entry : entryFor table "method_descriptor.__get__" = some Builtin.«method_descriptor.__get__» := entryFor_of_tree (by kernel_rfl)
theorem owner_md : Manifest.owners.lookup (String.ofList ['r', 'o', 't', 'p', 'i', 'r', 'c', 's', 'e', 'd', '_', 'd', 'o', 'h', 't', 'e', 'm'].reverse) = some Manifest.sig_method_descriptor := by kernel_rfl
theorem md_args (b c : Value) : argsOk "method_descriptor.__get__" ⟨[.builtin "list.append", b, c], []⟩ := by
  unfold argsOk; rw [signature?_of (id := "method_descriptor.__get__") (n := ['_', '_', 't', 'e', 'g', '_', '_']) (o := ['r', 'o', 't', 'p', 'i', 'r', 'c', 's', 'e', 'd', '_', 'd', 'o', 'h', 't', 'e', 'm']) (by kernel_rfl) owner_md]; kernel_rfl

theorem md_meets (l : Addr) (xs : Array Value) (k : Nat) :
    Meets (Builtin.«method_descriptor.__get__» ⟨[.builtin "list.append", .ref l, .type "list"], []⟩) (fun _ R s => s.heap.get? l = some { cls := .type "list", data := .seq xs k } ∧ ∀ tk, R (.ok (.ret (.ref s.heap.objs.size))) { s with heap := s.heap.push (boundOf l), toks := tk }) :=
  Meets.of_wp fun prog w A R s hs => by
    obtain ⟨hp, g, d, tk, os⟩ := s
    obtain ⟨hx, hs⟩ := hs
    have hT : (⟨hp, g, d, tk, os⟩ : Shared).TypeIs (.ref l) "list" := ⟨_, hx, rfl⟩
    have f0 : (".".intercalate ("list.append".cutAt '.').dropLast) = "list" := by decide +kernel
    have f1 : isSubtype (Value.type "list") (Value.type (".".intercalate ("list.append".cutAt '.').dropLast)) = pure true := by rw [f0]; exact sub_list_list
    unfold Builtin.«method_descriptor.__get__»
    repeat (any_goals (first | assumption | wp_step))
    exact ⟨_, rfl, hs _⟩

theorem md_code {prog : Program} {w : World} {A : Around} {R : Result → Shared → Prop} {s : Shared} {l : Addr} {xs : Array Value} {k : Nat} (hx : s.heap.get? l = some { cls := .type "list", data := .seq xs k })
    (h : ∀ tk, R (.ok (.ret (.ref s.heap.objs.size))) { s with heap := s.heap.push (boundOf l), toks := tk }) :
    codeAny (model prog w) A (.call (.builtin "method_descriptor.__get__") ⟨[.builtin "list.append", .ref l, .type "list"], []⟩) R s :=
  codeAny_call_builtin md_slot.plain md_entry (md_slot.check _ _ _ _ _ _ _ _ (PySem.type_list_append) (md_args _ _) (md_meets l xs k prog w A R s ⟨hx, h⟩))

theorem get_meets (l : Addr) (xs : Array Value) (k : Nat) (u : Tok) :
    Meets (Builtin.«object.__getattribute__» ⟨[.ref l, .str "append" u], []⟩) (fun _ R s => s.heap.get? l = some { cls := .type "list", data := .seq xs k } ∧ ∀ tk, R (.ok (.ret (.ref s.heap.objs.size))) { s with heap := s.heap.push (boundOf l), toks := tk }) :=
  Meets.of_wp fun prog w A R s hs => by
    obtain ⟨hp, g, d, tk, os⟩ := s
    obtain ⟨hx, hs⟩ := hs
    have hT : (⟨hp, g, d, tk, os⟩ : Shared).TypeIs (.ref l) "list" := ⟨_, hx, rfl⟩
    have f1 := PySem.F.slot_list_append.lookup
    have f2 := PySem.type_list_append
    have f3 := md_get
    have f4 := md_set
    have f5 := md_delete
    unfold Builtin.«object.__getattribute__»
    repeat (any_goals (first | assumption | wp_step))
    exact md_code hx fun tk' => wpAny_pure ⟨_, rfl, hs tk'⟩

theorem list_getattr_none : typeLookup (.type "list") "__getattr__" = pure none := by rw [typeLookup_type, builtinLookup_eq_fast]; kernel_rfl
theorem entry_list_getattribute : entryFor table "list.__getattribute__" = some Builtin.«object.__getattribute__» :=
  entryFor_alias (id' := "object.__getattribute__") (by kernel_rfl) (by decide +kernel) (by decide +kernel) (by kernel_rfl)

theorem getAttr_append {prog : Program} {w : World} {A : Around} {E : Value → Shared → Prop} {s : Shared} {l : Addr} {xs : Array Value} {k : Nat} {Q : Value → Shared → Prop}
    (hx : s.heap.get? l = some { cls := .type "list", data := .seq xs k }) (h : ∀ tk, Q (.ref s.heap.objs.size) { s with heap := s.heap.push (boundOf l), toks := tk }) :
    wpAny (model prog w) A (getAttr (.ref l) "append" true) Q E s := by
  obtain ⟨hp, g, d, tk, os⟩ := s
  have hT : ∀ tk', (⟨hp, g, d, tk', os⟩ : Shared).TypeIs (.ref l) "list" := fun _ => ⟨_, hx, rfl⟩
  have f3 := PySem.F.slot_list_getattribute.lookup
  have f4 := PySem.F.slot_list_getattribute.bind (.ref l)
  have f5 := list_getattr_none
  unfold getAttr getAttrBy
  repeat (any_goals (first | assumption | exact hT _ | ((with_reducible show wpAny _ _ (call (Value.builtin "list.__getattribute__") _ _) _ _ _); refine call_meets PySem.F.slot_list_getattribute (hT _) entry_list_getattribute (PySem.F.args_list_getattribute_2 _ _) (get_meets l xs k _) ⟨hx, fun tk' => ?_⟩) | wp_step))
  show wpAny _ _ (handedOut (Value.ref _)) _ _ _
  exact wpAny_pure (h tk')

theorem sig_append : Manifest.signature? "list.append" = Manifest.sig_list.lookup (String.ofList ['d', 'n', 'e', 'p', 'p', 'a'].reverse) := signature?_of (id := "list.append") (n := ['d', 'n', 'e', 'p', 'p', 'a']) (o := ['t', 's', 'i', 'l']) (by kernel_rfl) PySem.F.owner_list

theorem check_bound {prog : Program} {w : World} {A : Around} {E : Value → Shared → Prop} {s : Shared} {l : Addr} {xs : Array Value} {k : Nat} {x : Value} {Q : Unit → Shared → Prop}
    (hx : s.heap.get? l = some { cls := .type "list", data := .seq xs k }) (h : Q () s) : wpAny (model prog w) A (checkBoundCall "list.append" ⟨[.ref l, x], []⟩) Q E s := by
  obtain ⟨hp, g, d, tk, os⟩ := s
  have hT : (⟨hp, g, d, tk, os⟩ : Shared).TypeIs (.ref l) "list" := ⟨_, hx, rfl⟩
  have hk : builtinKind "list.append" = some .method := by decide +kernel
  have hm : isSubtype (.type "list") (.type "module") = pure false := by rw [isSubtype_type]; kernel_rfl
  have ht : isSubtype (.type "list") (.type "type") = pure false := by rw [isSubtype_type]; kernel_rfl
  have hv : Manifest.varargsMethods.contains "list.append" = false := by decide +kernel
  have hc : (match List.lookup (String.ofList ['d', 'n', 'e', 'p', 'p', 'a'].reverse) Manifest.sig_list with
      | some sig => Bind.checkArgs "list.append" { machinery := sig.machinery, full := toString (Bind.lastOf "list") ++ toString "." ++ toString (Bind.lastOf "list.append"), short := sig.short, receiver := sig.receiver, params := sig.params } ⟨[.ref l, x], []⟩
      | none => pure ()) = pure () := by kernel_rfl
  unfold checkBoundCall
  rw [sig_append, hk]
  cases hsig : List.lookup (String.ofList ['d', 'n', 'e', 'p', 'p', 'a'].reverse) Manifest.sig_list with
  | none => exact wpAny_pure h
  | some sig =>
    rw [hsig] at hc
    dsimp only at hc ⊢
    repeat (any_goals (first | exact wpAny_of_eq hc h | assumption | wp_step))
end Mine
end
section
open PySem PySem.W PyProof.Rows PySem.Calls PySem.Spec
set_option Elab.async false
set_option maxRecDepth 100000
set_option maxHeartbeats 4000000
namespace Mine
section
variable {prog : Program} {w : World} {A : Around} {E : Value → Shared → Prop} {s : Shared} {h₀ : Heap} {L : Addr} {m : Str → Option Value} {news news' : List (Addr × Obj)}

theorem bound_call {q l : Addr} {xs : List Value} {k : Nat} {x : Value} {Q : Value → Shared → Prop} (F : Fr h₀ L s.heap m) (N : News h₀ L s.heap news) (hq : (q, boundOf l) ∈ news)
    (U : Upd l (W.listOf xs.toArray k) (W.listOf (xs ++ [x]).toArray (k + 1)) news news') (h : ∀ h', Fr h₀ L h' m → News h₀ L h' news' → Q .none { s with heap := h' }) (hz : xs.length ≤ sizeLine) :
    wpAny (model prog w) A (call (.ref q) [x]) Q E s := by
  obtain ⟨pre, post, rfl, rfl, a, b⟩ := U.split
  have z := N (l, W.listOf xs.toArray k) (List.mem_append.mpr (.inr (.head _)))
  have zq := (N _ hq).1
  refine wpAny_call (codeAny_of_tree ?_)
  show wpAny _ _ (callAny (.ref q) ⟨[x], []⟩) _ _ _
  unfold callAny
  refine wpAny_bind (wpAny_load zq ?_)
  show wpAny _ _ (do checkBoundCall "list.append" ⟨[.ref l, x], []⟩; again (.builtin "list.append" ⟨[.ref l, x], []⟩)) _ _ _
  refine wpAny_bind (check_bound z.1 ?_)
  refine wpAny_pure ⟨plainId_quiet PySem.F.slot_list_append.plain _, ?_⟩
  refine codeAny_builtin PySem.F.entry_list_append ?_
  rw [Around.under_plainId PySem.F.slot_list_append.plain]
  show wpAny _ _ (updateSeq l (·.push x) >>= fun _ => ret .none) _ _ _
  refine wpAny_bind (wpAny_updateSeq z.1 rfl (wpAny_pure (h _ (F.change (Heap.SameBut.update ..) z.2.1 z.2.2) (news_set N a b (Heap.SameBut.update ..) ?_))) ?_ ?_)
  · rw [Heap.get?_update_self _ z.1 (by rw [mapSeq_push]; rfl), mapSeq_push]
    simp
  · simpa using hz
  · simp; omega

theorem bound_new {l : Addr} {xs : Array Value} {k : Nat} {Q : Value → Shared → Prop} (F : Fr h₀ L s.heap m) (N : News h₀ L s.heap news) (hl : (l, W.listOf xs k) ∈ news)
    (h : ∀ q h' tk, Fr h₀ L h' m → News h₀ L h' ((q, boundOf l) :: news) → (∀ p ∈ news, p.1 < q) → Q (.ref q) { s with heap := h', toks := tk }) :
    wpAny (model prog w) A (getAttr (.ref l) "append" true) Q E s :=
  getAttr_append (N _ hl).1 fun tk => h _ _ tk (F.push _) (News.push F N _) fun p hp => Heap.lt_size (N p hp).1
end
end Mine
namespace Mine
section
variable {M : Model} {A : Around} {E : Value → Shared → Prop} {s : Shared} {env : Env} {pos : Pos} {first : List Value} {Q : Value → Shared → Prop}
theorem keeps_B {q l : Addr} (h : Heap) (X : h.get? q = some (boundOf l)) : ∃ k, (k = Keeper.frame ∨ k = Keeper.machine ∨ k = Keeper.boundFrame) ∧ Looks M h (keeperOf (.ref q)) k :=
  ⟨.machine, .inr (.inl rfl), (Looks.ld (part := none) X).andThen .now⟩
theorem callWith_B {q l : Addr} {e : PySem.Expr} {rest : List PySem.Expr} {h₀ : Heap} {L : Addr} {news : List (Addr × Obj)} (_N : News h₀ L s.heap news) (_q : (q, boundOf l) ∈ news) (h : wpAny M A (spliced (backTo pos (starEach (e :: rest) env))) (fun vs s₁ => s₁.heap.get? q = some (boundOf l) ∧ wpAny M A (call (.ref q) (first ++ vs)) Q E s₁) E s)
    (he : starEach (e :: rest) env = (false, eval e env) :: starEach rest env := by rfl) (hplain : (backTo pos (starEach rest env)).any (·.1) = false := by rfl) :
    wpAny M A (callWith pos (.ref q) first (backTo pos (starEach (e :: rest) env)) []) Q E s := by
  rw [he] at h ⊢
  exact callWith_of (by show ((false || (backTo pos (starEach rest env)).any (·.1)) || false) = false; rw [hplain]; rfl) keeps_B (evalArgs_plain h)
end
end Mine
namespace Mine
theorem news_get {h₀ h : Heap} {L q : Addr} {o : Obj} {news : List (Addr × Obj)} (N : News h₀ L h news) (hq : (q, o) ∈ news) : h.get? q = some o := (N _ hq).1
end Mine
namespace Mine
section
variable {M : Model} {A : Around} {E : Value → Shared → Prop} {s : Shared} {env : Env}
theorem tok_keep {α : Type} {t : Sem α} {Q : α → Shared → Prop} (hn : 1 ≤ s.toks) (h : wpAny M A t (fun a s' => 1 ≤ s'.toks → Q a s') E s) : wpAny M A t Q E s :=
  wpAny_mono (wpAny_toks_of hn h) (fun _ _ q => q.2 q.1) fun _ _ q => q.2
theorem tok_cons {st : Stmt} {rest : List Stmt} {Q : Flow → Shared → Prop} (hn : 1 ≤ s.toks)
    (h : wpAny M A (exec st env) (fun f s' => 1 ≤ s'.toks → match f with | .next => wpAny M A (execs rest env) Q E s' | f => Q f s') E s) : wpAny M A (execs (st :: rest) env) Q E s :=
  wpAny_execs_cons (tok_keep hn (wpAny_mono h (fun f s' q => by cases f <;> exact q) fun _ _ q => q))
end
end Mine
end
section
open PySem PySem.W PyProof.Rows PySem.Calls PySem.Spec
set_option Elab.async false
set_option maxRecDepth 100000
set_option maxHeartbeats 4000000
namespace Mine
section
variable {prog : Program} {w : World} {A : Around} {E : Value → Shared → Prop} {s : Shared} {h₀ : Heap} {L : Addr} {m : Str → Option Value} {news : List (Addr × Obj)}

def rowEntry (w : World) (r : Str × Tok × Str × Tok) : DictEntry := ⟨PyData.keyHash w.params r.1, .str r.1 r.2.1, .str r.2.2.1 r.2.2.2⟩
theorem dict_rows {h : Heap} {d n : Nat} {rows : List (Str × Tok × Str × Tok)} (e : h.get? d = some ⟨.type "dict", none, .dict (rows.map (rowEntry w)).toArray n, #[]⟩) (nd : (rows.map (·.1)).Nodup) :
    h.DictAt (PySem.strKind prog w) d (rows.map fun r => (r.1, Value.str r.2.2.1 r.2.2.2)) n := by
  refine ⟨_, _, e, ⟨rfl, rfl, rfl⟩, rfl, ?_, ?_, ?_⟩
  · intro en hen
    obtain ⟨r, _, rfl⟩ : ∃ r ∈ rows, rowEntry w r = en := by simpa using hen
    exact ⟨r.1, strKind_is prog w _ _, rfl⟩
  · simp only
    clear nd e
    induction rows with
    | nil => exact .nil
    | cons r rs ih => exact .cons (strKind_is prog w _ _) rfl ih
  · rw [List.map_map]; exact nd

def nsRows : List (Str × Tok × Str × Tok) := [
  (Str.ofString "http://www.w3.org/XML/1998/namespace", 410, Str.ofString "xml", 411), (Str.ofString "http://www.w3.org/1999/xhtml", 412, Str.ofString "html", 413),
  (Str.ofString "http://www.w3.org/1999/02/22-rdf-syntax-ns#", 414, Str.ofString "rdf", 415), (Str.ofString "http://schemas.xmlsoap.org/wsdl/", 416, Str.ofString "wsdl", 417),
  (Str.ofString "http://www.w3.org/2001/XMLSchema", 418, Str.ofString "xs", 419), (Str.ofString "http://www.w3.org/2001/XMLSchema-instance", 420, Str.ofString "xsi", 421),
  (Str.ofString "http://purl.org/dc/elements/1.1/", 422, Str.ofString "dc", 423)]

theorem ns_dict {h : Heap} (X : (hd.heap_1 w.params).In h) : h.DictAt (PySem.strKind prog w) 68 (nsRows.map fun r => (r.1, Value.str r.2.2.1 r.2.2.2)) 7 :=
  dict_rows (X 68 _ rfl) (by decide)

theorem of_at {K : Type} [DecidableEq K] {knd : KeyKind prog w K} {kvs : List (K × Value)} {h : Heap} {d ep : Nat} (hD : h.DictAt knd d kvs ep) : h.DictOf knd d kvs := let ⟨o, es, a, b, c, d, e, f⟩ := hD; ⟨o, es, ep, a, b, c, d, e, f⟩
theorem ns_method {K : Type} [DecidableEq K] {knd : KeyKind prog w K} {kvs : List (K × Value)} {d : Addr} {ep : Nat} {pl : Sem Bool} {Q : Value × List Value → Shared → Prop} (hD : s.heap.DictAt knd d kvs ep) (h : Q (.builtin "dict.items", [.ref d]) s) :
    wpAny (model prog w) A (getMethod (.ref d) "items" pl) Q E s :=
  have hO := of_at hD
  getMethod_builtin hO.typeIs PySem.F.plainAttrs_dict PySem.F.slot_dict_items PySem.F.type_dict_items hO.mapOf.noDict h

theorem ns_view {K : Type} [DecidableEq K] {knd : KeyKind prog w K} {kvs : List (K × Value)} {d : Addr} {ep : Nat} {Q : Value → Shared → Prop} (F : Fr h₀ L s.heap m) (N : News h₀ L s.heap news) (hD : s.heap.DictAt knd d kvs ep) (lo : (d == sysModules) = false)
    (h : ∀ (D : Addr) h', Fr h₀ L h' m → News h₀ L h' ((D, { cls := .type "dict_items", data := .fields #[.ref d] }) :: news) → (∀ q ∈ news, q.1 < D) → Q (.ref D) { s with heap := h' }) :
    wpAny (model prog w) A (call (.builtin "dict.items") [.ref d]) Q E s :=
  have hO := of_at hD
  call_meetsIn PySem.F.slot_dict_items hO.typeIs PySem.F.entry_dict_items (PySem.F.args_dict_items_1 _) (meets_dict_items knd d lo) ⟨⟨kvs, hO⟩, h _ _ (F.push _) (News.push F N _) fun q hq => Heap.lt_size (N q hq).1⟩

theorem ns_list {K : Type} [DecidableEq K] {knd : KeyKind prog w K} {kvs : List (K × Value)} {d v : Addr} {ep : Nat} {Q : Value → Shared → Prop} (hh : A.handled = none) (F : Fr h₀ L s.heap m) (N : News h₀ L s.heap news) (hv : (v, { cls := .type "dict_items", data := .fields #[.ref d] }) ∈ news) (hD : s.heap.DictAt knd d kvs ep) (hn : kvs.length ≤ sizeLine)
    (h : ∀ (D : Addr) h' tk acc c, Fr h₀ L h' m → News h₀ L h' ((D, { cls := .type "list", data := .seq acc c }) :: news) → (∀ q ∈ news, q.1 < D) → Q (.ref D) { s with heap := h', toks := tk }) :
    wpAny (model prog w) A (call (.type "list") [.ref v]) Q E s :=
  kdx_call (knd := knd) hh ⟨_, (N _ hv).1, rfl, rfl⟩ hD hn fun h' tk acc c as hk hS _ _ _ =>
    h _ _ tk acc c (F.keeps hk) (fun p hp => by
      rcases List.mem_cons.mp hp with rfl | hp
      · exact ⟨hS, Nat.ne_of_gt F.ns.lt, next_is_new F⟩
      · exact N.grown hk p hp) fun q hq => Heap.lt_size (N q hq).1
end
end Mine
end
section
open PySem PySem.W PyProof.Rows PySem.Calls PySem.Spec
set_option Elab.async false
set_option maxRecDepth 100000
set_option maxHeartbeats 8000000
namespace Mine

def Ret (h₀ : Heap) (L : Addr) (m : Str → Option Value) (news : List (Addr × Obj)) (s : Shared) (Q : Value → Shared → Prop) (P : List (Addr × Obj) → Value → Prop) : Prop :=
  ∀ (r : Value) (new : List (Addr × Obj)) (h' : Heap) (tk' : Nat), Fr h₀ L h' m → News h₀ L h' (new ++ news) → P (new ++ news) r → Q r { s with heap := h', toks := tk' }

def Con (w : World) (f : Addr) (news : List (Addr × Obj)) (args : List Value) (post : List (Addr × Obj) → Value → Prop) : Prop :=
  ∀ (dp un : Nat) (gd : Option (List Code)) (cn : Str) (cs : Scope) (a : Addr) (ccd : Value) (cl : List (Str × Addr)) (outer : List Env) (A₀ : Around) (base h₀ : Heap) (L : Addr) (m mg mb : Str → Option Value) (mean : ExcName → Option Value) (loose : List Str) (s : Shared) (Q E : Value → Shared → Prop),
    Below A₀ base outer h₀ → Fr h₀ L s.heap m → (hd.heap_1 w.params).In h₀ → News h₀ L s.heap news → Top topProg loose mean mg mb h₀ → cs.kind = .function → dp + 40 < recursionLimit → un + 200 < cLine →
    Ret h₀ L m news s Q post → wpAny (model PySem.Challenge.rw_kl0305_01.row.prog w) (ktrTop dp un gd cn cs L a ccd cl outer) (call (.ref f) args) Q E s

end Mine
namespace Mine
theorem nm0 {h₀ h : Heap} {L a : Addr} {o : Obj} {r : List (Addr × Obj)} (_ : News h₀ L h ((a, o) :: r)) : ∃ x, x = a := ⟨a, rfl⟩
theorem nm1 {h₀ h : Heap} {L a : Addr} {o q : _} {r : List (Addr × Obj)} (_ : News h₀ L h (q :: (a, o) :: r)) : ∃ x, x = a := ⟨a, rfl⟩
theorem nm2 {h₀ h : Heap} {L a : Addr} {o q q' : _} {r : List (Addr × Obj)} (_ : News h₀ L h (q :: q' :: (a, o) :: r)) : ∃ x, x = a := ⟨a, rfl⟩
end Mine
namespace Mine
/-- a stop of our own: the walk knows no line for it -/
def Stop (P : Prop) : Prop := P
theorem Stop.mk {P : Prop} (h : Stop P) : P := h
theorem Stop.of {P : Prop} (h : P) : Stop P := h
structure Halt : Prop where
theorem halt : Halt := ⟨⟩
end Mine
namespace Mine
theorem head_of {h₀ h : Heap} {L : Addr} {q : Addr × Obj} {r : List (Addr × Obj)} (_ : News h₀ L h (q :: r)) : ∃ x, x = q := ⟨q, rfl⟩
end Mine
namespace Mine
/-- an address below another, as omega reads it -/
abbrev below (a b : Nat) : Prop := a < b
end Mine
namespace Mine
theorem off_nil {tl : List (Addr × Obj)} : OwnOff tl [] := fun _ _ _ h => nomatch h
theorem off_add {tl : List (Addr × Obj)} {b : Addr} {adr : List Addr} (h : ∀ p ∈ tl, p.1 ≠ b) (r : OwnOff tl adr) : OwnOff tl (b :: adr) := fun p hp c hc => by
  rcases List.mem_cons.mp hc with rfl | hc
  · exact h p hp
  · exact r p hp c hc
theorem off_cons {q : Addr × Obj} {tl : List (Addr × Obj)} {adr : List Addr} (h : ∀ b ∈ adr, q.1 ≠ b) (r : OwnOff tl adr) : OwnOff (q :: tl) adr := fun p hp c hc => by
  rcases List.mem_cons.mp hp with rfl | hp
  · exact h c hc
  · exact r p hp c hc
theorem off_lt {tl : List (Addr × Obj)} {b : Addr} (h : AllLt b tl) : ∀ p ∈ tl, p.1 ≠ b := fun p hp => Nat.ne_of_lt (allLt_mem h p hp)
theorem off_append {a b : List (Addr × Obj)} {adr : List Addr} (h1 : OwnOff a adr) (h2 : OwnOff b adr) : OwnOff (a ++ b) adr := fun p hp => by
  rcases List.mem_append.mp hp with hp | hp
  · exact h1 p hp
  · exact h2 p hp
theorem off_at {tl : List (Addr × Obj)} {adr : List Addr} {b : Addr} (h : OwnOff tl adr) (hb : b ∈ adr) : ∀ p ∈ tl, p.1 ≠ b := fun p hp => h p hp b hb
theorem off_sub {tl : List (Addr × Obj)} {adr adr' : List Addr} (h : OwnOff tl adr) (hs : ∀ b ∈ adr', b ∈ adr) : OwnOff tl adr' := fun p hp b hb => h p hp b (hs b hb)
end Mine
namespace Mine
/-- an entry of the tail, said once more at the head -/
theorem news_add {h₀ h : Heap} {L : Addr} {q x0 x1 x2 x3 x4 x5 : Addr × Obj} {tl : List (Addr × Obj)} (hq : q ∈ tl) (N : News h₀ L h (x0 :: x1 :: x2 :: x3 :: x4 :: x5 :: tl)) : News h₀ L h (q :: x0 :: x1 :: x2 :: x3 :: x4 :: x5 :: tl) := fun p hp => by
  rcases List.mem_cons.mp hp with rfl | hp
  · exact N _ (by simp [hq])
  · exact N _ hp
end Mine
namespace Mine
abbrev apart (a b : Nat) : Prop := a ≠ b
end Mine
namespace Mine
theorem no1 {h₀ h : Heap} {L a : Addr} {o : Obj} {x0 : Addr × Obj} {r : List (Addr × Obj)} (_ : News h₀ L h (x0 :: (a, o) :: r)) : ∃ x, x = o := ⟨o, rfl⟩
theorem no2 {h₀ h : Heap} {L a : Addr} {o : Obj} {x0 x1 : Addr × Obj} {r : List (Addr × Obj)} (_ : News h₀ L h (x0 :: x1 :: (a, o) :: r)) : ∃ x, x = o := ⟨o, rfl⟩
theorem led_of {h₀ h : Heap} {L : Addr} {news : List (Addr × Obj)} (_ : News h₀ L h news) : ∃ x, x = news := ⟨news, rfl⟩
end Mine
namespace Mine
theorem ent1 {h₀ h : Heap} {L : Addr} {x0 x1 : Addr × Obj} {r : List (Addr × Obj)} (_ : News h₀ L h (x0 :: x1 :: r)) : ∃ x, x = x1 := ⟨x1, rfl⟩
theorem ent2 {h₀ h : Heap} {L : Addr} {x0 x1 x2 : Addr × Obj} {r : List (Addr × Obj)} (_ : News h₀ L h (x0 :: x1 :: x2 :: r)) : ∃ x, x = x2 := ⟨x2, rfl⟩
/-- the ledger, said with fewer entries or in another order -/
theorem news_pick {h₀ h : Heap} {L : Addr} {a b : List (Addr × Obj)} (N : News h₀ L h a) (hs : ∀ p ∈ b, p ∈ a) : News h₀ L h b := fun p hp => N p (hs p hp)
end Mine
namespace Mine
theorem fr_str {h₀ h : Heap} {L : Addr} {m : Str → Option Value} {x y : Str} {t : Tok} (_ : Fr h₀ L h m) (e : m x = some (.str y t)) : ∃ t', m x = some (.str y t') := ⟨t, e⟩
theorem fr_int {h₀ h : Heap} {L : Addr} {m : Str → Option Value} {x : Str} {y : Int} {t : Tok} (_ : Fr h₀ L h m) (e : m x = some (.int y t)) : ∃ t', m x = some (.int y t') := ⟨t, e⟩
theorem fr_bytes {h₀ h : Heap} {L : Addr} {m : Str → Option Value} {x : Str} {y : Array UInt8} {t : Tok} (_ : Fr h₀ L h m) (e : m x = some (.bytes y t)) : ∃ t', m x = some (.bytes y t') := ⟨t, e⟩
end Mine
namespace Mine
theorem news_add2 {h₀ h : Heap} {L : Addr} {q x0 x1 : Addr × Obj} {tl : List (Addr × Obj)} (hq : q ∈ tl) (N : News h₀ L h (x0 :: x1 :: tl)) : News h₀ L h (q :: x0 :: x1 :: tl) := fun p hp => by
  rcases List.mem_cons.mp hp with rfl | hp
  · exact N _ (by simp [hq])
  · exact N _ hp
end Mine
namespace Mine
section
variable {h₀ h : Heap} {L a : Addr} {o : Obj} {x0 x1 x2 x3 x4 x5 x6 x7 x8 x9 : Addr × Obj} {r : List (Addr × Obj)} {es : List DictEntry} {n : Nat}
theorem nm3 (_ : News h₀ L h (x0 :: x1 :: x2 :: (a, o) :: r)) : ∃ x, x = a := ⟨a, rfl⟩
theorem nm4 (_ : News h₀ L h (x0 :: x1 :: x2 :: x3 :: (a, o) :: r)) : ∃ x, x = a := ⟨a, rfl⟩
theorem nm5 (_ : News h₀ L h (x0 :: x1 :: x2 :: x3 :: x4 :: (a, o) :: r)) : ∃ x, x = a := ⟨a, rfl⟩
theorem nm6 (_ : News h₀ L h (x0 :: x1 :: x2 :: x3 :: x4 :: x5 :: (a, o) :: r)) : ∃ x, x = a := ⟨a, rfl⟩
theorem nm7 (_ : News h₀ L h (x0 :: x1 :: x2 :: x3 :: x4 :: x5 :: x6 :: (a, o) :: r)) : ∃ x, x = a := ⟨a, rfl⟩
theorem dn2 (_ : News h₀ L h (x0 :: x1 :: (a, dictOf es n) :: r)) : ∃ x, x = n := ⟨n, rfl⟩
theorem dn5 (_ : News h₀ L h (x0 :: x1 :: x2 :: x3 :: x4 :: (a, dictOf es n) :: r)) : ∃ x, x = n := ⟨n, rfl⟩
theorem de2 (_ : News h₀ L h (x0 :: x1 :: (a, dictOf es n) :: r)) : ∃ x, x = es := ⟨es, rfl⟩
theorem de5 (_ : News h₀ L h (x0 :: x1 :: x2 :: x3 :: x4 :: (a, dictOf es n) :: r)) : ∃ x, x = es := ⟨es, rfl⟩
/-- an entry of a ledger, said once more at the head -/
theorem news_more {q : Addr × Obj} {led : List (Addr × Obj)} (hq : q ∈ led) (N : News h₀ L h led) : News h₀ L h (q :: led) := fun p hp => by
  rcases List.mem_cons.mp hp with rfl | hp
  · exact N _ hq
  · exact N _ hp
end
end Mine
end
section
open PySem PySem.Sre
set_option Elab.async false
set_option maxRecDepth 100000
set_option maxHeartbeats 4000000
set_option linter.unusedSimpArgs false
namespace Mine

def Steps (n : Nat) (m m' : M) : Prop := ∀ k, M.runFor (n + k) m = M.runFor k m'
theorem Steps.refl {m : M} : Steps 0 m m := fun k => by rw [Nat.zero_add]
theorem Steps.trans {a b : Nat} {m m' m'' : M} (h1 : Steps a m m') (h2 : Steps b m' m'') : Steps (a + b) m m'' := fun k => by rw [Nat.add_assoc, h1, h2]
theorem Steps.one {m : M} (h : m.outcome = none) : Steps 1 m m.step := fun k => by
  rw [Nat.add_comm, M.runFor, h]; rfl

def litYes (m : M) : M := { m with seen := m.seen.add (m.word 0), pc := m.pc + 2, pos := m.pos + 1 }
def litNo (m : M) : M := { m with seen := m.seen.add (m.word 0), answer := some false }
theorem lit_yes {m : M} (h : m.outcome = none) (ha : m.answer = none) (hp : m.pc < m.code.size) (ho : m.word 0 = 16) (hl : m.pos < m.lim) (hc : m.text.getD m.pos 0 = m.word 1) : Steps 1 m (litYes m) := by
  have e : m.step = litYes m := by
    have e2 : m.code.getD m.pc 0 = 16 := ho
    have e3 : m.code.getD (m.pc + 1) 0 = m.word 1 := rfl
    have e1 : ops[(16 : Nat)]? = some .LITERAL := rfl
    unfold M.step
    rw [h, ha]
    simp only [Option.isSome_none, Bool.false_eq_true, if_false, hp, if_true]
    unfold M.exec
    rw [ho, e1]
    simp only
    rw [if_neg (Nat.not_le.mpr hl)]
    unfold accepts itemWidth
    simp only [e2, e3, e1, hc, beq_self_eq_true]
    unfold litYes
    rw [ho]
  have := Steps.one h
  rwa [e] at this
theorem lit_no {m : M} (h : m.outcome = none) (ha : m.answer = none) (hp : m.pc < m.code.size) (ho : m.word 0 = 16) (hc : m.lim ≤ m.pos ∨ m.text.getD m.pos 0 ≠ m.word 1) : Steps 1 m (litNo m) := by
  have e : m.step = litNo m := by
    have e2 : m.code.getD m.pc 0 = 16 := ho
    have e3 : m.code.getD (m.pc + 1) 0 = m.word 1 := rfl
    have e1 : ops[(16 : Nat)]? = some .LITERAL := rfl
    unfold M.step
    rw [h, ha]
    simp only [Option.isSome_none, Bool.false_eq_true, if_false, hp, if_true]
    unfold M.exec
    rw [ho, e1]
    simp only
    by_cases hl : m.lim ≤ m.pos
    · rw [if_pos hl]; unfold litNo M.say; rw [ho]
    · rw [if_neg hl]
      have hc' : (m.text.getD m.pos 0 == m.word 1) = false := by
        rw [beq_eq_false_iff_ne]; exact hc.resolve_left hl
      unfold accepts
      simp only [e2, e3, e1, hc']
      unfold litNo M.say
      rw [ho]
  have := Steps.one h
  rwa [e] at this

def atNext (m : M) (yes : Bool) : M :=
  let m1 := { m with seen := (m.seen.add (m.word 0)).add (43 + 1) }
  if yes then { m1 with pc := m1.pc + 2 } else m1.say false
/-- the line's start -/
def bol (t : Array Nat) (p : Nat) : Bool := p == 0 || t.getD (p - 1) 0 == 10
theorem at_next {m : M} (h : m.outcome = none) (ha : m.answer = none) (hp : m.pc < m.code.size) (ho : m.word 0 = 6) (ho1 : m.word 1 = 1) (b : Bool) (hb : bol m.text m.pos = b) : Steps 1 m (atNext m b) := by
  have e : m.step = atNext m b := by
    have e1 : ops[(6 : Nat)]? = some .AT := rfl
    have e3 : m.code.getD (m.pc + 1) 0 = 1 := ho1
    unfold M.step
    rw [h, ha]
    simp only [Option.isSome_none, Bool.false_eq_true, if_false, hp, if_true]
    unfold M.exec
    rw [ho, e1]
    simp only [M.isAt, M.word, e3]
    unfold bol at hb
    rw [hb]
    unfold atNext
    rw [ho]
  have := Steps.one h
  rwa [e] at this

/-- a step that looks at no sign -/
theorem Steps.rfl1 {m m' : M} (h : m.outcome = none) (e : m.step = m') : Steps 1 m m' := e ▸ Steps.one h

def dotCode : Array Nat := #[14, 4, 0, 1, 1, 6, 1, 16, 46, 1]
/-- the search for a dot at a line's start, at start s -/
def dotAt (t : Array Nat) (n _p s : Nat) (first : Bool) (h : Nat) (sn : Seen) : M :=
  { code := dotCode, text := t, lim := n, start := s, lastStart := n, pc := 5, pos := s, handed := h, outermost := first, marks := #[], frames := [{ wait := .nextStart, pc := 5, pos := s, outermost := first }], weight := 1, seen := sn, mustAdvance := false }
theorem dot_hit (t : Array Nat) (n p s : Nat) (first : Bool) (h : Nat) (sn : Seen) (hs : s < n) (hb : bol t s = true) (hd : t.getD s 0 = 46) :
    ∃ m', Steps 5 (dotAt t n p s first h sn) m' ∧ m'.outcome = some .matched ∧ m'.start = s ∧ m'.handed = s + 1 := by
  have s1 := at_next (m := dotAt t n p s first h sn) rfl rfl (Nat.le_of_ble_eq_true rfl) rfl rfl true hb
  have s2 := lit_yes (m := atNext (dotAt t n p s first h sn) true) rfl rfl (Nat.le_of_ble_eq_true rfl) rfl hs hd
  have s3 := Steps.rfl1 (m := litYes (atNext (dotAt t n p s first h sn) true)) rfl rfl
  have s4 := Steps.rfl1 (m := (litYes (atNext (dotAt t n p s first h sn) true)).step) (by cases first <;> rfl) rfl
  have s5 := Steps.rfl1 (m := (litYes (atNext (dotAt t n p s first h sn) true)).step.step) (by cases first <;> rfl) rfl
  exact ⟨_, (((s1.trans s2).trans s3).trans s4).trans s5, by cases first <;> rfl, by cases first <;> rfl, by cases first <;> rfl⟩
theorem dot_next (t : Array Nat) (n p s : Nat) (first : Bool) (h : Nat) (sn : Seen) (hs : s < n) (hn : bol t s = false ∨ t.getD s 0 ≠ 46) :
    ∃ k sn', k ≤ 3 ∧ Steps k (dotAt t n p s first h sn) (dotAt t n p (s + 1) false (s + 1) sn') := by
  cases hb : bol t s with
  | false =>
    have s1 := at_next (m := dotAt t n p s first h sn) rfl rfl (Nat.le_of_ble_eq_true rfl) rfl rfl false hb
    have s2 := Steps.rfl1 (m := atNext (dotAt t n p s first h sn) false) rfl (m' := dotAt t n p (s + 1) false (s + 1) ((sn.add 6).add 44)) (by
      show (if s < n then _ else _) = _
      rw [if_pos hs]; rfl)
    exact ⟨2, _, by decide, s1.trans s2⟩
  | true =>
    have hd : t.getD s 0 ≠ 46 := hn.resolve_left (by rw [hb]; decide)
    have s1 := at_next (m := dotAt t n p s first h sn) rfl rfl (Nat.le_of_ble_eq_true rfl) rfl rfl true hb
    have s2 := lit_no (m := atNext (dotAt t n p s first h sn) true) rfl rfl (Nat.le_of_ble_eq_true rfl) rfl (.inr hd)
    have s3 := Steps.rfl1 (m := litNo (atNext (dotAt t n p s first h sn) true)) rfl (m' := dotAt t n p (s + 1) false (s + 1) (((sn.add 6).add 44).add 16)) (by
      show (if s < n then _ else _) = _
      rw [if_pos hs]; rfl)
    exact ⟨3, _, by decide, (s1.trans s2).trans s3⟩
theorem dot_end (t : Array Nat) (n p : Nat) (first : Bool) (h : Nat) (sn : Seen) :
    ∃ k m', k ≤ 4 ∧ Steps k (dotAt t n p n first h sn) m' ∧ m'.outcome = some .failed := by
  cases hb : bol t n with
  | false =>
    have s1 := at_next (m := dotAt t n p n first h sn) rfl rfl (Nat.le_of_ble_eq_true rfl) rfl rfl false hb
    have s2 := Steps.rfl1 (m := atNext (dotAt t n p n first h sn) false) rfl (m' := ({ (atNext (dotAt t n p n first h sn) false) with frames := [], weight := 0, pc := 5, pos := n, outermost := first } : M)) (by
      show (if n < n then _ else _) = _
      rw [if_neg (Nat.lt_irrefl n)]; rfl)
    have s3 := Steps.rfl1 (m := ({ (atNext (dotAt t n p n first h sn) false) with frames := [], weight := 0, pc := 5, pos := n, outermost := first } : M)) rfl rfl
    exact ⟨3, _, by decide, (s1.trans s2).trans s3, rfl⟩
  | true =>
    have s1 := at_next (m := dotAt t n p n first h sn) rfl rfl (Nat.le_of_ble_eq_true rfl) rfl rfl true hb
    have s2 := lit_no (m := atNext (dotAt t n p n first h sn) true) rfl rfl (Nat.le_of_ble_eq_true rfl) rfl (.inl (Nat.le_refl n))
    have s3 := Steps.rfl1 (m := litNo (atNext (dotAt t n p n first h sn) true)) rfl (m' := ({ (litNo (atNext (dotAt t n p n first h sn) true)) with frames := [], weight := 0, pc := 5, pos := n, outermost := first } : M)) (by
      show (if n < n then _ else _) = _
      rw [if_neg (Nat.lt_irrefl n)]; rfl)
    have s4 := Steps.rfl1 (m := ({ (litNo (atNext (dotAt t n p n first h sn) true)) with frames := [], weight := 0, pc := 5, pos := n, outermost := first } : M)) rfl rfl
    exact ⟨4, _, by decide, ((s1.trans s2).trans s3).trans s4, rfl⟩
/-- is there a dot at a line's start here? -/
def isDot (t : Array Nat) (s : Nat) : Bool := bol t s && t.getD s 0 == 46
theorem dot_run (t : Array Nat) (n p : Nat) : ∀ (d s : Nat), s + d = n → ∀ (first : Bool) (h : Nat) (sn : Seen),
    ∃ k m', k ≤ 3 * d + 5 ∧ Steps k (dotAt t n p s first h sn) m' ∧
      ((m'.outcome = some .failed ∧ ∀ j, s ≤ j → j < n → isDot t j = false) ∨
       (m'.outcome = some .matched ∧ ∃ e, s ≤ e ∧ e < n ∧ isDot t e = true ∧ (∀ j, s ≤ j → j < e → isDot t j = false) ∧ m'.start = e ∧ m'.handed = e + 1)) := by
  intro d
  induction d with
  | zero =>
    intro s hs first h sn
    obtain rfl : s = n := by omega
    obtain ⟨k, m', hk, st, o⟩ := dot_end t s p first h sn
    exact ⟨k, m', by omega, st, .inl ⟨o, fun j h1 h2 => absurd h1 (by omega)⟩⟩
  | succ d ih =>
    intro s hs first h sn
    cases hd : isDot t s with
    | true =>
      have hd' := hd
      unfold isDot at hd'
      rw [Bool.and_eq_true, beq_iff_eq] at hd'
      obtain ⟨m', st, o, a, b⟩ := dot_hit t n p s first h sn (by omega) hd'.1 hd'.2
      exact ⟨5, m', by omega, st, .inr ⟨o, s, Nat.le_refl s, by omega, hd, fun j h1 h2 => absurd h1 (by omega), a, b⟩⟩
    | false =>
      have hn : bol t s = false ∨ t.getD s 0 ≠ 46 := by
        unfold isDot at hd
        cases hb : bol t s with
        | false => exact .inl rfl
        | true => right; rw [hb, Bool.true_and, beq_eq_false_iff_ne] at hd; exact hd
      obtain ⟨k1, sn', hk1, st1⟩ := dot_next t n p s first h sn (by omega) hn
      obtain ⟨k2, m', hk2, st2, r⟩ := ih (s + 1) (by omega) false (s + 1) sn'
      refine ⟨k1 + k2, m', by omega, st1.trans st2, ?_⟩
      have step : ∀ j, s ≤ j → s + 1 ≤ j ∨ j = s := fun j h => by omega
      rcases r with ⟨o, r⟩ | ⟨o, e, h1, h2, h3, h4, h5, h6⟩
      · refine .inl ⟨o, fun j a b => ?_⟩
        rcases step j a with c | rfl
        · exact r j c b
        · exact hd
      · refine .inr ⟨o, e, by omega, h2, h3, fun j a b => ?_, h5, h6⟩
        rcases step j a with c | rfl
        · exact h4 j c b
        · exact hd
theorem dot_search (t : Array Nat) (s : Nat) (hs : s ≤ t.size) :
    ∃ k m', k ≤ 3 * t.size + 8 ∧ Steps k (forSearch dotCode t 0 s t.size false) m' ∧
      ((m'.outcome = some .failed ∧ ∀ j, s ≤ j → j < t.size → isDot t j = false) ∨
       (m'.outcome = some .matched ∧ ∃ e, s ≤ e ∧ e < t.size ∧ isDot t e = true ∧ (∀ j, s ≤ j → j < e → isDot t j = false) ∧ m'.start = e ∧ m'.handed = e + 1)) := by
  by_cases hl : s < t.size
  · have e : forSearch dotCode t 0 s t.size false = dotAt t t.size 0 s true s (({} : Seen).add 14) := by
      show (if (decide (s > t.size) || decide (t.size - s < 1)) = true then _ else _) = _
      rw [show decide (s > t.size) = false from decide_eq_false (by omega), show decide (t.size - s < 1) = false from decide_eq_false (by omega)]
      rfl
    rw [e]
    obtain ⟨k, m', hk, st, r⟩ := dot_run t t.size 0 (t.size - s) s (by omega) true s (({} : Seen).add 14)
    exact ⟨k, m', by omega, st, r⟩
  · obtain rfl : s = t.size := by omega
    have c : (decide (t.size > t.size) || decide (t.size - t.size < (header dotCode).1)) = true := by
      have : (header dotCode).1 = 1 := rfl
      rw [this]; simp
    refine ⟨1, _, by omega, Steps.rfl1 ?_ rfl, .inl ⟨?_, fun j a b => absurd a (by omega)⟩⟩
    · unfold forSearch; simp only; rw [if_pos c]; rfl
    · unfold forSearch; simp only; rw [if_pos c]; rfl
end Mine
end
section
open PySem PySem.Sre
set_option Elab.async false
set_option maxRecDepth 100000
set_option maxHeartbeats 4000000
set_option linter.unusedSimpArgs false
namespace Mine

def nlCode : Array Nat := #[14, 9, 4, 1, 2, 16, 10, 16, 13, 0, 7, 7, 16, 13, 16, 10, 15, 18, 5, 16, 10, 15, 13, 11, 16, 13, 5, 5, 0, 16, 10, 1, 15, 2, 0, 1]
/-- the attempt at start s -/
def nlAt (t : Array Nat) (n s : Nat) (sn : Seen) : M :=
  { code := nlCode, text := t, lim := n, start := s, lastStart := n, pc := 10, pos := s, handed := s, outermost := true, marks := #[], frames := [{ wait := .nextStart, pc := 10, pos := s, outermost := true }], weight := 1, seen := sn, mustAdvance := false }
def Hits (k : Nat) (m : M) (b e : Nat) : Prop := ∃ m', Steps k m m' ∧ m'.outcome = some Outcome.matched ∧ m'.start = b ∧ m'.handed = e
theorem Hits.step {m : M} {k b e : Nat} (h : m.outcome = none) (r : Hits k m.step b e) : Hits (k + 1) m b e := let ⟨m', s, r⟩ := r; ⟨m', Nat.add_comm 1 k ▸ (Steps.one h).trans s, r⟩
theorem Hits.yes {m : M} {k b e : Nat} (h : m.outcome = none) (ha : m.answer = none) (hp : m.pc < m.code.size) (ho : m.word 0 = 16) (hl : m.pos < m.lim) (hc : m.text.getD m.pos 0 = m.word 1) (r : Hits k (litYes m) b e) : Hits (k + 1) m b e := let ⟨m', s, r⟩ := r; ⟨m', Nat.add_comm 1 k ▸ (lit_yes h ha hp ho hl hc).trans s, r⟩
theorem Hits.no {m : M} {k b e : Nat} (h : m.outcome = none) (ha : m.answer = none) (hp : m.pc < m.code.size) (ho : m.word 0 = 16) (hc : m.lim ≤ m.pos ∨ m.text.getD m.pos 0 ≠ m.word 1) (r : Hits k (litNo m) b e) : Hits (k + 1) m b e := let ⟨m', s, r⟩ := r; ⟨m', Nat.add_comm 1 k ▸ (lit_no h ha hp ho hc).trans s, r⟩
theorem Hits.done {m : M} {b e : Nat} (h : m.outcome = some .matched) (hb : m.start = b) (he : m.handed = e) : Hits 0 m b e := ⟨m, Steps.refl, h, hb, he⟩

theorem Hits.to {m m' : M} {k b e : Nat} (h : m.outcome = none) (r' : m.step = m') (r : Hits k m' b e) : Hits (k + 1) m b e := Hits.step h (r' ▸ r)
theorem Hits.as {m m' : M} {k b e : Nat} (r' : m = m') (r : Hits k m' b e) : Hits k m b e := r' ▸ r
def fS (s : Nat) : Sre.Frame := { wait := .nextStart, pc := 10, pos := s, outermost := true }
def fB (a s : Nat) : Sre.Frame := { wait := .nextBranch, pc := a, pos := s, outermost := true }
def fL (s : Nat) : Sre.Frame := { wait := .lookNot, pc := 26, pos := s + 1, outermost := true }
def stX (t : Array Nat) (n s : Nat) (sn : Seen) (pc pos hd : Nat) (om : Bool) (fr : List Sre.Frame) (w : Nat) (an : Option Bool) : M :=
  { code := nlCode, text := t, lim := n, start := s, lastStart := n, pc := pc, pos := pos, handed := hd, outermost := om, marks := #[], frames := fr, weight := w, seen := sn, answer := an, mustAdvance := false }
section
variable (t : Array Nat) (n s : Nat) (sn : Seen)
theorem nl_tail (a p h : Nat) : Hits 4 (stX t n s sn 35 p h true [fB a s, fS s] 2 none) s p := by
  refine Hits.to (m' := stX t n s (sn.add 1) 35 p p true [fB a s, fS s] 2 (some true)) rfl rfl ?_
  refine Hits.to (m' := stX t n s (sn.add 1) a s p true [fS s] 1 (some true)) rfl rfl ?_
  refine Hits.to (m' := stX t n s (sn.add 1) 10 s p true [] 0 (some true)) rfl rfl ?_
  refine Hits.to (m' := { stX t n s (sn.add 1) 10 s p true [] 0 (some true) with outcome := some Outcome.matched }) rfl rfl ?_
  exact Hits.done rfl rfl rfl
theorem nl_branch : (nlAt t n s sn).step = stX t n s (sn.add 7) 12 s s true [fB 11 s, fS s] 2 none := rfl
theorem lit_of {pc pos hd : Nat} {fr : List Sre.Frame} {w : Nat} {om : Bool} {k b e : Nat} (hp : pc < 36) (ho : nlCode.getD (pc + 0) 0 = 16) (hl : pos < n) (hc : t.getD pos 0 = nlCode.getD (pc + 1) 0) (r : Hits k (stX t n s (sn.add 16) (pc + 2) (pos + 1) hd om fr w none) b e) :
    Hits (k + 1) (stX t n s sn pc pos hd om fr w none) b e := by
  refine Hits.yes rfl rfl hp ho hl hc (Hits.as ?_ r)
  show _ = stX t n s (sn.add 16) (pc + 2) (pos + 1) hd om fr w none
  rw [← ho]; rfl
theorem lit_off {pc pos hd : Nat} {fr : List Sre.Frame} {w : Nat} {om : Bool} {k b e : Nat} (hp : pc < 36) (ho : nlCode.getD (pc + 0) 0 = 16) (hc : n ≤ pos ∨ t.getD pos 0 ≠ nlCode.getD (pc + 1) 0) (r : Hits k (stX t n s (sn.add 16) pc pos hd om fr w (some false)) b e) :
    Hits (k + 1) (stX t n s sn pc pos hd om fr w none) b e := by
  refine Hits.no rfl rfl hp ho hc (Hits.as ?_ r)
  show _ = stX t n s (sn.add 16) pc pos hd om fr w (some false)
  rw [← ho]; rfl
theorem nl_two (h1 : s + 1 < n) (c1 : t.getD s 0 = 13) (c2 : t.getD (s + 1) 0 = 10) : Hits 8 (nlAt t n s sn) s (s + 2) := by
  refine Hits.to rfl (nl_branch t n s sn) ?_
  refine lit_of t n s _ (by decide) rfl (Nat.lt_of_succ_lt h1) c1 ?_
  refine lit_of t n s _ (by decide) rfl h1 c2 ?_
  exact Hits.to (m' := stX t n s ((((sn.add 7).add 16).add 16).add 15) 35 (s + 2) s true [fB 11 s, fS s] 2 none) rfl rfl (nl_tail t n s _ _ _ _)
theorem nl_one (h1 : s < n) (c1 : t.getD s 0 = 10) : Hits 9 (nlAt t n s sn) s (s + 1) := by
  refine Hits.to rfl (nl_branch t n s sn) ?_
  refine lit_off t n s _ (by decide) rfl (.inr (by rw [c1]; decide)) ?_
  refine Hits.to (m' := stX t n s ((sn.add 7).add 16) 19 s s true [fB 18 s, fS s] 2 none) rfl rfl ?_
  refine lit_of t n s _ (by decide) rfl h1 c1 ?_
  exact Hits.to (m' := stX t n s ((((sn.add 7).add 16).add 16).add 15) 35 (s + 1) s true [fB 18 s, fS s] 2 none) rfl rfl (nl_tail t n s _ _ _ _)
theorem nl_cr (h1 : s < n) (c1 : t.getD s 0 = 13) (c2 : n ≤ s + 1 ∨ t.getD (s + 1) 0 ≠ 10) : Hits 15 (nlAt t n s sn) s (s + 1) := by
  refine Hits.to rfl (nl_branch t n s sn) ?_
  refine lit_of t n s _ (by decide) rfl h1 c1 ?_
  refine lit_off t n s _ (by decide) rfl c2 ?_
  refine Hits.to (m' := stX t n s (((sn.add 7).add 16).add 16) 19 s s true [fB 18 s, fS s] 2 none) rfl rfl ?_
  refine lit_off t n s _ (by decide) rfl (.inr (by rw [c1]; decide)) ?_
  refine Hits.to (m' := stX t n s ((((sn.add 7).add 16).add 16).add 16) 24 s s true [fB 23 s, fS s] 2 none) rfl rfl ?_
  refine lit_of t n s _ (by decide) rfl h1 c1 ?_
  refine Hits.to (m' := stX t n s ((((((sn.add 7).add 16).add 16).add 16).add 16).add 5) 29 (s + 1) (s + 1) false [fL s, fB 23 s, fS s] 3 none) rfl rfl ?_
  refine lit_off t n s _ (by decide) rfl c2 ?_
  refine Hits.to (m' := stX t n s (((((((sn.add 7).add 16).add 16).add 16).add 16).add 5).add 16) 32 (s + 1) (s + 1) true [fB 23 s, fS s] 2 none) rfl rfl ?_
  exact Hits.to (m' := stX t n s ((((((((sn.add 7).add 16).add 16).add 16).add 16).add 5).add 16).add 15) 35 (s + 1) (s + 1) true [fB 23 s, fS s] 2 none) rfl rfl (nl_tail t n s _ _ _ _)
end

def isNl (t : Array Nat) (s : Nat) : Bool := t.getD s 0 == 10 || t.getD s 0 == 13
/-- how many signs the line's end at s has -/
def nlLen (t : Array Nat) (s : Nat) : Nat := if t.getD s 0 = 13 ∧ s + 1 < t.size ∧ t.getD (s + 1) 0 = 10 then 2 else 1
theorem in_set (c : Nat) (sn : Seen) : ∃ sn', inSet nlCode c nlCode.size 5 true sn = .ok (c == 10 || c == 13, sn') := by
  have e : inSet nlCode c nlCode.size 5 true sn = (if (c == 10) = true then .ok (true, sn.add 16) else if (c == 13) = true then .ok (true, (sn.add 16).add 16) else .ok (false, ((sn.add 16).add 16).add 0)) := rfl
  rw [e]
  cases h1 : c == 10 <;> cases h2 : c == 13 <;> simp
theorem adm (m : M) (hc : m.code = nlCode) : ∀ (fuel s : Nat) (sn : Seen), m.lim < s + fuel →
    (∃ sn', M.admitted m fuel s sn = .ok (none, sn') ∧ ∀ j, s ≤ j → j < m.lim → isNl m.text j = false) ∨
    (∃ e sn', M.admitted m fuel s sn = .ok (some e, sn') ∧ s ≤ e ∧ e < m.lim ∧ isNl m.text e = true ∧ ∀ j, s ≤ j → j < e → isNl m.text j = false) := by
  intro fuel
  induction fuel with
  | zero => intro s sn h; exact .inl ⟨sn, rfl, fun j a b => absurd a (by omega)⟩
  | succ fuel ih =>
    intro s sn h
    unfold M.admitted
    by_cases hs : s ≥ m.lim
    · rw [if_pos hs]; exact .inl ⟨sn, rfl, fun j a b => absurd a (by omega)⟩
    · rw [if_neg hs, hc]
      obtain ⟨sn1, e1⟩ := in_set (m.text.getD s 0) sn
      rw [e1]
      cases hn : isNl m.text s with
      | true =>
        have hn' : (m.text.getD s 0 == 10 || m.text.getD s 0 == 13) = true := hn
        rw [hn']
        exact .inr ⟨s, sn1, rfl, Nat.le_refl s, by omega, hn, fun j a b => absurd a (by omega)⟩
      | false =>
        have hn' : (m.text.getD s 0 == 10 || m.text.getD s 0 == 13) = false := hn
        rw [hn']
        have step : ∀ j, s ≤ j → s + 1 ≤ j ∨ j = s := fun j h => by omega
        rcases ih (s + 1) sn1 (by omega) with ⟨sn', e, r⟩ | ⟨e, sn', e2, a1, a2, a3, a4⟩
        · refine .inl ⟨sn', e, fun j a b => ?_⟩
          rcases step j a with c | rfl
          · exact r j c b
          · exact hn
        · refine .inr ⟨e, sn', e2, by omega, a2, a3, fun j a b => ?_⟩
          rcases step j a with c | rfl
          · exact a4 j c b
          · exact hn

theorem nl_search (t : Array Nat) (s : Nat) (hs : s ≤ t.size) :
    ∃ k m', k ≤ 16 ∧ Steps k (forSearch nlCode t 0 s t.size false) m' ∧
      ((m'.outcome = some Outcome.failed ∧ ∀ j, s ≤ j → j < t.size → isNl t j = false) ∨
       (m'.outcome = some Outcome.matched ∧ ∃ e, s ≤ e ∧ e < t.size ∧ isNl t e = true ∧ (∀ j, s ≤ j → j < e → isNl t j = false) ∧ m'.start = e ∧ m'.handed = e + nlLen t e)) := by
  by_cases hl : s < t.size
  · have c : ¬(decide (s > t.size) || decide (t.size - s < (header nlCode).1)) = true := by
      have : (header nlCode).1 = 1 := rfl
      rw [this]; simp; omega
    have e0 : ∃ m : M, forSearch nlCode t 0 s t.size false = m.attemptFrom s true ∧ m.code = nlCode ∧ m.lim = t.size ∧ m.text = t ∧ m.hasFirstSet = true ∧ (∀ e sn', M.attemptAt { m with mustAdvance := false, seen := sn' } e true = nlAt t t.size e sn') ∧ m.outcome = none ∧ m.frames = [] := by
      unfold forSearch; simp only; rw [if_neg c]
      exact ⟨_, rfl, rfl, rfl, rfl, rfl, fun e sn' => rfl, rfl, rfl⟩
    obtain ⟨m, e0, m1, m2, m3, m4, m5, m6, m7⟩ := e0
    rw [e0]
    unfold M.attemptFrom
    rw [m4]
    simp only [Bool.not_true, Bool.false_eq_true, if_false]
    rcases adm m m1 (m.lim + 1 - s) s m.seen (by rw [m2]; omega) with ⟨sn', e, r⟩ | ⟨e, sn', e2, a1, a2, a3, a4⟩
    · rw [e]
      rw [m2, m3] at r
      refine ⟨1, _, by omega, Steps.rfl1 m6 rfl, .inl ⟨?_, r⟩⟩
      unfold M.step M.say
      simp [m6, m7]
    · rw [e2]
      rw [m2, m3] at *
      simp only [m5]
      have fin : ∀ {k b}, k ≤ 16 → nlLen t e = b → Hits k (nlAt t t.size e sn') e (e + b) → (∃ k m', k ≤ 16 ∧ Steps k (nlAt t t.size e sn') m' ∧ ((m'.outcome = some Outcome.failed ∧ ∀ j, s ≤ j → j < t.size → isNl t j = false) ∨ (m'.outcome = some Outcome.matched ∧ ∃ e, s ≤ e ∧ e < t.size ∧ isNl t e = true ∧ (∀ j, s ≤ j → j < e → isNl t j = false) ∧ m'.start = e ∧ m'.handed = e + nlLen t e))) := fun {k b} hk hb (h : Hits k (nlAt t t.size e sn') e (e + b)) => let ⟨m', st, o, h1, h2⟩ := h
        ⟨k, m', hk, st, .inr ⟨o, e, a1, a2, a3, a4, h1, by rw [hb]; exact h2⟩⟩
      by_cases h10 : t.getD e 0 = 10
      · exact fin (b := 1) (by decide) (by unfold nlLen; rw [if_neg (by rw [h10]; intro h; exact absurd h.1 (by decide))]) (nl_one t _ e sn' a2 h10)
      · have h13 : t.getD e 0 = 13 := by
          unfold isNl at a3
          rw [Bool.or_eq_true, beq_iff_eq, beq_iff_eq] at a3
          exact a3.resolve_left h10
        by_cases h2 : e + 1 < t.size ∧ t.getD (e + 1) 0 = 10
        · exact fin (b := 2) (by decide) (by unfold nlLen; rw [if_pos ⟨h13, h2⟩]) (nl_two t _ e sn' h2.1 h13 h2.2)
        · exact fin (b := 1) (by decide) (by unfold nlLen; rw [if_neg (fun h => h2 h.2)]) (nl_cr t _ e sn' a2 h13 (by
            by_cases hh : e + 1 < t.size
            · exact .inr fun h => h2 ⟨hh, h⟩
            · exact .inl (by omega)))
  · obtain rfl : s = t.size := by omega
    have c : (decide (t.size > t.size) || decide (t.size - t.size < (header nlCode).1)) = true := by
      have : (header nlCode).1 = 1 := rfl
      rw [this]; simp
    refine ⟨1, _, by omega, Steps.rfl1 ?_ rfl, .inl ⟨?_, fun j a b => absurd a (by omega)⟩⟩
    · unfold forSearch; simp only; rw [if_pos c]; rfl
    · unfold forSearch; simp only; rw [if_pos c]; rfl
end Mine
end
section
open PySem PySem.W PyProof.Rows PySem.Calls PySem.Spec PySem.Builtin PySem.Builtin.Re
set_option Elab.async false
set_option maxRecDepth 100000
set_option maxHeartbeats 4000000
set_option linter.unusedSimpArgs false
namespace Mine
theorem run_fix {m : Sre.M} (h : m.outcome.isSome = true) : ∀ k, Sre.M.runFor k m = m
  | 0 => rfl
  | k + 1 => by rw [Sre.M.runFor, if_pos h]
theorem run_add (a : Nat) : ∀ (b : Nat) (m : Sre.M), Sre.M.runFor (b + a) m = Sre.M.runFor a (Sre.M.runFor b m)
  | 0, m => by rw [Nat.zero_add]; rfl
  | b + 1, m => by
    rw [Nat.add_right_comm, Sre.M.runFor, Sre.M.runFor]
    cases h : m.outcome.isSome with
    | true => simp only [if_true]; exact (run_fix h a).symm
    | false => simp only [Bool.false_eq_true, if_false]; exact run_add a b _
section
variable {M : Model} {A : Around} {E : Value → Shared → Prop} {s : Shared}
theorem wp_drive {m' : Sre.M} {Q : Sre.M → Shared → Prop} (ho : m'.outcome.isSome = true) (h : Q m' s) : ∀ (turns k : Nat) (m : Sre.M), Steps k m m' → k ≤ 4 * turns → 0 < turns → wpAny M A (reDrive turns m) Q E s
  | 0, _, _, _, _, h0 => absurd h0 (by decide)
  | turns + 1, k, m, st, hk, _ => by
    unfold reDrive
    simp only
    have fin : ∀ j, Sre.M.runFor (k + j) m = m' := fun j => by rw [st j, run_fix ho]
    by_cases hl : k ≤ 4
    · have e : Sre.M.runFor reTurnSteps m = m' := by
        have := fin (4 - k)
        rwa [show k + (4 - k) = 4 from by omega] at this
      rw [e, if_pos ho]
      exact wpAny_pure h
    · cases h4 : (Sre.M.runFor reTurnSteps m).outcome.isSome with
      | true =>
        have e : Sre.M.runFor reTurnSteps m = m' := by
          have := fin 0
          rw [show k + 0 = 4 + (k - 4) from by omega, run_add] at this
          rw [← this]; exact (run_fix h4 _).symm
        simp only [if_true]
        rw [e]; exact wpAny_pure h
      | false =>
        simp only [Bool.false_eq_true, if_false]
        refine wpAny_bind (wpAny_rule ?_)
        refine wp_drive ho h turns (k - 4) _ (fun j => ?_) (by omega) (by omega)
        have := st j
        rw [show k + j = 4 + ((k - 4) + j) from by omega, run_add] at this
        exact this
theorem wp_seen (m : Sre.M) (f : Nat → PUnit → Sem (ForInStep PUnit)) (hf : ∀ i u (Q : ForInStep PUnit → Shared → Prop) s, Q (.yield ⟨⟩) s → wpAny M A (f i u) Q E s) : ∀ (l : List Nat) (s : Shared) (Q : PUnit → Shared → Prop), Q ⟨⟩ s → wpAny M A (forIn l ⟨⟩ f) Q E s
  | [], s, Q, h => by rw [List.forIn_nil]; exact wpAny_pure h
  | a :: r, s, Q, h => by
    rw [List.forIn_cons]
    exact wpAny_bind (hf a _ _ s (wp_seen m f hf r s Q h))
theorem wp_toEnd {k : Nat} {m m' : Sre.M} {Q : Option Sre.M → Shared → Prop} (st : Steps k m m') (hk : k ≤ 1000000000) (r : Option Sre.M)
    (ho : (m'.outcome = some .matched ∧ r = some m') ∨ (m'.outcome = some .failed ∧ r = none)) (h : Q r s) : wpAny M A (reRunToEnd m) Q E s := by
  unfold reRunToEnd
  have hs : m'.outcome.isSome = true := by rcases ho with ⟨e, _⟩ | ⟨e, _⟩ <;> rw [e] <;> rfl
  have h64 : (1000000000 : Nat) ≤ 4 * 2 ^ 64 := by decide
  generalize hT : (2 : Nat) ^ 64 = T at h64 ⊢
  refine wpAny_bind (wp_drive hs ?_ T k m st (by omega) (by omega))
  refine wpAny_bind (wp_seen m' _ (fun i u Q' s' h' => ?_) _ s _ ?_)
  · split
    · exact wpAny_bind (wpAny_rule (wpAny_pure h'))
    · exact wpAny_pure h'
  · rcases ho with ⟨e, rfl⟩ | ⟨e, rfl⟩ <;> rw [e] <;> exact wpAny_pure h
end

/-- what the search from s finds -/
def Finds (C t : Array Nat) (s : Nat) (r : Option (Nat × Nat)) : Prop := ∃ k m', k ≤ 1000000000 ∧ Steps k (Sre.forSearch C t 0 s t.size false) m' ∧ match r with
  | none => m'.outcome = some .failed
  | some (b, e) => m'.outcome = some .matched ∧ m'.start = b ∧ m'.handed = e
/-- the substitution from s on -/
inductive SubFrom (C t rep : Array Nat) : Nat → Array Nat → Prop
  | stop {s : Nat} : s ≤ t.size → Finds C t s none → SubFrom C t rep s (t.extract s t.size)
  | hit {s b e : Nat} {out : Array Nat} : Finds C t s (some (b, e)) → s ≤ b → b < e → e ≤ t.size → SubFrom C t rep e out → SubFrom C t rep s (t.extract s b ++ rep ++ out)
def cat (ys : List Str) : Array Nat := (ys.flatMap fun y => y.cps.toList).toArray
theorem cat_snoc (ys : List Str) (y : Str) : cat (ys ++ [y]) = cat ys ++ y.cps := by
  unfold cat; simp
theorem join_cat (e : Str) (he : e.cps = #[]) : ∀ ys : List Str, Txt.join e ys = ⟨cat ys⟩ := by
  intro ys
  show Builtin.Str.glued e ys = _
  rw [StrLaws.glued_eq_join]
  have ee : e = Str.empty := Str.ext' (by rw [he]; rfl)
  subst ee
  induction ys with
  | nil => rfl
  | cons x r ih =>
    have h1 : Str.join Str.empty (x :: r) = x ++ Str.join Str.empty r := by
      cases r with
      | nil => exact (Str.append_empty x).symm
      | cons y r =>
        show x ++ Str.empty ++ Str.join Str.empty (y :: r) = _
        rw [Str.append_empty]
    rw [h1, ih]
    refine Str.ext' ?_
    show x.cps ++ cat r = cat (x :: r)
    unfold cat; simp

structure Pat (h : Heap) (a : Addr) (C : Array Nat) : Prop where
  is : ∃ o vs c o2 items n, h.get? a = some o ∧ o.data = .fields vs ∧ vs.getD 5 .none = .ref c ∧ h.get? c = some o2 ∧ o2.data = .seq items n ∧ (items.map reRawOf).map (·.toNat) = C ∧ reRawNat (vs.getD 2 .none) = 0 ∧ reRawNat (vs.getD 6 .none) = 0 ∧ o.cls = .type "re.Pattern" ∧ o.dict = none
section
variable {M : Model} {A : Around} {E : Value → Shared → Prop} {s : Shared}
def targetOf (a : Addr) (C : Array Nat) (x : Str) (t : Tok) : ReTarget := { pattern := .ref a, string := .str x t, code := C, text := x.cps, kind := 0, groups := 0, pos := 0, lim := x.cps.size }
theorem wp_target {a : Addr} {C : Array Nat} {x : Str} {t : Tok} {Q : ReTarget → Shared → Prop} (P : Pat s.heap a C) (h : Q (targetOf a C x t) s) : wpAny M A (reWholeTarget (.ref a) (.str x t)) Q E s := by
  obtain ⟨o, vs, c, o2, items, n, h1, h2, h3, h4, h5, h6, h7, h8, _, _⟩ := P.is
  unfold reWholeTarget
  refine wpAny_bind (wpAny_fieldsOf h1 h2 ?_)
  show wpAny M A (if (reRawNat (vs.getD 6 .none) == 0 && (0 : Nat) == 1) = true then _ else _) _ _ _
  rw [h8]
  show wpAny M A (reRawItems (vs.getD 5 .none) >>= _) _ _ _
  rw [h3]
  refine wpAny_bind ?_
  show wpAny M A (seqItems? (.ref c) >>= _) _ _ _
  refine wpAny_bind (wpAny_seqItems h4 h5 ?_)
  refine wpAny_pure ?_
  refine wpAny_pure ?_
  show Q { pattern := .ref a, string := .str x t, code := (items.map reRawOf).map (·.toNat), text := x.cps, kind := 0, groups := reRawNat (vs.getD 2 .none), pos := 0, lim := x.cps.size } s
  rw [h6, h7]
  exact h
end

theorem plain_sub_loop : plainId "re.Pattern.sub.loop" = true := by decide +kernel
theorem entry_sub_loop : entryFor table "re.Pattern.sub.loop" = some Builtin.«re.Pattern.sub.loop» := entryFor_of_fast (by kernel_rfl)
section
variable {M : Model} {prog : Program} {w : World} {A : Around} {E : Value → Shared → Prop} {s : Shared} {h₀ : Heap} {L : Addr} {m : Str → Option Value} {news : List (Addr × Obj)}
theorem wp_push {P : Addr} {its : List Value} {k : Nat} {v : Value} {Q : Unit → Shared → Prop} (F : Fr h₀ L s.heap m) (N : News h₀ L s.heap ((P, listOf its.toArray k) :: news)) (hn : ∀ p ∈ news, p.1 ≠ P) (hz : its.length ≤ sizeLine)
    (h : ∀ h', Fr h₀ L h' m → News h₀ L h' ((P, listOf (its ++ [v]).toArray (k + 1)) :: news) → Q () { s with heap := h' }) : wpAny M A (updateSeq P (·.push v)) Q E s := by
  have z := N (P, W.listOf its.toArray k) (List.mem_cons_self ..)
  refine wpAny_updateSeq z.1 rfl (h _ (F.change (Heap.SameBut.update ..) z.2.1 z.2.2) (news_set (pre := []) N (by intro p hp; cases hp) hn (Heap.SameBut.update ..) ?_)) ?_ ?_
  · rw [Heap.get?_update_self _ z.1 (by rw [mapSeq_push]; rfl), mapSeq_push]
    simp
  · simpa using hz
  · simp; omega

theorem extract_len (x : Array Nat) (a b n : Nat) (h : x.size ≤ n) : ((⟨x.extract a b⟩ : Str)).length ≤ n := by
  show (x.extract a b).size ≤ n
  rw [Array.size_extract]; omega
theorem sub_tail {P : Addr} {x : Str} {its : List Value} {ys : List Str} {k : Nat} {Q : Fin → Shared → Prop} (hsz : x.cps.size ≤ 100000) (F : Fr h₀ L s.heap m) (N : News h₀ L s.heap ((P, listOf its.toArray k) :: news)) (hys : StrsAre its ys) (hl : ys.length ≤ 2 * x.cps.size + 1) (hsum : (ys.map (·.length)).sum ≤ 4 * x.cps.size)
    (h : ∀ tk t', Q (.done (.ret (.str ⟨cat ys⟩ t'))) { s with toks := tk }) :
    wpAny (model prog w) A (do
      let joiner ← reSlice x.cps 0 0 0
      let __do_lift ← seqItems? (Value.ref P)
      if (__do_lift.getD #[]).isEmpty = true then do
          let text ← pure joiner
          ret text
      else do
          let text ← call (Value.builtin "str.join") [joiner, Value.ref P]
          ret text) Q E s := by
  have z := N (P, W.listOf its.toArray k) (List.mem_cons_self ..)
  have e0 : x.cps.extract 0 0 = #[] := by simp
  show wpAny _ _ (mkStr ⟨x.cps.extract 0 0⟩ >>= _) _ _ _
  refine wpAny_bind (wpAny_mkStr ?_ (Nat.le_trans (extract_len _ _ _ _ hsz) (by decide)))
  refine wpAny_bind (wpAny_seqItems z.1 rfl ?_)
  show wpAny _ _ (if its.toArray.isEmpty = true then _ else _) _ _ _
  cases hys with
  | nil =>
    refine wpAny_bind (wpAny_pure (wpAny_pure ?_))
    have := h (s.toks + 1) s.toks
    rw [show cat [] = x.cps.extract 0 0 from by rw [e0]; rfl] at this
    exact this
  | cons y' t' hr =>
    rename_i vs xs
    have e1 : (Value.str y' t' :: vs).toArray.isEmpty = false := by simp
    rw [e1]
    simp only [Bool.false_eq_true, if_false]
    refine wpAny_bind (join_listW (ys := y' :: xs) ⟨_, z.1, rfl, _, rfl⟩ (.cons _ _ hr) (by show (x.cps.extract 0 0).size ≤ 16; rw [e0]; decide) (by omega) ?_)
    intro t9 k9
    refine wpAny_pure ?_
    rw [join_cat (⟨x.cps.extract 0 0⟩ : Str) e0]
    exact h k9 t9

theorem sub_loop {a P : Addr} {C : Array Nat} {x rep : Str} {t u : Tok} {R : Result → Shared → Prop} (hPat : ∀ h', Fr h₀ L h' m → Pat h' a C) (hsz : x.cps.size ≤ 100000) (hrep : rep.length ≤ 2) (hn : ∀ p ∈ news, p.1 ≠ P) :
    ∀ (st : Nat) (out : Array Nat), SubFrom C x.cps rep.cps st out → ∀ (its : List Value) (ys : List Str) (k : Nat) (n : Int) (s : Shared), Fr h₀ L s.heap m → News h₀ L s.heap ((P, listOf its.toArray k) :: news) → StrsAre its ys → ys.length ≤ 2 * st → (ys.map (·.length)).sum ≤ 3 * st →
      (∀ h' tk t', Fr h₀ L h' m → News h₀ L h' news → R (.ok (.ret (.str ⟨cat ys ++ out⟩ t'))) { s with heap := h', toks := tk }) →
      codeAny (model prog w) A (.builtin "re.Pattern.sub.loop" ⟨[.ref a, .str x t, .str rep u, rawInt 0, rawInt 0, rawInt n, rawInt (st : Nat), rawInt (st : Nat), .bool false, .ref P, .bool false], []⟩) R s := by
  intro st out hS
  induction hS with
  | @stop st hst hf =>
    intro its ys k n s F N hys hl hsum hR
    refine codeAny_builtin entry_sub_loop ?_
    rw [Around.under_plainId plain_sub_loop]
    show wpAny _ _ (reWholeTarget (.ref a) (.str x t) >>= _) _ _ _
    refine wpAny_bind (wp_target (hPat _ F) ?_)
    show wpAny _ _ (reRunToEnd (Sre.forSearch C x.cps 0 st x.cps.size false) >>= _) _ _ _
    obtain ⟨kk, m', hk, hst', ho⟩ := hf
    refine wpAny_bind (wp_toEnd hst' hk none (.inr ⟨ho, rfl⟩) ?_)
    show wpAny _ _ (if ((st : Nat) : Int).toNat < x.cps.size then _ else _) _ _ _
    rw [show ((st : Nat) : Int).toNat = st from rfl]
    by_cases hlt : st < x.cps.size
    · rw [if_pos hlt]
      show wpAny _ _ (mkStr ⟨x.cps.extract st x.cps.size⟩ >>= _) _ _ _
      refine wpAny_bind (wpAny_mkStr ?_ (Nat.le_trans (extract_len _ _ _ _ hsz) (by decide)))
      have hll := StrsAre.length hys
      refine wpAny_bind (wp_push F N hn (Nat.le_trans (show its.length ≤ 200001 by omega) (by decide)) fun h' F' N' => ?_)
      refine sub_tail (x := x) (ys := ys ++ [⟨x.cps.extract st x.cps.size⟩]) hsz F' N' (strsAre_append hys (.cons _ _ .nil)) (by simp; omega) (by
        have : (x.cps.extract st x.cps.size).size ≤ x.cps.size - st := by rw [Array.size_extract]; omega
        simp only [List.map_append, List.map_cons, List.map_nil, List.sum_append, List.sum_cons, List.sum_nil]
        show _ + ((x.cps.extract st x.cps.size).size + 0) ≤ _
        omega) ?_
      intro tk t'
      have := hR h' tk t' F' N'.tail'
      rw [cat_snoc]
      exact this
    · rw [if_neg hlt]
      refine sub_tail (x := x) (ys := ys) hsz F N hys (by omega) (by omega) ?_
      intro tk t'
      have := hR s.heap tk t' F N.tail'
      rw [show x.cps.extract st x.cps.size = #[] from by simp; omega, Array.append_empty] at this
      exact this
  | @hit st b e out hf h1 h2 h3 hs ih =>
    intro its ys k n s F N hys hl hsum hR
    refine codeAny_builtin entry_sub_loop ?_
    rw [Around.under_plainId plain_sub_loop]
    show wpAny _ _ (reWholeTarget (.ref a) (.str x t) >>= _) _ _ _
    refine wpAny_bind (wp_target (hPat _ F) ?_)
    show wpAny _ _ (reRunToEnd (Sre.forSearch C x.cps 0 st x.cps.size false) >>= _) _ _ _
    obtain ⟨kk, m', hk, hst', ho, hb, he⟩ := hf
    refine wpAny_bind (wp_toEnd hst' hk (some m') (.inl ⟨ho, rfl⟩) ?_)
    dsimp only
    rw [hb, he]
    have hll := StrsAre.length hys
    show wpAny _ _ (if ((st : Nat) : Int).toNat < b then _ else _) _ _ _
    rw [show ((st : Nat) : Int).toNat = st from rfl]
    by_cases hlt : st < b
    · rw [if_pos hlt]
      show wpAny _ _ (mkStr ⟨x.cps.extract st b⟩ >>= _) _ _ _
      refine wpAny_bind (wpAny_mkStr ?_ (Nat.le_trans (extract_len _ _ _ _ hsz) (by decide)))
      refine wpAny_bind (wp_push F N hn (Nat.le_trans (show its.length ≤ 200001 by omega) (by decide)) fun h' F' N' => ?_)
      show wpAny _ _ (pure (Value.str rep u) >>= _) _ _ _
      refine wpAny_bind (wpAny_pure ?_)
      show wpAny _ _ (if (Value.str rep u != Value.none) = true then _ else _) _ _ _
      rw [show (Value.str rep u != Value.none) = true from rfl, if_pos rfl]
      refine wpAny_bind (wp_push F' N' hn (Nat.le_trans (show (its ++ [Value.str ⟨x.cps.extract st b⟩ s.toks]).length ≤ 200001 by simp; omega) (by decide)) fun h2 F2 N2 => ?_)
      rw [show (e == b) = false from by rw [beq_eq_false_iff_ne]; omega]
      refine wpAny_pure ⟨plainId_quiet plain_sub_loop _, ?_⟩
      refine ih (its ++ [Value.str ⟨x.cps.extract st b⟩ s.toks] ++ [.str rep u]) ((ys ++ [⟨x.cps.extract st b⟩]) ++ [rep]) _ _ _ F2 N2 (strsAre_append (strsAre_append hys (.cons _ _ .nil)) (.cons _ _ .nil)) (by simp; omega) (by
        have : (x.cps.extract st b).size ≤ b - st := by rw [Array.size_extract]; omega
        simp only [List.map_append, List.map_cons, List.map_nil, List.sum_append, List.sum_cons, List.sum_nil]
        show _ + ((x.cps.extract st b).size + 0) + (rep.length + 0) ≤ _
        omega) ?_
      intro h3 tk3 t3 F3 N3
      have := hR h3 tk3 t3 F3 N3
      rw [cat_snoc, cat_snoc]
      rw [← Array.append_assoc, ← Array.append_assoc] at this
      exact this
    · rw [if_neg hlt]
      show wpAny _ _ (pure (Value.str rep u) >>= _) _ _ _
      refine wpAny_bind (wpAny_pure ?_)
      show wpAny _ _ (if (Value.str rep u != Value.none) = true then _ else _) _ _ _
      rw [show (Value.str rep u != Value.none) = true from rfl, if_pos rfl]
      refine wpAny_bind (wp_push F N hn (Nat.le_trans (show (its).length ≤ 200001 by omega) (by decide)) fun h2 F2 N2 => ?_)
      rw [show (e == b) = false from by rw [beq_eq_false_iff_ne]; omega]
      refine wpAny_pure ⟨plainId_quiet plain_sub_loop _, ?_⟩
      refine ih (its ++ [.str rep u]) (ys ++ [rep]) _ _ _ F2 N2 (strsAre_append hys (.cons _ _ .nil)) (by simp; omega) (by
        skip
        simp only [List.map_append, List.map_cons, List.map_nil, List.sum_append, List.sum_cons, List.sum_nil]
        show _ + (rep.length + 0) ≤ _
        omega) ?_
      intro h3 tk3 t3 F3 N3
      have := hR h3 tk3 t3 F3 N3
      rw [cat_snoc]
      rw [show x.cps.extract st b = #[] from by simp; omega, Array.empty_append, ← Array.append_assoc] at this
      exact this
end
end Mine
end
section
open PySem PySem.W PyProof.Rows PySem.Calls PySem.Spec PySem.Builtin PySem.Builtin.Re
set_option Elab.async false
set_option maxRecDepth 100000
set_option maxHeartbeats 4000000
set_option linter.unusedSimpArgs false
namespace Mine
theorem re_attrs : PlainAttrs "re.Pattern" :=
  ⟨⟨"object.__getattribute__", by rw [typeLookup_type, builtinLookup_eq_fast]; kernel_rfl, by decide +kernel⟩, by rw [typeLookup_type, builtinLookup_eq_fast]; kernel_rfl⟩
theorem re_slot : Slot "re.Pattern" "sub" "re.Pattern.sub" :=
  .of (owner := "re.Pattern") (n := "sub") (by rw [typeLookup_type, builtinLookup_eq_fast]; kernel_rfl) (by decide +kernel) (by decide +kernel) (by decide +kernel)
    (by first | exact .inl (by decide +kernel) | exact .inr (by decide +kernel)) (by rw [isSubtype_type]; kernel_rfl)
theorem re_type : typeOf (.builtin "re.Pattern.sub") = pure (.type "method_descriptor") := by show builtinType _ = _; rw [builtinType_eq_fast]; kernel_rfl
theorem re_entry : entryFor table "re.Pattern.sub" = some Builtin.«re.Pattern.sub» := entryFor_of_tree (by kernel_rfl)
theorem re_owner : Manifest.owners.lookup (String.ofList ['n', 'r', 'e', 't', 't', 'a', 'P', '.', 'e', 'r'].reverse) = some Manifest.sig_re_Pattern := by kernel_rfl
theorem re_args (a b c : Value) : argsOk "re.Pattern.sub" ⟨[a, b, c], []⟩ := by
  unfold argsOk; rw [signature?_of (id := "re.Pattern.sub") (n := ['b', 'u', 's']) (o := ['n', 'r', 'e', 't', 't', 'a', 'P', '.', 'e', 'r']) (by kernel_rfl) re_owner]; kernel_rfl
theorem str_nocall : typeLookup (.type "str") "__call__" = pure none := by rw [typeLookup_type, builtinLookup_eq_fast]; kernel_rfl
theorem named (rep x : Value) : reNamed "re.Pattern.sub" "sub" ["repl", "string", "count"] 2 [rep, x] [] = pure [some rep, some x, none] := rfl
section
variable {prog : Program} {w : World} {A : Around} {E : Value → Shared → Prop} {s : Shared} {h₀ : Heap} {L : Addr} {m : Str → Option Value} {news : List (Addr × Obj)}
theorem pat_type {a : Addr} {C : Array Nat} (P : Pat s.heap a C) : s.TypeIs (.ref a) "re.Pattern" := by
  obtain ⟨o, vs, c, o2, items, n, h1, h2, h3, h4, h5, h6, h7, h8, h9, _⟩ := P.is
  exact ⟨o, h1, h9⟩
theorem sub_method {a : Addr} {C : Array Nat} {pl : Sem Bool} {Q : Value × List Value → Shared → Prop} (P : Pat s.heap a C) (h : Q (.builtin "re.Pattern.sub", [.ref a]) s) : wpAny (model prog w) A (getMethod (.ref a) "sub" pl) Q E s :=
  getMethod_builtin (pat_type P) re_attrs re_slot re_type (fun b e => by
    obtain ⟨o, vs, c, o2, items, n, h1, h2, h3, h4, h5, h6, h7, h8, h9, h10⟩ := P.is
    cases e; exact ⟨o, h1, h10⟩) h
theorem sub_call {a : Addr} {C out : Array Nat} {x rep : Str} {t u : Tok} {Q : Value → Shared → Prop} (F : Fr h₀ L s.heap m) (N : News h₀ L s.heap news) (hPat : ∀ h', Fr h₀ L h' m → Pat h' a C) (hsz : x.cps.size ≤ 100000) (hrep : rep.length ≤ 2) (hbs : rep.cps.contains 92 = false)
    (hS : SubFrom C x.cps rep.cps 0 out)
    (h : ∀ h' tk t', Fr h₀ L h' m → News h₀ L h' news → Q (.str ⟨out⟩ t') { s with heap := h', toks := tk }) :
    wpAny (model prog w) A (call (.builtin "re.Pattern.sub") [.ref a, .str rep u, .str x t]) Q E s := by
  refine wpAny_call (codeAny_call_builtin re_slot.plain re_entry (re_slot.check _ _ _ _ _ _ _ _ (pat_type (hPat _ F)) (re_args _ _ _) ?_))
  show wpAny _ _ (reNamed "re.Pattern.sub" "sub" ["repl", "string", "count"] 2 [.str rep u, .str x t] [] >>= _) _ _ _
  rw [named]
  refine wpAny_bind (wpAny_pure ?_)
  show wpAny _ _ (pure (0 : Int) >>= _) _ _ _
  refine wpAny_bind (wpAny_pure ?_)
  show wpAny _ _ (specialOf (.str rep u) "__call__" >>= _) _ _ _
  refine wpAny_bind (wpAny_specialOf_val (typeIs_str s rep u) str_nocall ?_)
  show wpAny _ _ (pure (some rep) >>= _) _ _ _
  refine wpAny_bind (wpAny_pure ?_)
  show wpAny _ _ (pure (!rep.cps.contains 92) >>= _) _ _ _
  refine wpAny_bind (wpAny_pure ?_)
  rw [hbs]
  show wpAny _ _ (pure (Value.str rep u, (0 : Int)) >>= _) _ _ _
  refine wpAny_bind (wpAny_pure ?_)
  show wpAny _ _ (holding [Value.str rep u] (reWholeTarget (.ref a) (.str x t)) >>= _) _ _ _
  refine wpAny_bind (wpAny_holding (wp_target (hPat _ F) ?_))
  show wpAny _ _ (newList [] >>= _) _ _ _
  refine wpAny_bind (newList_K F N (fun P h' F' N' hlt => ?_) (by decide))
  refine wpAny_pure ⟨plainId_quiet plain_sub_loop _, ?_⟩
  exact sub_loop hPat hsz hrep (fun p hp => Nat.ne_of_lt (hlt p hp)) 0 out hS [] [] 0 0 _ F' N' .nil (Nat.le_refl _) (Nat.le_refl _) (fun h2 tk2 t2 F2 N2 => by
    have := h h2 tk2 t2 F2 N2
    rw [show cat [] ++ out = out from by show #[] ++ out = out; exact Array.empty_append]
    exact this)
end
end Mine
end
section
open PySem PySem.W PyProof.Rows PySem.Calls PySem.Spec PySem.Builtin PySem.Builtin.Re
set_option Elab.async false
set_option maxRecDepth 100000
set_option maxHeartbeats 4000000
set_option linter.unusedSimpArgs false
namespace Mine
theorem drop_cons (t : Array Nat) (s : Nat) (h : s < t.size) : t.toList.drop s = t.getD s 0 :: t.toList.drop (s + 1) := by
  rw [List.drop_eq_getElem_cons (by simpa using h)]
  congr 1
  simp [Array.getD, h]
theorem drop_end (t : Array Nat) (s : Nat) (h : t.size ≤ s) : t.toList.drop s = [] := List.drop_eq_nil_of_le (by simpa using h)
theorem ext_list (t : Array Nat) (s e : Nat) : (t.extract s e).toList = (t.toList.drop s).take (e - s) := by
  simp [List.extract]
/-- the lines' ends, all alike -/
noncomputable def f1 : List Nat → List Nat
  | [] => []
  | 13 :: 10 :: r => 13 :: 10 :: f1 r
  | c :: r => if c = 10 ∨ c = 13 then 13 :: 10 :: f1 r else c :: f1 r
/-- a dot at a line's start, doubled -/
noncomputable def f2 : Bool → List Nat → List Nat
  | _, [] => []
  | b, c :: r => if b = true ∧ c = 46 then 46 :: 46 :: f2 (c == 10) r else c :: f2 (c == 10) r

theorem bol_succ (t : Array Nat) (s : Nat) : bol t (s + 1) = (t.getD s 0 == 10) := by
  unfold bol
  rw [Nat.add_sub_cancel]
  simp
theorem f2_skip (t : Array Nat) : ∀ (d s : Nat), s + d ≤ t.size → (∀ j, s ≤ j → j < s + d → isDot t j = false) → f2 (bol t s) (t.toList.drop s) = (t.toList.drop s).take d ++ f2 (bol t (s + d)) (t.toList.drop (s + d)) := by
  intro d
  induction d with
  | zero => intro s _ _; simp
  | succ d ih =>
    intro s hs hn
    rw [drop_cons t s (by omega)]
    have h0 := hn s (Nat.le_refl s) (by omega)
    have hne : ¬(bol t s = true ∧ t.getD s 0 = 46) := by
      intro ⟨a, b⟩
      unfold isDot at h0
      rw [a, b] at h0
      exact absurd h0 (by decide)
    rw [f2, if_neg hne, ← bol_succ, ih (s + 1) (by omega) (fun j a b => hn j (by omega) (by omega))]
    rw [List.take_succ_cons, List.cons_append, show s + 1 + d = s + (d + 1) from by omega]
theorem dot_sub (t : Array Nat) (hz : t.size ≤ 100000) : ∀ (d s : Nat), s + d = t.size → SubFrom dotCode t #[46, 46] s (f2 (bol t s) (t.toList.drop s)).toArray := by
  intro d
  induction d using Nat.strongRecOn with
  | ind d ih =>
    intro s hs
    obtain ⟨k, m', hk, st, r⟩ := dot_search t s (by omega)
    rcases r with ⟨o, r⟩ | ⟨o, e, h1, h2, h3, h4, h5, h6⟩
    · have e1 := f2_skip t d s (by omega) (fun j a b => r j a (by omega))
      rw [hs, drop_end t t.size (Nat.le_refl _), f2, List.append_nil] at e1
      rw [e1]
      have e2 : ((t.toList.drop s).take d).toArray = t.extract s t.size := by
        rw [show t.extract s t.size = (t.extract s t.size).toList.toArray from Array.toArray_toList.symm, ext_list, show t.size - s = d from by omega]
      rw [e2]
      exact .stop (by omega) ⟨k, m', by omega, st, o⟩
    · have e1 := f2_skip t (e - s) s (by omega) (fun j a b => h4 j a (by omega))
      rw [show s + (e - s) = e from by omega, drop_cons t e h2] at e1
      have hd : bol t e = true ∧ t.getD e 0 = 46 := by
        unfold isDot at h3
        rw [Bool.and_eq_true, beq_iff_eq] at h3
        exact h3
      rw [f2, if_pos hd, ← bol_succ] at e1
      rw [e1]
      have e2 : ((t.toList.drop s).take (e - s) ++ 46 :: 46 :: f2 (bol t (e + 1)) (t.toList.drop (e + 1))).toArray = t.extract s e ++ #[46, 46] ++ (f2 (bol t (e + 1)) (t.toList.drop (e + 1))).toArray := by
        rw [show t.extract s e = (t.extract s e).toList.toArray from Array.toArray_toList.symm, ext_list]
        simp
      rw [e2]
      exact .hit (b := e) (e := e + 1) ⟨k, m', by omega, st, o, h5, h6⟩ h1 (by omega) (by omega) (ih (t.size - (e + 1)) (by omega) (e + 1) (by omega))

theorem f1_skip (t : Array Nat) : ∀ (d s : Nat), s + d ≤ t.size → (∀ j, s ≤ j → j < s + d → isNl t j = false) → f1 (t.toList.drop s) = (t.toList.drop s).take d ++ f1 (t.toList.drop (s + d)) := by
  intro d
  induction d with
  | zero => intro s _ _; simp
  | succ d ih =>
    intro s hs hn
    have h0 := hn s (Nat.le_refl s) (by omega)
    have hne : ¬(t.getD s 0 = 10 ∨ t.getD s 0 = 13) := by
      intro h
      unfold isNl at h0
      rcases h with h | h <;> rw [h] at h0 <;> exact absurd h0 (by decide)
    rw [drop_cons t s (by omega)]
    have step : f1 (t.getD s 0 :: t.toList.drop (s + 1)) = t.getD s 0 :: f1 (t.toList.drop (s + 1)) := by
      rw [f1, if_neg hne]
      intro r h13 _
      exact absurd (Or.inr h13) hne
    rw [step, ih (s + 1) (by omega) (fun j a b => hn j (by omega) (by omega)), List.take_succ_cons, List.cons_append, show s + 1 + d = s + (d + 1) from by omega]
theorem nl_sub (t : Array Nat) (hz : t.size ≤ 100000) : ∀ (d s : Nat), s + d = t.size → SubFrom nlCode t #[13, 10] s (f1 (t.toList.drop s)).toArray := by
  intro d
  induction d using Nat.strongRecOn with
  | ind d ih =>
    intro s hs
    obtain ⟨k, m', hk, st, r⟩ := nl_search t s (by omega)
    rcases r with ⟨o, r⟩ | ⟨o, e, h1, h2, h3, h4, h5, h6⟩
    · have e1 := f1_skip t d s (by omega) (fun j a b => r j a (by omega))
      rw [hs, drop_end t t.size (Nat.le_refl _), f1, List.append_nil] at e1
      rw [e1]
      have e2 : ((t.toList.drop s).take d).toArray = t.extract s t.size := by
        rw [show t.extract s t.size = (t.extract s t.size).toList.toArray from Array.toArray_toList.symm, ext_list, show t.size - s = d from by omega]
      rw [e2]
      exact .stop (by omega) ⟨k, m', by omega, st, o⟩
    · have e1 := f1_skip t (e - s) s (by omega) (fun j a b => h4 j a (by omega))
      rw [show s + (e - s) = e from by omega] at e1
      have hlen : e + nlLen t e ≤ t.size ∧ e < e + nlLen t e ∧ f1 (t.toList.drop e) = 13 :: 10 :: f1 (t.toList.drop (e + nlLen t e)) := by
        by_cases h : t.getD e 0 = 13 ∧ e + 1 < t.size ∧ t.getD (e + 1) 0 = 10
        · have hl : nlLen t e = 2 := by unfold nlLen; rw [if_pos h]
          rw [hl]
          refine ⟨by omega, by omega, ?_⟩
          rw [drop_cons t e h2, drop_cons t (e + 1) h.2.1, h.1, h.2.2, f1]
        · have hl : nlLen t e = 1 := by unfold nlLen; rw [if_neg h]
          rw [hl]
          refine ⟨by omega, by omega, ?_⟩
          rw [drop_cons t e h2]
          unfold isNl at h3
          rw [Bool.or_eq_true, beq_iff_eq, beq_iff_eq] at h3
          rw [f1, if_pos h3]
          intro r h13 hr
          apply h
          by_cases hh : e + 1 < t.size
          · rw [drop_cons t (e + 1) hh] at hr
            exact ⟨h13, hh, (List.cons.inj hr).1⟩
          · rw [drop_end t (e + 1) (by omega)] at hr
            cases hr
      have hd := hlen.2.2
      rw [hd] at e1
      rw [e1]
      have e2 : ((t.toList.drop s).take (e - s) ++ 13 :: 10 :: f1 (t.toList.drop (e + nlLen t e))).toArray = t.extract s e ++ #[13, 10] ++ (f1 (t.toList.drop (e + nlLen t e))).toArray := by
        rw [show t.extract s e = (t.extract s e).toList.toArray from Array.toArray_toList.symm, ext_list]
        simp
      rw [e2]
      exact .hit (b := e) (e := e + nlLen t e) ⟨k, m', by omega, st, o, h5, h6⟩ h1 hlen.2.1 hlen.1 (ih (t.size - (e + nlLen t e)) (by omega) _ (by omega))
/-- quotedata, as a function -/
noncomputable def quoted (x : Str) : Str := ⟨(f2 true (f1 x.cps.toList)).toArray⟩
theorem nl_all (x : Str) (hz : x.cps.size ≤ 100000) : SubFrom nlCode x.cps #[13, 10] 0 (f1 x.cps.toList).toArray := nl_sub x.cps hz x.cps.size 0 (by omega)
theorem dot_all (x : Str) (hz : x.cps.size ≤ 100000) : SubFrom dotCode x.cps #[46, 46] 0 (f2 true x.cps.toList).toArray := dot_sub x.cps hz x.cps.size 0 (by omega)
end Mine
end
section
open PySem PySem.W PyProof.Rows PySem.Calls PySem.Spec PySem.Builtin PySem.Builtin.Str
set_option Elab.async false
set_option maxRecDepth 100000
set_option maxHeartbeats 4000000
set_option linter.unusedSimpArgs false
namespace Mine
theorem at_iff (x y : Str) (hw : 1 ≤ y.length) (i : Nat) : StrLaws.At x y x.length i ↔ (x.cps.toList.drop i).take y.length = y.cps.toList := by
  unfold StrLaws.At
  rw [StrLaws.subAt_eq, beq_iff_eq]
  refine ⟨fun h => h.2, fun h => ⟨?_, h⟩⟩
  have := congrArg List.length h
  rw [List.length_take, List.length_drop, Array.length_toList, Array.length_toList] at this
  have e1 : y.cps.size = y.length := rfl
  have e2 : x.cps.size = x.length := rfl
  omega
def flat (w : List Nat) (rows : List (List Nat)) : List Nat := rows.flatMap fun r => r ++ w
theorem parts_rows (x y : Str) (h0 : Nat) (w' : List Nat) (hy : y.cps.toList = h0 :: w') : ∀ (rows : List (List Nat)) (a : Nat) (cuts : List Nat) (f : Nat), (∀ r ∈ rows, h0 ∉ r) → a ≤ x.length → x.cps.toList.drop a = flat (h0 :: w') rows →
    StrLaws.ChainG x y x.length a cuts f → (∀ k, f ≤ k → ¬ StrLaws.At x y x.length k) → StrLaws.partsFrom x y.length a cuts = rows.map (fun r => (⟨r.toArray⟩ : Str)) ++ [Str.empty] := by
  have hlen : y.length = (h0 :: w').length := by rw [← hy, Array.length_toList]; rfl
  have hw : 1 ≤ y.length := by rw [hlen]; simp
  have ex : x.cps.toList.length = x.length := by rw [Array.length_toList]; rfl
  intro rows
  induction rows with
  | nil =>
    intro a cuts f _ ha hd hG _
    have hal : x.length ≤ a := by
      have := congrArg List.length hd
      rw [List.length_drop, ex] at this
      simp [flat] at this
      omega
    obtain rfl : a = x.length := by omega
    cases cuts with
    | nil =>
      show [strSub x x.length x.length] = [Str.empty]
      congr 1
      refine Str.ext' ?_
      show x.cps.extract x.length x.length = #[]
      simp
      exact Nat.min_le_left _ _
    | cons c cs =>
      have := hG.2.1.1
      have := hG.1
      omega
  | cons r rs ih =>
    intro a cuts f hr ha hd hG hn
    have hd' : x.cps.toList.drop a = r ++ ((h0 :: w') ++ flat (h0 :: w') rs) := by rw [hd]; simp [flat]
    have hAt : StrLaws.At x y x.length (a + r.length) := by
      rw [at_iff x y hw, ← List.drop_drop, hd', List.drop_left, hlen, hy]
      exact List.take_left
    have hno : ∀ k, a ≤ k → k < a + r.length → ¬ StrLaws.At x y x.length k := by
      intro k h1 h2 hA
      rw [at_iff x y hw, hy] at hA
      have e : x.cps.toList[k]? = some h0 := by
        have := congrArg (·[0]?) hA
        simp only [List.getElem?_cons_zero] at this
        rw [List.getElem?_take_of_lt (by omega), List.getElem?_drop] at this
        simpa using this
      have e2 : x.cps.toList[k]? = r[k - a]? := by
        have : (x.cps.toList.drop a)[k - a]? = x.cps.toList[k]? := by rw [List.getElem?_drop]; congr 1; omega
        rw [← this, hd', List.getElem?_append_left (by omega)]
      rw [e2] at e
      exact hr r (List.mem_cons_self ..) (List.mem_of_getElem? e)
    cases cuts with
    | nil =>
      have hf : f = a := hG
      exact absurd hAt (hn _ (by omega))
    | cons c cs =>
      obtain ⟨g1, g2, g3, g4⟩ := hG
      have hc : c = a + r.length := by
        rcases Nat.lt_trichotomy c (a + r.length) with h | h | h
        · exact absurd g2 (hno c g1 h)
        · exact h
        · exact absurd hAt (g3 _ (by omega) h)
      subst hc
      show strSub x a (a + r.length) :: StrLaws.partsFrom x y.length (a + r.length + y.length) cs = _
      rw [ih (a + r.length + y.length) cs f (fun q hq => hr q (List.mem_cons_of_mem _ hq)) g2.1 ?_ g4 hn]
      · rw [List.map_cons, List.cons_append]
        congr 1
        refine Str.ext' ?_
        show x.cps.extract a (a + r.length) = r.toArray
        rw [show x.cps.extract a (a + r.length) = (x.cps.extract a (a + r.length)).toList.toArray from Array.toArray_toList.symm, ext_list, hd', show a + r.length - a = r.length from by omega]
        congr 1
        exact List.take_left
      · rw [← List.drop_drop, ← List.drop_drop, hd', List.drop_left, hlen]
        exact List.drop_left
theorem kind_pos (x : Str) : 1 ≤ Builtin.Str.strKind x := by
  unfold Builtin.Str.strKind; split
  · decide
  · split <;> decide
/-- the rows that a separator ends, split -/
theorem split_rows (x y : Str) (h0 : Nat) (w' : List Nat) (hy : y.cps.toList = h0 :: w') (hk : Builtin.Str.strKind y = 1) (rows : List (List Nat)) (hr : ∀ r ∈ rows, h0 ∉ r) (hx : x.cps.toList = flat (h0 :: w') rows) :
    Txt.split x y = rows.map (fun r => (⟨r.toArray⟩ : Str)) ++ [Str.empty] := by
  have hlen : y.length = (h0 :: w').length := by rw [← hy, Array.length_toList]; rfl
  have hw : 1 ≤ y.length := by rw [hlen]; simp
  obtain ⟨f, hG, hn⟩ := StrLaws.occ_tight x y hw
  have key := parts_rows x y h0 w' hy rows 0 _ f hr (Nat.zero_le _) (by simpa using hx) hG hn
  have hxl : x.length = (flat (h0 :: w') rows).length := by rw [← hx, Array.length_toList]; rfl
  unfold Txt.split
  cases rows with
  | nil =>
    have h0x : x.length = 0 := by rw [hxl]; rfl
    have : (decide (x.length < y.length) || decide (Builtin.Str.strKind x < Builtin.Str.strKind y)) = true := by rw [h0x, decide_eq_true (by omega), Bool.true_or]
    rw [if_pos this]
    show [x] = [Str.empty]
    congr 1
    refine Str.ext' ?_
    show x.cps = #[]
    exact Array.eq_empty_of_size_eq_zero h0x
  | cons r rs =>
    have hge : y.length ≤ x.length := by rw [hxl, hlen]; simp [flat]; omega
    have hkx := kind_pos x
    have : ¬(decide (x.length < y.length) || decide (Builtin.Str.strKind x < Builtin.Str.strKind y)) = true := by
      rw [decide_eq_false (by omega), decide_eq_false (by omega)]; decide
    rw [if_neg this]
    split
    · rename_i he
      have e0 : occurrences x y 0 x.length (x.length + 1) = [] := List.isEmpty_iff.mp he
      rw [e0] at key
      have := congrArg List.length key
      simp [StrLaws.partsFrom] at this
    · rw [StrLaws.partsBetween_eq]
      exact key
end Mine
end
section
open PySem PySem.W PyProof.Rows PySem.Calls PySem.Spec PySem.Builtin PySem.Builtin.Str
set_option Elab.async false
set_option maxRecDepth 100000
set_option maxHeartbeats 4000000
set_option linter.unusedSimpArgs false
namespace Mine
def midL (x : Int × Int × Int) : List Nat := if x.1 = x.2.1 then [61, 46] else if x.2.1 = x.2.2 then [46, 61] else [46, 46]
def rowN (n : Nat) (x : Int × Int × Int) : List Nat := if x.1 = x.2.1 then [61, 46] else List.replicate n 46 ++ if x.2.1 = x.2.2 then [46, 61] else [46, 46]
def dotsOf (n : Nat) (x : Int × Int × Int) : Int := if x.1 = x.2.1 then 1 else if x.2.1 = x.2.2 then (n : Int) + 1 else (n : Int) + 2
def endL (k : Int) : List Nat := if k % 3 = 0 then [10] else if k % 3 = 1 then [13] else [13, 10]
def mailL (e : Int) (k : Nat) (ts : List (Int × Int × Int)) : List Nat := (ts.zipIdx k).flatMap fun p => midL p.1 ++ endL (e + (p.2 : Int))
noncomputable def mailN (e : Int) (ts : List (Int × Int × Int)) : Nat → Str
  | 0 => ⟨(mailL e 0 ts).toArray⟩
  | n + 1 => quoted (mailN e ts n)
theorem f1_cr (rest : List Nat) (h : ∀ r, rest ≠ 10 :: r) : f1 (13 :: rest) = 13 :: 10 :: f1 rest := by
  rw [f1, if_pos (.inr rfl)]
  intro r _ e; exact h r e
theorem f1_lf (rest : List Nat) : f1 (10 :: rest) = 13 :: 10 :: f1 rest := by
  rw [f1, if_pos (.inl rfl)]
  intro r e; exact absurd e (by decide)
theorem f1_c (c : Nat) (rest : List Nat) (h1 : c ≠ 10) (h2 : c ≠ 13) : f1 (c :: rest) = c :: f1 rest := by
  rw [f1, if_neg (by intro h; rcases h with h | h; exact h1 h; exact h2 h)]
  intro r e; exact absurd e h2
theorem f1_app : ∀ (r rest : List Nat), 10 ∉ r → 13 ∉ r → f1 (r ++ rest) = r ++ f1 rest
  | [], _, _, _ => rfl
  | c :: r, rest, h1, h2 => by
    rw [List.cons_append, f1_c c _ (fun e => h1 (e ▸ List.mem_cons_self ..)) (fun e => h2 (e ▸ List.mem_cons_self ..)), f1_app r rest (fun h => h1 (List.mem_cons_of_mem _ h)) (fun h => h2 (List.mem_cons_of_mem _ h)), List.cons_append]
theorem mid_no (x : Int × Int × Int) : 10 ∉ midL x ∧ 13 ∉ midL x := by
  unfold midL; split
  · decide
  · split <;> decide
theorem mid_head (x : Int × Int × Int) (r rest : List Nat) : midL x ++ rest ≠ 10 :: r := by
  unfold midL; split
  · intro h; cases h
  · split <;> (intro h; cases h)
theorem mail_head (e : Int) (k : Nat) (ts : List (Int × Int × Int)) (r : List Nat) : mailL e k ts ≠ 10 :: r := by
  cases ts with
  | nil => intro h; cases h
  | cons x xs =>
    intro h
    have : midL x ++ (endL (e + (k : Int)) ++ mailL e (k + 1) xs) = 10 :: r := by
      rw [← h]; simp [mailL, List.zipIdx_cons]
    exact mid_head x r _ this
theorem f1_mail (e : Int) : ∀ (ts : List (Int × Int × Int)) (k : Nat), f1 (mailL e k ts) = flat [13, 10] (ts.map midL)
  | [], k => rfl
  | x :: xs, k => by
    have hs : mailL e k (x :: xs) = midL x ++ (endL (e + (k : Int)) ++ mailL e (k + 1) xs) := by simp [mailL, List.zipIdx_cons]
    have ih := f1_mail e xs (k + 1)
    have hend : f1 (endL (e + (k : Int)) ++ mailL e (k + 1) xs) = 13 :: 10 :: f1 (mailL e (k + 1) xs) := by
      unfold endL; split
      · exact f1_lf _
      · split
        · exact f1_cr _ (mail_head e (k + 1) xs)
        · show f1 (13 :: 10 :: _) = _
          rw [f1]; rfl
    rw [hs, f1_app _ _ (mid_no x).1 (mid_no x).2, hend, ih]
    simp [flat]
theorem f2_false : ∀ (r rest : List Nat), 10 ∉ r → f2 false (r ++ rest) = r ++ f2 false rest
  | [], _, _ => rfl
  | c :: r, rest, h => by
    have hc : (c == 10) = false := by rw [beq_eq_false_iff_ne]; intro e; exact h (e ▸ List.mem_cons_self ..)
    rw [List.cons_append, f2, if_neg (by intro h; exact absurd h.1 (by decide)), hc, f2_false r rest (fun h' => h (List.mem_cons_of_mem _ h')), List.cons_append]
theorem f2_end (rest : List Nat) : f2 false (13 :: 10 :: rest) = 13 :: 10 :: f2 true rest := by
  rw [f2, if_neg (by decide), f2, if_neg (by decide)]; rfl
theorem row_no (n : Nat) (x : Int × Int × Int) : 10 ∉ rowN n x ∧ 13 ∉ rowN n x := by
  unfold rowN; split
  · decide
  · split <;> simp [List.mem_replicate]
theorem f2_row (n : Nat) (x : Int × Int × Int) (rest : List Nat) : f2 true (rowN n x ++ 13 :: 10 :: rest) = rowN (n + 1) x ++ 13 :: 10 :: f2 true rest := by
  unfold rowN; split
  · show f2 true (61 :: 46 :: 13 :: 10 :: rest) = _
    rw [f2, if_neg (by decide)]
    show 61 :: f2 false ([46] ++ 13 :: 10 :: rest) = _
    rw [f2_false _ _ (by decide), f2_end]; rfl
  · have gen : ∀ (l : List Nat), 10 ∉ l → f2 true (46 :: (l ++ 13 :: 10 :: rest)) = 46 :: 46 :: (l ++ 13 :: 10 :: f2 true rest) := by
      intro l hl
      rw [f2, if_pos ⟨rfl, rfl⟩]
      show 46 :: 46 :: f2 false _ = _
      rw [f2_false _ _ hl, f2_end]
    have hh : ∀ (t : List Nat), 10 ∉ t → f2 true (List.replicate n 46 ++ (46 :: t) ++ 13 :: 10 :: rest) = List.replicate (n + 1) 46 ++ (46 :: t) ++ 13 :: 10 :: f2 true rest := by
      intro t ht
      have e : List.replicate n 46 ++ (46 :: t) = 46 :: (List.replicate n 46 ++ t) := by
        rw [← List.singleton_append, ← List.append_assoc, ← List.replicate_succ', List.replicate_succ]; rfl
      rw [e, List.cons_append, gen _ (by simp [List.mem_replicate, ht]), List.replicate_succ, List.cons_append, e]
      simp
    split
    · exact hh [61] (by decide)
    · exact hh [46] (by decide)
theorem f2_rows (n : Nat) : ∀ ts : List (Int × Int × Int), f2 true (flat [13, 10] (ts.map (rowN n))) = flat [13, 10] (ts.map (rowN (n + 1)))
  | [] => rfl
  | x :: xs => by
    have h : ∀ m, flat [13, 10] ((x :: xs).map (rowN m)) = rowN m x ++ 13 :: 10 :: flat [13, 10] (xs.map (rowN m)) := by intro m; simp [flat]
    rw [h, h, f2_row, f2_rows n xs]
theorem f1_rows (n : Nat) : ∀ ts : List (Int × Int × Int), f1 (flat [13, 10] (ts.map (rowN n))) = flat [13, 10] (ts.map (rowN n))
  | [] => rfl
  | x :: xs => by
    have h : flat [13, 10] ((x :: xs).map (rowN n)) = rowN n x ++ 13 :: 10 :: flat [13, 10] (xs.map (rowN n)) := by simp [flat]
    rw [h, f1_app _ _ (row_no n x).1 (row_no n x).2]
    show _ ++ f1 (13 :: 10 :: _) = _
    rw [f1, f1_rows n xs]
theorem mid_row : midL = rowN 0 := by
  funext x; unfold midL rowN; split
  · rfl
  · split <;> rfl
theorem mailN_list (e : Int) (ts : List (Int × Int × Int)) : ∀ n, (mailN e ts (n + 1)).cps.toList = flat [13, 10] (ts.map (rowN (n + 1)))
  | 0 => by
    show f2 true (f1 (mailL e 0 ts)) = _
    rw [f1_mail, mid_row, f2_rows]
  | n + 1 => by
    show f2 true (f1 (mailN e ts (n + 1)).cps.toList) = _
    rw [mailN_list e ts n, f1_rows, f2_rows]
theorem row_len (n : Nat) (x : Int × Int × Int) : (rowN n x).length ≤ n + 2 := by
  unfold rowN; split
  · simp
  · split <;> simp
theorem flat_len (n : Nat) : ∀ ts : List (Int × Int × Int), (flat [13, 10] (ts.map (rowN n))).length ≤ (n + 4) * ts.length
  | [] => by simp [flat]
  | x :: xs => by
    have ih := flat_len n xs
    have h1 := row_len n x
    have h : flat [13, 10] ((x :: xs).map (rowN n)) = rowN n x ++ 13 :: 10 :: flat [13, 10] (xs.map (rowN n)) := by simp [flat]
    rw [h, List.length_append, List.length_cons, List.length_cons, List.length_cons, Nat.mul_succ]
    omega
theorem mail_len (e : Int) : ∀ (ts : List (Int × Int × Int)) (k : Nat), (mailL e k ts).length ≤ 4 * ts.length
  | [], k => by simp [mailL]
  | x :: xs, k => by
    have hs : mailL e k (x :: xs) = midL x ++ (endL (e + (k : Int)) ++ mailL e (k + 1) xs) := by simp [mailL, List.zipIdx_cons]
    have ih := mail_len e xs (k + 1)
    have h1 : (midL x).length = 2 := by unfold midL; split; rfl; split <;> rfl
    have h2 : (endL (e + (k : Int))).length ≤ 2 := by unfold endL; split; decide; split <;> decide
    rw [hs, List.length_append, List.length_append, List.length_cons]
    omega
theorem mailN_size (e : Int) (ts : List (Int × Int × Int)) (hl : ts.length ≤ 2000) : ∀ n, n ≤ 10 → (mailN e ts n).cps.size ≤ 40000
  | 0, _ => by
    have := mail_len e ts 0
    show (mailL e 0 ts).toArray.size ≤ _
    rw [List.size_toArray]; omega
  | n + 1, hn => by
    have h1 : (mailN e ts (n + 1)).cps.size = (mailN e ts (n + 1)).cps.toList.length := Array.length_toList.symm
    have h2 := flat_len (n + 1) ts
    have h3 : (n + 1 + 4) * ts.length ≤ 15 * 2000 := Nat.mul_le_mul (by omega) hl
    rw [h1, mailN_list]; omega
theorem row_dots (n : Nat) (x : Int × Int × Int) : cnt 46 (rowN n x) = dotsOf n x := by
  have hr : ∀ n, cnt 46 (List.replicate n 46) = (n : Int) := by
    intro n
    induction n with
    | zero => rfl
    | succ n ih => rw [List.replicate_succ, cnt_cons, ih, if_pos rfl]; omega
  have c2 : cnt 46 [61, 46] = 1 := by simp [cnt_cons, cnt_nil]
  have c3 : cnt 46 [46, 61] = 1 := by simp [cnt_cons, cnt_nil]
  have c4 : cnt 46 [46, 46] = 2 := by simp [cnt_cons, cnt_nil]
  unfold rowN dotsOf
  split
  · exact c2
  · split
    · rw [cnt_append, hr, c3]
    · rw [cnt_append, hr, c4]
theorem count_row (n : Nat) (x : Int × Int × Int) : Txt.count ⟨(rowN n x).toArray⟩ ⟨#[46]⟩ = dotsOf n x := by
  rw [count_is, ← row_dots]; rfl
end Mine
end
section
open PySem PySem.W PyProof.Rows PySem.Calls PySem.Spec
set_option Elab.async false
set_option maxRecDepth 100000
set_option maxHeartbeats 4000000
set_option linter.unusedSimpArgs false
namespace Mine
section
variable {M : Model} {A : Around} {E : Value → Shared → Prop} {s : Shared} {env : Env}
theorem wp_oneCell {scope : Scope} {globals : Addr} {cl cs : List (Str × Addr)} {qual : Str} {Q : Env → Shared → Prop}
    (hpc : ∀ H : Heap, pushCells H scope.names = H.push { cls := .type "cell", data := .cell none }) (hcf : cellsFrom (s.heap.objs.size + 1) scope.names cl = cs)
    (hQ : Q (newEnv scope s.heap.objs.size globals cs qual none .none (some env) builtinsNs) { s with heap := (s.heap.push { cls := .type "dict", data := .dict #[] }).push { cls := .type "cell", data := .cell none } }) :
    wpAny M A (newFunctionEnv scope globals cl [] qual none .none (some env)) Q E s := by
  simp only [newFunctionEnv, Option.isSome_some, if_true]
  refine wpAny_bind (wpAny_alloc ?_)
  refine wpAny_bind (wpAny_layCells _ (fun name kind cells => by cases hkc : kind == NameKind.cell <;> simp [hkc]) _ _ _ _ ?_)
  rw [hpc]
  rw [show ({ s with heap := s.heap.push { cls := .type "dict", data := .dict #[] } } : Shared).heap.objs.size = s.heap.objs.size + 1 from Heap.size_push .., hcf]
  rw [List.forIn_nil]
  exact wpAny_bind (wpAny_pure (wpAny_pure hQ))
end
def cellObj (v : Option Value) : Obj := { cls := .type "cell", data := .cell v }
theorem isCell_obj {h : Heap} {c : Addr} {v : Option Value} (x : h.get? c = some (cellObj v)) : h.IsCell c v := ⟨_, x, rfl⟩
section
variable {prog : Program} {w : World} {A : Around} {E : Value → Shared → Prop} {env : Env} {h₀ : Heap} {L : Addr} {m : Str → Option Value}
/-- the end of a turn's element, for a comprehension whose variable is a cell -/
def CellEnd (h₀ : Heap) (L : Addr) (m : Str → Option Value) (s : Shared) (I C c D : Addr) (oI oC oc oD : Obj) (rest : Value → List (Addr × Obj) → Prop) (y : Value) (s₂ : Shared) : Prop :=
  ∃ h' tk all news', s₂ = { s with heap := h', toks := tk } ∧ Fr h₀ L h' m ∧ News h₀ L h' all ∧ (∀ p ∈ (I, oI) :: (C, oC) :: (c, oc) :: (D, oD) :: news', p ∈ all) ∧ (∀ p ∈ news', p.1 ≠ I ∧ p.1 ≠ C ∧ p.1 ≠ c ∧ p.1 ≠ D) ∧ rest y news'

theorem block_C {elt iter : PySem.Expr} {x : Str} {px : Pos} {scope : Scope} {cl : List (Str × Addr)} {pos : Pos} {s₂ : Shared} {I : Addr} {fp : List Addr} {n : Nat} {P : Nat → Value → Prop} {St : Nat → Heap → Prop} {S : List (Addr × Obj) → Prop} {news : List (Addr × Obj)}
    {RR : Value → Addr → Result → Shared → Prop} (Inv : Nat → List Value → List (Addr × Obj) → Prop)
    (W : Walks prog w A I fp [I] n P St) (hsz : n ≤ sizeLine) (hIo : ∀ i h, St i h → ∃ o, h.get? I = some o)
    (hSt : ∀ i h h' o nw, St i h → h.get? I = some o → h'.get? I = some o → (∀ b o, h₀.get? b = some o → h'.get? b = some o) → News h₀ L h' nw → S nw → St i h')
    (hIS : ∀ i ys nw, Inv i ys nw → S nw)
    (hpc : ∀ H : Heap, pushCells H scope.names = H.push (cellObj none)) (hcf : ∀ n, cellsFrom n scope.names cl = (x, n) :: cl) (hkind : scope.kind = .function) (hkx : ∀ C c, (compEnvC scope ((x, c) :: cl) C env).kindOf x = some .cell)
    (hst : St 0 s₂.heap) (hfp : ∀ b ∈ fp, b < s₂.heap.objs.size)
    (F : Fr h₀ L s₂.heap m) (N : News h₀ L s₂.heap news) (hIL : L ≠ I) (hI₀ : h₀.get? I = none) (off : ∀ p ∈ news, p.1 ≠ I) (h0 : Inv 0 [] news)
    (step : ∀ i ys news v oI C oC c oc D h tk (E' : Value → Shared → Prop), i < n → P i v → Inv i ys news → LCg.NsObj oC (fun _ => none) → oc.data = .cell (some v) → Fr h₀ L h m → News h₀ L h ((I, oI) :: (C, oC) :: (c, oc) :: (D, LCg.lst ys) :: news) →
      (∀ p ∈ news, p.1 ≠ I ∧ p.1 ≠ C ∧ p.1 ≠ c ∧ p.1 ≠ D) → ((@Ne Nat I C) ∧ (@Ne Nat I c) ∧ (@Ne Nat I D) ∧ (@Ne Nat C c) ∧ (@Ne Nat C D) ∧ (@Ne Nat c D)) →
      wpAny (model prog w) A (eval elt (compEnvC scope ((x, c) :: cl) C env)) (CellEnd h₀ L m { s₂ with heap := h, toks := tk } I C c D oI oC oc (LCg.lst ys) (fun y news' => Inv (i + 1) (ys ++ [y]) news')) E' { s₂ with heap := h, toks := tk })
    (hRR : ∀ D C h tk m' ys news', Fr h₀ L h m → News h₀ L h ((D, LCg.lst ys) :: news') → (∀ p ∈ news', p.1 ≠ D) → h.Ns C m' → h₀.get? C = none → h₀.get? D = none → C ≠ L → D ≠ L → C ≠ D → (∀ p ∈ news', p.1 ≠ C) → Inv n ys news' → RR (.ref D) C (.ok .next) { s₂ with heap := h, toks := tk }) :
    wpAny (model prog w) A (newList []) (fun acc s₃ => wpAny (model prog w) A (newFunctionEnv scope env.globals cl [] env.qual none .none (some env)) (fun cenv s₄ =>
      codeAny (model prog w) A (.compStart (.ListComp elt [⟨.Name x px, iter, [], 0⟩] scope pos) 0 (.ref I) acc { cenv with scope := relabel scope env }) (RR acc cenv.locals) s₄) E s₃) E s₂ := by
  refine wpAny_newObj_type (wp_oneCell hpc (hcf _) ?_)
  dsimp only
  generalize hH2 : s₂.heap.push { cls := .type "list", dict := none, data := .seq ([] : List Value).toArray } = H2
  have hC : H2.objs.size = s₂.heap.objs.size + 1 := by rw [← hH2, Heap.size_push]
  have hc3 : (H2.push { cls := .type "dict", data := .dict #[] }).objs.size = H2.objs.size + 1 := Heap.size_push ..
  change codeAny _ _ _ _ { s₂ with heap := (H2.push { cls := .type "dict", data := .dict #[] }).push (cellObj none) }
  generalize hh1 : (H2.push { cls := .type "dict", data := .dict #[] }).push (cellObj none) = h₁
  have g1 : ∀ b o, H2.get? b = some o → h₁.get? b = some o := fun b o e => hh1 ▸ Heap.get?_push_of_some _ (Heap.get?_push_of_some _ e)
  have old : ∀ b o, s₂.heap.get? b = some o → h₁.get? b = some o := fun b o e => g1 b o (hH2 ▸ Heap.get?_push_of_some _ e)
  have hacc : h₁.get? s₂.heap.objs.size = some (LCg.lst []) := g1 _ _ (hH2 ▸ Heap.get?_push_size _ rfl)
  have hdict : h₁.get? H2.objs.size = some { cls := .type "dict", data := .dict #[] } := hh1 ▸ Heap.get?_push_of_some _ (Heap.get?_push_size _ rfl)
  have hcell : h₁.get? (H2.objs.size + 1) = some (cellObj none) := by rw [← hh1, ← hc3]; exact Heap.get?_push_size _ rfl
  have fresh : ∀ a, s₂.heap.objs.size ≤ a → s₂.heap.get? a = none := fun a ha => by
    cases e : s₂.heap.get? a with
    | none => rfl
    | some o' => exact absurd (Heap.lt_size e) (Nat.not_lt.mpr ha)
  have fresh₀ : ∀ a, s₂.heap.objs.size ≤ a → h₀.get? a = none := fun a ha => by
    cases e : h₀.get? a with
    | none => rfl
    | some o' => have := F.keep a o' e; rw [fresh a ha] at this; cases this
  have hDC : s₂.heap.objs.size ≠ H2.objs.size := by rw [hC]; exact Nat.ne_of_lt (Nat.lt_succ_self _)
  have hCc : H2.objs.size ≠ H2.objs.size + 1 := Nat.ne_of_lt (Nat.lt_succ_self _)
  have hDc : s₂.heap.objs.size ≠ H2.objs.size + 1 := by rw [hC]; exact Nat.ne_of_lt (Nat.lt_succ_of_lt (Nat.lt_succ_self _))
  have below : ∀ b, b < s₂.heap.objs.size → b ≠ H2.objs.size ∧ b ≠ H2.objs.size + 1 ∧ b ≠ s₂.heap.objs.size := fun b hb => ⟨by rw [hC]; exact Nat.ne_of_lt (Nat.lt_succ_of_lt hb), by rw [hC]; exact Nat.ne_of_lt (Nat.lt_succ_of_lt (Nat.lt_succ_of_lt hb)), Nat.ne_of_lt hb⟩
  have hIf : I ∈ fp := W.sub I (List.mem_singleton.mpr rfl)
  have hIlt : I < s₂.heap.objs.size := hfp I hIf
  have hDf : s₂.heap.objs.size ∉ fp := fun hm => (below _ (hfp _ hm)).2.2 rfl
  have hCf : H2.objs.size ∉ fp := fun hm => (below _ (hfp _ hm)).1 rfl
  have hcf' : H2.objs.size + 1 ∉ fp := fun hm => (below _ (hfp _ hm)).2.1 rfl
  have hst₁ : St 0 h₁ := W.frame _ _ _ hst fun b _ o e => old b o e
  have hD₀ : h₀.get? s₂.heap.objs.size = none := fresh₀ _ (Nat.le_refl _)
  have hC₀ : h₀.get? H2.objs.size = none := fresh₀ _ (by rw [hC]; exact Nat.le_succ _)
  have hc₀ : h₀.get? (H2.objs.size + 1) = none := fresh₀ _ (by rw [hC]; exact Nat.le_succ_of_le (Nat.le_succ _))
  have hLlt : L < s₂.heap.objs.size := F.ns.lt
  have hL := below L hLlt
  have hI := below I hIlt
  have off₀ : ∀ p ∈ news, p.1 ≠ I ∧ p.1 ≠ H2.objs.size ∧ p.1 ≠ H2.objs.size + 1 ∧ p.1 ≠ s₂.heap.objs.size := fun p hp => ⟨off p hp, below _ (Heap.lt_size (N p hp).1)⟩
  have loop : ∀ s₃ : Shared, s₃ = { s₂ with heap := h₁ } →
      codeAny (model prog w) A (.compLoop (.ListComp elt [⟨.Name x px, iter, [], 0⟩] scope pos) 0 (.ref I) (.ref s₂.heap.objs.size) (compEnvC scope ((x, H2.objs.size + 1) :: cl) H2.objs.size env))
        (RR (.ref s₂.heap.objs.size) H2.objs.size) s₃ := by
    rintro s₃ rfl
    refine codeAny_compLoop_tests
      (fun k s' => ∃ h' tk i ys cv oC news', s' = { s₂ with heap := h', toks := tk } ∧ i ≤ n ∧ k = n + 1 - i ∧ ys.length = i ∧ St i h' ∧ Fr h₀ L h' m ∧ h'.get? H2.objs.size = some oC ∧ LCg.NsObj oC (fun _ => none) ∧ h'.IsCell (H2.objs.size + 1) cv ∧
        News h₀ L h' ((s₂.heap.objs.size, LCg.lst ys) :: news') ∧ (∀ p ∈ news', p.1 ≠ I ∧ p.1 ≠ H2.objs.size ∧ p.1 ≠ H2.objs.size + 1 ∧ p.1 ≠ s₂.heap.objs.size) ∧ Inv i ys news') ?_ (n + 1)
      ⟨h₁, _, 0, [], none, _, news, rfl, Nat.zero_le _, rfl, rfl, hst₁, F.keeps old, hdict, ⟨#[], 0, rfl, ?_, ?_⟩, isCell_obj hcell, ?_, off₀, h0⟩
    · rintro k s' ⟨h', tk, i, ys, cv, oC, news', rfl, hi, rfl, hyl, hst', F', hC', hN', hc', N', off', hI'⟩
      by_cases hlt : i < n
      · refine W.item i _ _ _ hlt hst' fun v h₂ tk₂ hPv hst₂ hk₂ => ?_
        have k2 : ∀ b o, b ≠ I → h'.get? b = some o → h₂.get? b = some o := fun b o hb e => hk₂ b o (by simpa using hb) e
        obtain ⟨oc0, e0, d0⟩ := hc'
        refine wpAny_assign_Name (wpAny_storeName_cell hkind (hkx _ _) (by simp [compEnvC]) ⟨oc0, k2 _ _ (Ne.symm hI.2.1) e0, d0⟩ (fun h₃ hn₃ hs₃ => ?_))
        refine wpAny_tests_nil ?_
        simp only [if_true]
        have hst₃ : St (i + 1) h₃ := W.frame _ _ _ hst₂ fun b hb o e => hs₃.extBut b o (fun q => hcf' (by have q' : b = H2.objs.size + 1 := q; rw [← q']; exact hb)) e
        obtain ⟨oI, heI⟩ := hIo _ _ hst₃
        obtain ⟨oc, hec, hoc⟩ := hn₃
        have F₃ : Fr h₀ L h₃ m := (LCg.fr_but F' hk₂ hIL hI₀).change hs₃ (Ne.symm hL.2.1) hc₀
        have heC : h₃.get? H2.objs.size = some oC := hs₃.extBut _ _ hCc (k2 _ _ (Ne.symm hI.1) hC')
        have N₂ : News h₀ L h₂ ((s₂.heap.objs.size, LCg.lst ys) :: news') := LCg.news_but N' hk₂ fun p hp => by
          rcases List.mem_cons.mp hp with rfl | hp
          · exact Ne.symm hI.2.2
          · exact (off' p hp).1
        have N₃ : News h₀ L h₃ ((I, oI) :: (H2.objs.size, oC) :: (H2.objs.size + 1, oc) :: (s₂.heap.objs.size, LCg.lst ys) :: news') := fun p hp => by
          rcases List.mem_cons.mp hp with rfl | hp
          · exact ⟨heI, Ne.symm hIL, hI₀⟩
          · rcases List.mem_cons.mp hp with rfl | hp
            · exact ⟨heC, Ne.symm hL.1, hC₀⟩
            · rcases List.mem_cons.mp hp with rfl | hp
              · exact ⟨hec, Ne.symm hL.2.1, hc₀⟩
              · have z := N₂ p hp
                refine ⟨hs₃.extBut _ _ ?_ z.1, z.2⟩
                rcases List.mem_cons.mp hp with rfl | hp
                · exact hDc
                · exact (off' p hp).2.2.1
        refine wpAny_mono (step i ys news' v oI H2.objs.size oC (H2.objs.size + 1) oc s₂.heap.objs.size h₃ _ _ hlt hPv hI' hN' hoc F₃ N₃ off' ⟨hI.1, hI.2.1, hI.2.2, hCc, Ne.symm hDC, Ne.symm hDc⟩) (fun y s₄ h₄ => ?_) fun _ _ e => e
        obtain ⟨h₄, tk₄, all, news₄, rfl, F₄, Nall, sub, off₄, R₄⟩ := h₄
        have N₄ : News h₀ L h₄ ((I, oI) :: (H2.objs.size, oC) :: (H2.objs.size + 1, oc) :: (s₂.heap.objs.size, LCg.lst ys) :: news₄) := fun p hp => Nall p (sub p hp)
        have zI := (N₄ (I, oI) List.mem_cons_self).1
        have zC := (N₄ (H2.objs.size, oC) (List.mem_cons_of_mem _ List.mem_cons_self)).1
        have zc := (N₄ (H2.objs.size + 1, oc) (List.mem_cons_of_mem _ (List.mem_cons_of_mem _ List.mem_cons_self))).1
        have zD := (N₄ (s₂.heap.objs.size, LCg.lst ys) (List.mem_cons_of_mem _ (List.mem_cons_of_mem _ (List.mem_cons_of_mem _ List.mem_cons_self)))).1
        have N₄' : News h₀ L h₄ news₄ := fun p hp => N₄ p (List.mem_cons_of_mem _ (List.mem_cons_of_mem _ (List.mem_cons_of_mem _ (List.mem_cons_of_mem _ hp))))
        have hst₄ : St (i + 1) h₄ := hSt _ _ _ _ _ hst₃ heI zI F₄.keep N₄' (hIS _ _ _ R₄)
        refine append_at (hsz := by show ys.toArray.size ≤ sizeLine; rw [List.size_toArray, hyl]; exact Nat.le_trans hi hsz) zD fun h₅ hs₅ hD₅ => ?_
        refine ⟨n + 1 - (i + 1), by omega, h₅, tk₄, i + 1, ys ++ [y], some v, oC, news₄, rfl, hlt, rfl, by rw [List.length_append, List.length_singleton, hyl], W.frame _ _ _ hst₄ fun b hb o e => hs₅.extBut b o (fun q => hDf (q ▸ hb)) e, F₄.change hs₅ (Ne.symm hL.2.2) hD₀,
          hs₅.extBut _ _ (Ne.symm hDC) zC, hN', ⟨oc, hs₅.extBut _ _ (Ne.symm hDc) zc, hoc⟩, fun p hp => ?_, off₄, R₄⟩
        rcases List.mem_cons.mp hp with rfl | hp
        · exact ⟨hD₅.trans (congrArg some (LCg.lst_snoc ys y)), Ne.symm hL.2.2, hD₀⟩
        · exact ⟨hs₅.extBut _ _ (off₄ p hp).2.2.2 (N₄' p hp).1, (N₄' p hp).2⟩
      · obtain rfl : i = n := Nat.le_antisymm hi (Nat.not_lt.mp hlt)
        refine W.done _ _ _ hst' fun h₂ tk₂ hk₂ => ?_
        have k2 : ∀ b o, b ≠ I → h'.get? b = some o → h₂.get? b = some o := fun b o hb e => hk₂ b o (by simpa using hb) e
        exact hRR _ _ h₂ tk₂ _ ys news' (LCg.fr_but F' hk₂ hIL hI₀) (LCg.news_but N' hk₂ fun p hp => by
          rcases List.mem_cons.mp hp with rfl | hp
          · exact Ne.symm hI.2.2
          · exact (off' p hp).1) (fun p hp => (off' p hp).2.2.2) (hN'.ns (k2 _ _ (Ne.symm hI.1) hC')) hC₀ hD₀ (Ne.symm hL.1) (Ne.symm hL.2.2) (Ne.symm hDC) (fun p hp => (off' p hp).2.1) hI'
    · intro e he; simp at he
    · intro name; rfl
    · intro p hp
      rcases List.mem_cons.mp hp with rfl | hp
      · exact ⟨hacc, Ne.symm hL.2.2, hD₀⟩
      · exact ⟨old _ _ (N p hp).1, (N p hp).2⟩
  exact codeAny_compStart_list (loop _ rfl) (W.self 0 _ _ _ hst₁ (loop _ rfl))

/-- what a comprehension's source must give, if its variable is a cell and its turns are over a list of the ledger -/
def CellSrc (prog : Program) (w : World) (A : Around) (h₀ : Heap) (L : Addr) (m : Str → Option Value) (env : Env) (elt : PySem.Expr) (x y : Str) (scope : Scope) (cl : List (Str × Addr)) (Q : Flow → Shared → Prop) (xv : Value) (s₁ : Shared) : Prop :=
  ∃ (ax : Addr) (vs : List Value) (k : Nat) (news : List (Addr × Obj)) (Inv : Nat → List Value → List (Addr × Obj) → Prop), xv = .ref ax ∧ A.handled = none ∧ Fr h₀ L s₁.heap m ∧ News h₀ L s₁.heap news ∧ (ax, ({ cls := .type "list", data := .seq vs.toArray k } : Obj)) ∈ news ∧ vs.length ≤ sizeLine ∧ Inv 0 [] news ∧
    (∀ i ys nw, Inv i ys nw → (ax, ({ cls := .type "list", data := .seq vs.toArray k } : Obj)) ∈ nw) ∧
    (∀ g i ys news v I oI C oC c oc D h tk (E' : Value → Shared → Prop), vs[i]? = some v → Inv i ys news → LCg.NsObj oC (fun _ => none) → oc.data = .cell (some v) → Fr h₀ L h m → News h₀ L h ((I, oI) :: (C, oC) :: (c, oc) :: (D, LCg.lst ys) :: news) →
      (∀ p ∈ news, p.1 ≠ I ∧ p.1 ≠ C ∧ p.1 ≠ c ∧ p.1 ≠ D) → ((@Ne Nat I C) ∧ (@Ne Nat I c) ∧ (@Ne Nat I D) ∧ (@Ne Nat C c) ∧ (@Ne Nat C D) ∧ (@Ne Nat c D)) →
      wpAny (model prog w) A (eval elt (compEnvC scope ((x, c) :: cl) C env)) (CellEnd h₀ L m { { s₁ with heap := g } with heap := h, toks := tk } I C c D oI oC oc (LCg.lst ys) (fun y news' => Inv (i + 1) (ys ++ [y]) news')) E' { { s₁ with heap := g } with heap := h, toks := tk }) ∧
    (∀ g ys news, Inv vs.length ys news → ∀ D h tk, Fr h₀ L h (fun z => if z = y then some (.ref D) else m z) → News h₀ L h ((D, LCg.lst ys) :: news) → (∀ p ∈ news, p.1 ≠ D) → Q .next { { s₁ with heap := g } with heap := h, toks := tk })

theorem Assign_CellComp {s : Shared} {elt iter : PySem.Expr} {x y : Str} {px py : Pos} {scope : Scope} {cl : List (Str × Addr)} {pos spos : Pos} {Q : Flow → Shared → Prop} (_F₀ : Fr h₀ L s.heap m) (hLe : env.locals = L)
    (hsw : swapsWith (.ListComp elt [⟨.Name x px, iter, [], 0⟩] scope pos) (some (.Name y py)) spos.line env = pure true)
    (hclos : closureFor scope env = pure cl) (hpc : ∀ H : Heap, pushCells H scope.names = H.push (cellObj none)) (hcf : ∀ n, cellsFrom n scope.names cl = (x, n) :: cl) (hkind : scope.kind = .function) (hkx : ∀ C c, (compEnvC scope ((x, c) :: cl) C env).kindOf x = some .cell)
    (hnames : ∀ z ∈ scope.names, z.2 = .local → scope.names.lookup z.1 = some .local)
    (hy : env.kindOf y = some .local) (hp : (env.scope.kind == .class || (env.scope.kind == .module && env.locals != env.globals)) = false)
    (h : wpAny (model prog w) A (eval iter env) (CellSrc prog w A h₀ L m env elt x y scope cl Q) E s)
    (hs : ∀ x, foldedSetIterable iter env x = pure x := by intro _; rfl) :
    wpAny (model prog w) A (exec (.Assign [.Name y py] (.ListComp elt [⟨.Name x px, iter, [], 0⟩] scope pos) spos) env) Q E s := by
  subst hLe
  rw [exec_Assign_Name_used _ _ _ _ hsw]
  refine wpAny_bind (wpAny_standAt (wpAny_bind ?_))
  show wpAny _ A (do let _ ← comprehension (.ListComp elt [⟨.Name x px, iter, [], 0⟩] scope pos) scope env _ (newList []) false (eval iter env) (some (assign (.Name y py) env))) _ _ s
  refine wpAny_bind (wpAny_mono (wpAny_comprehension_free (use := some (assign (.Name y py) env)) (Q := fun _ s' => Q .next s') rfl hs hclos hkind hnames
    (wpAny_mono h (fun xv s₁ h₁ => ?_) fun _ _ e => e)) (fun _ s' hq => wpAny_pure (wpAny_pure hq)) fun _ _ e => e)
  obtain ⟨ax, vs, k, news, Inv, rfl, hh, F, N, hm, hsz, h0, hIS, hstep, hdone⟩ := h₁
  have hl : s₁.heap.IsList ax vs.toArray := ⟨_, (N _ hm).1, rfl, _, rfl⟩
  have hlt : ax < s₁.heap.objs.size := by obtain ⟨_, e, _⟩ := hl; exact Heap.lt_size e
  refine wpAny_pyIter_list hl ?_
  have up : ∀ b o, s₁.heap.get? b = some o → (s₁.heap.push { cls := .type "list_iterator", data := .fields #[.ref ax, .int 0 0] }).get? b = some o := fun b o e => Heap.get?_push_of_some _ e
  have hsv : vs.toArray.size = vs.length := by simp
  refine block_C Inv (S := LCg.SrcAt h₀ ax vs.toArray) (Walks.list hh s₁.heap.objs.size ax (Nat.ne_of_lt hlt) vs.toArray) (by rw [hsv]; exact hsz) (fun i h st => by obtain ⟨o, e, _⟩ := st.1; exact ⟨o, e⟩) LCg.list_st (fun i ys nw q => .inr ⟨_, hIS i ys nw q, rfl, _, rfl⟩) hpc hcf hkind hkx ⟨⟨_, Heap.get?_push_size _ rfl, rfl, rfl⟩, hl.push _⟩ (fun b hb => ?_)
      (F.keeps up) (N.grown up) (Nat.ne_of_lt F.ns.lt) (next_is_new F) (fun p hp => Nat.ne_of_lt (Heap.lt_size (N p hp).1)) h0 ?_ ?_
  · show b < (s₁.heap.push _).objs.size
    rw [Heap.size_push]
    rcases List.mem_cons.mp hb with rfl | hb
    · exact Nat.lt_succ_self _
    · rw [List.mem_singleton.mp hb]; exact Nat.lt_succ_of_lt hlt
  · intro i ys nw v oI C oC c oc D h tk E' hi hv hI hN hc F N off ne
    exact hstep _ i ys nw v _ oI C oC c oc D h tk E' (by simpa using hv) hI hN hc F N off ne
  · intro D C h' tk m' ys news' F' N' o1 hn hC₀ hD₀ hCL hDL hCD offC fin
    show wpAny _ A (assign (.Name y py) env (.ref D)) _ _ _
    refine wpAny_assign_Name (wpAny_storeName_local hy F'.ns (fun h₂ hn₂ hs₂ => ?_) hp)
    have hL₀ : h₀.get? env.locals = none := Heap.get?_none_of_le F'.above
    have F₂ : Fr h₀ env.locals h₂ (fun z => if z = y then some (.ref D) else m z) := ⟨hn₂, fun b o e => hs₂.extBut b o (fun q => by rw [q, hL₀] at e; cases e) (F'.keep b o e), F'.above⟩
    refine ⟨m', hn.sameBut hs₂ hCL, fun h'' hs'' => hdone s₁.heap ys news' (by rw [← hsv]; exact fin) D h'' _ (F₂.change hs'' hCL hC₀) (fun p hp => ?_) o1⟩
    have z : h₂.get? p.1 = some p.2 := hs₂.extBut _ _ (N' p hp).2.1 (N' p hp).1
    refine ⟨hs''.extBut _ _ ?_ z, (N' p hp).2⟩
    rcases List.mem_cons.mp hp with rfl | hp
    · exact Ne.symm hCD
    · exact offC p hp
end
end Mine
end
section
open PySem PySem.W PyProof.Rows PySem.Calls PySem.Spec
set_option Elab.async false
set_option maxRecDepth 100000
set_option maxHeartbeats 4000000
namespace Mine
theorem slot_lstrip : Slot "bytes" "lstrip" "bytes.lstrip" :=
  .of (owner := "bytes") (n := "lstrip") (by rw [typeLookup_type, builtinLookup_eq_fast]; kernel_rfl) (by decide +kernel) (by decide +kernel) (by decide +kernel)
    (by first | exact .inl (by decide +kernel) | exact .inr (by decide +kernel)) (by rw [isSubtype_type]; kernel_rfl)
theorem type_lstrip : typeOf (.builtin "bytes.lstrip") = pure (.type "method_descriptor") := by show builtinType _ = _; rw [builtinType_eq_fast]; kernel_rfl
theorem entry_lstrip : entryFor table "bytes.lstrip" = some Builtin.«bytes.lstrip» := entryFor_of_tree (by kernel_rfl)
theorem args_lstrip (a b : Value) : argsOk "bytes.lstrip" ⟨[a, b], []⟩ := by
  unfold argsOk; rw [signature?_of (id := "bytes.lstrip") (n := ['p', 'i', 'r', 't', 's', 'l']) (o := ['s', 'e', 't', 'y', 'b']) (by kernel_rfl) FB.owner_bytes]; kernel_rfl
def lstripOf (b c : Array UInt8) : List UInt8 := b.toList.dropWhile fun x => c.contains x
theorem meets_lstrip {b c : Array UInt8} {t u : Tok} : Meets (Builtin.«bytes.lstrip» ⟨[.bytes b t, .bytes c u], []⟩) (fun _ R s => (lstripOf b c).length ≤ sizeLine ∧ ∀ t' k, R (.ok (.ret (.bytes (lstripOf b c).toArray t'))) { s with toks := k }) := by
  refine .of_wp fun prog w A R s hS => ?_
  obtain ⟨hsz, h⟩ := hS
  show wpAny _ _ (Builtin.Bytes.bytesLike _ (.bytes c u) >>= fun r => _) _ _ s
  refine wpAny_bind (wpAny_of_eq (a := c) (by unfold Builtin.Bytes.bytesLike; rw [KBy.buffer_eq]; rfl) ?_)
  show wpAny _ _ (Builtin.Bytes.payload (.bytes b t) >>= fun r => _) _ _ s
  refine wpAny_bind (wpAny_of_eq (a := b) rfl ?_)
  show wpAny _ _ (if (lstripOf b c).length == b.size then _ else _) _ _ s
  by_cases hc : (lstripOf b c).length = b.size
  · rw [if_pos (by simpa using hc)]
    refine wpAny_bind (wpAny_rule ?_)
    have e : (lstripOf b c).toArray = b := by
      have h1 : lstripOf b c <:+ b.toList := List.dropWhile_suffix _
      have h2 : lstripOf b c = b.toList := h1.eq_of_length (by rw [hc]; simp)
      rw [h2]
    rw [e] at h
    show wpAny _ _ (Builtin.Bytes.Kind.same .bytes (.bytes b t) >>= fun v => ret v) _ _ s
    refine wpAny_bind (wpAny_of_eq (a := .bytes b t) (by with_unfolding_all rfl) (wpAny_pure ⟨_, rfl, h t s.toks⟩))
  · rw [if_neg (by simpa using hc)]
    show wpAny _ _ (mkBytes (lstripOf b c).toArray >>= fun v => ret v) _ _ s
    exact wpAny_bind (wpAny_mkBytes (wpAny_pure ⟨_, rfl, h _ _⟩) (by simpa using hsz))
section
variable {prog : Program} {w : World} {A : Around} {E : Value → Shared → Prop} {s : Shared}
theorem lstrip_call {b c : Array UInt8} {t u : Tok} {Q : Value → Shared → Prop} (hsz : (lstripOf b c).length ≤ sizeLine) (h : ∀ t' k, Q (.bytes (lstripOf b c).toArray t') { s with toks := k }) :
    wpAny (model prog w) A (call (.builtin "bytes.lstrip") [.bytes b t, .bytes c u]) Q E s :=
  call_meets slot_lstrip (typeIs_bytes _ _ _) entry_lstrip (args_lstrip _ _) meets_lstrip ⟨hsz, h⟩
theorem lstrip_method {M : Model} {b : Array UInt8} {t : Tok} {pl : Sem Bool} {Q : Value × List Value → Shared → Prop} (h : Q (.builtin "bytes.lstrip", [.bytes b t]) s) : wpAny M A (getMethod (.bytes b t) "lstrip" pl) Q E s := by
  exact getMethod_builtin (typeIs_bytes _ _ _) FB.plainAttrs_bytes slot_lstrip type_lstrip (fun _ e => nomatch e) h
end
end Mine
end
section
open PySem PySem.W PyProof.Rows PySem.Calls PySem.Spec
set_option Elab.async false
set_option maxRecDepth 100000
set_option maxHeartbeats 4000000
set_option linter.unusedSimpArgs false
namespace Mine
section
variable {prog : Program} {w : World} {A : Around} {E : Value → Shared → Prop} {s : Shared} {h₀ : Heap} {L : Addr} {m : Str → Option Value} {env : Env}
def TupSrc (prog : Program) (w : World) (A : Around) (h₀ : Heap) (L : Addr) (m : Str → Option Value) (env : Env) (elt : PySem.Expr) (x : Str) (scope : Scope) (cl : List (Str × Addr)) (Q : Value → Shared → Prop) (xv : Value) (s₁ : Shared) : Prop :=
  ∃ (ax : Addr) (vs : List Value) (k : Nat) (news : List (Addr × Obj)) (Inv : Nat → List Value → List (Addr × Obj) → Prop), xv = .ref ax ∧ A.handled = none ∧ Fr h₀ L s₁.heap m ∧ News h₀ L s₁.heap news ∧ (ax, ({ cls := .type "tuple", data := .seq vs.toArray k } : Obj)) ∈ news ∧ vs.length ≤ sizeLine ∧ Inv 0 [] news ∧
    (∀ g i ys news v I oI C oC D m₂ h tk (E' : Value → Shared → Prop), vs[i]? = some v → Inv i ys news → LCg.NsObj oC m₂ → m₂ x = some v → Fr h₀ L h m → News h₀ L h ((I, oI) :: (C, oC) :: (D, LCg.lst ys) :: news) → LCg.Off3 I C D news → ((@Ne Nat I C) ∧ (@Ne Nat I D) ∧ (@Ne Nat C D)) →
      wpAny (model prog w) A (eval elt (compEnvC scope cl C env)) (LCg.CompEnd h₀ L m { { s₁ with heap := g } with heap := h, toks := tk } I oI C oC D (LCg.lst ys) (fun nw => (ax, ({ cls := .type "tuple", data := .seq vs.toArray k } : Obj)) ∈ nw) (fun y news' => Inv (i + 1) (ys ++ [y]) news')) E' { { s₁ with heap := g } with heap := h, toks := tk }) ∧
    (∀ g ys news, Inv vs.length ys news → ∀ D h tk, Fr h₀ L h m → News h₀ L h ((D, LCg.lst ys) :: news) → LCg.Off1 D news → Q (.ref D) { { s₁ with heap := g } with heap := h, toks := tk })

theorem ListComp_T {elt iter : PySem.Expr} {x : Str} {px : Pos} {scope : Scope} {cl : List (Str × Addr)} {pos : Pos} {Q : Value → Shared → Prop} (_F₀ : Fr h₀ L s.heap m)
    (hclos : closureFor scope env = pure cl) (hcell : ∀ y ∈ scope.names, y.2 ≠ .cell) (hkind : scope.kind = .function)
    (hnames : ∀ y ∈ scope.names, y.2 = .local → scope.names.lookup y.1 = some .local) (hx : scope.names.lookup x = some .local)
    (h : wpAny (model prog w) A (eval iter env) (TupSrc prog w A h₀ L m env elt x scope cl Q) E s)
    (hs : ∀ x, foldedSetIterable iter env x = pure x := by intro _; rfl) :
    wpAny (model prog w) A (eval (.ListComp elt [⟨.Name x px, iter, [], 0⟩] scope pos) env) Q E s := by
  rw [eval_ListComp]
  refine wpAny_comprehension_free (use := none) rfl hs hclos hkind hnames (wpAny_mono h (fun xv s₁ h₁ => ?_) fun _ _ e => e)
  obtain ⟨ax, vs, k, news, Inv, rfl, hh, F, N, hm, hsz, h0, hstep, hdone⟩ := h₁
  have hl : s₁.heap.IsTuple ax vs.toArray := ⟨_, (N _ hm).1, rfl, _, rfl⟩
  have hlt : ax < s₁.heap.objs.size := Heap.lt_size (N _ hm).1
  have hsv : vs.toArray.size = vs.length := by simp
  refine wpAny_pyIter_tuple hl ?_
  refine LCg.block_U (S := fun nw => (ax, ({ cls := .type "tuple", data := .seq vs.toArray k } : Obj)) ∈ nw) (Walks.tuple hh s₁.heap.objs.size ax (Nat.ne_of_lt hlt) vs.toArray) (by rw [hsv]; exact hsz) (fun i h st => by obtain ⟨o, e, _⟩ := st.1; exact ⟨o, e⟩)
    (fun i h h' o nw st e e' kp N' S' => ⟨by obtain ⟨o', q, r⟩ := st.1; rw [e] at q; cases q; exact ⟨o, e', r⟩, ⟨_, (N' _ S').1, rfl, _, rfl⟩⟩) hcell hkind hx ⟨⟨_, Heap.get?_push_size _ rfl, rfl, rfl⟩, hl.at fun o e => Heap.get?_push_of_some _ e⟩ (fun b hb => ?_)
      (F.keeps fun b o e => Heap.get?_push_of_some _ e) (N.grown fun b o e => Heap.get?_push_of_some _ e) (Nat.ne_of_lt F.ns.lt) (next_is_new F) (fun p hp => Nat.ne_of_lt (Heap.lt_size (N p hp).1)) hm
      (Fin := fun ys nw => Inv vs.length ys nw) ?_ ?_
  · show b < (s₁.heap.push _).objs.size
    rw [Heap.size_push]
    rcases List.mem_cons.mp hb with rfl | hb
    · exact Nat.lt_succ_self _
    · rw [List.mem_singleton.mp hb]; exact Nat.lt_succ_of_lt hlt
  · rw [hsv]
    refine comp_ind Inv ?_ ?_ vs.length 0 rfl _ _ h0
    · rintro i ys news v I oI C oC D m₂ h tk E' hi hP hI hN hx F N o1 o2
      exact hstep _ i ys news v I oI C oC D m₂ h tk E' (by simpa using hP) hI hN hx F N o1 o2
    · exact fun ys news hI => hI
  · intro D C h tk m' ys news' F' N' o1 hn hC₀ hD₀ hCL hDL hCD offC fin
    refine ⟨m', hn, fun h'' hs'' => hdone s₁.heap ys news' fin D h'' tk (F'.change hs'' hCL hC₀) (fun p hp => ?_) o1⟩
    refine ⟨hs''.extBut _ _ ?_ (N' p hp).1, (N' p hp).2⟩
    rcases List.mem_cons.mp hp with rfl | hp
    · exact Ne.symm hCD
    · exact offC p hp
end
end Mine
end
section
open PySem PySem.W PyProof.Rows PySem.Calls PySem.Spec
set_option Elab.async false
set_option maxRecDepth 100000
set_option maxHeartbeats 4000000
namespace Mine
theorem end_none (ns : List Int) (cls : ExcName) : PySem.Challenge.rw_kl0305_01.row.claim.raises [ofPy (PyData.list (List.map PyData.int ns))] cls = false := raisesW_false (by wrow_none_raised) cls
theorem end_post (ns : List Int) : PySem.Challenge.rw_kl0305_01.row.claim.post [ofPy (PyData.list (List.map PyData.int ns))] (.bool true) [ofPy (PyData.list (List.map PyData.int ns))] = true := by wrow_post
end Mine
end
section
open PySem PySem.W PyProof.Rows PySem.Calls PySem.Spec
set_option Elab.async false
set_option maxRecDepth 100000
set_option maxHeartbeats 4000000
namespace Mine
theorem ints_succ {ys : List Value} {cs : List Int} {n : Nat} (h : IntsAre ys cs) (hl : cs.length = n + 1) : ∃ c t zs ds, ys = Value.int c t :: zs ∧ cs = c :: ds ∧ IntsAre zs ds ∧ ds.length = n := by
  cases h with
  | nil => cases hl
  | cons c t h => exact ⟨c, t, _, _, rfl, rfl, h, Nat.succ.inj hl⟩
theorem ints_zero {ys : List Value} {cs : List Int} (h : IntsAre ys cs) (hl : cs.length = 0) : ys = [] ∧ cs = [] := by
  cases h with
  | nil => exact ⟨rfl, rfl⟩
  | cons c t h => cases hl
theorem ints_cons {ys : List Value} {c : Int} {cs : List Int} (h : IntsAre ys (c :: cs)) : ∃ t zs, ys = Value.int c t :: zs ∧ IntsAre zs cs := by
  cases h with
  | cons _ t h => exact ⟨t, _, rfl, h⟩
theorem ints_nil {ys : List Value} (h : IntsAre ys []) : ys = [] := by cases h; rfl
section
variable {nx : List (Addr × Obj)} {v : Value} {vs : List Value} {d d1 d2 d3 : Dat} {ds : List Dat}
theorem dats_cons (h : DatAll nx vs (d :: ds)) : ∃ v ws, vs = v :: ws ∧ DatIn nx v d ∧ DatAll nx ws ds := by
  cases h with
  | cons h1 h => exact ⟨_, _, rfl, h1, h⟩
theorem dats_nil (h : DatAll nx vs []) : vs = [] := by cases h; rfl
theorem dats2 (h : DatAll nx vs [d1, d2]) : ∃ v1 v2, vs = [v1, v2] ∧ DatIn nx v1 d1 ∧ DatIn nx v2 d2 := by
  obtain ⟨v1, w1, e1, h1, h⟩ := dats_cons h
  obtain ⟨v2, w2, e2, h2, h⟩ := dats_cons h
  exact ⟨v1, v2, by rw [e1, e2, dats_nil h], h1, h2⟩
theorem dats3 (h : DatAll nx vs [d1, d2, d3]) : ∃ v1 v2 v3, vs = [v1, v2, v3] ∧ DatIn nx v1 d1 ∧ DatIn nx v2 d2 ∧ DatIn nx v3 d3 := by
  obtain ⟨v1, w1, e1, h1, h⟩ := dats_cons h
  obtain ⟨v2, v3, e2, h2, h3⟩ := dats2 h
  exact ⟨v1, v2, v3, by rw [e1, e2], h1, h2, h3⟩
theorem dat_int {n : Int} (h : DatIn nx v (.int n)) : ∃ t, v = .int n t := by
  cases h with
  | int n t => exact ⟨t, rfl⟩
theorem dat_tuple (h : DatIn nx v (.tuple ds)) : ∃ a ws n, v = .ref a ∧ (a, ({ cls := .type "tuple", data := .seq ws.toArray n } : Obj)) ∈ nx ∧ DatAll nx ws ds := by
  cases h with
  | tuple hm hd => exact ⟨_, _, _, rfl, hm, hd⟩
theorem dat_list (h : DatIn nx v (.list ds)) : ∃ a ws n, v = .ref a ∧ (a, listOf ws.toArray n) ∈ nx ∧ DatAll nx ws ds := by
  cases h with
  | list hm hd => exact ⟨_, _, _, rfl, hm, hd⟩
end
theorem ints3 {nx : List (Addr × Obj)} {vs : List Value} {p q r : Int} (h : DatAll nx vs [.int p, .int q, .int r]) : ∃ t u w, vs = [.int p t, .int q u, .int r w] := by
  obtain ⟨v1, v2, v3, e, h1, h2, h3⟩ := dats3 h
  obtain ⟨t, e1⟩ := dat_int h1
  obtain ⟨u, e2⟩ := dat_int h2
  obtain ⟨w, e3⟩ := dat_int h3
  exact ⟨t, u, w, by rw [e, e1, e2, e3]⟩
theorem goal_any {M : Model} {A : Around} {α : Type} {t : Sem α} {Q : α → Shared → Prop} {E : Value → Shared → Prop} {s : Shared} (h : ∀ Q' E', (∀ v s', Q v s' → Q' v s') → (∀ e s', E e s' → E' e s') → wpAny M A t Q' E' s) : wpAny M A t Q E s := h Q E (fun _ _ h => h) (fun _ _ h => h)
/-- a fact that omega does not read -/
def Hid (P : Prop) : Prop := P
theorem Hid.mk {P : Prop} (h : P) : Hid P := h
theorem Hid.of {P : Prop} (h : Hid P) : P := h
end Mine
end
section
open PySem PySem.W PyProof.Rows PySem.Calls PySem.Spec Mine
local macro_rules | `(tactic| k_all) => `(tactic| kd_allNe)
local macro_rules | `(tactic| walk_at "pyIter ref") => `(tactic| ((rename Halt => hHalt9); refine Stop.mk ?_))
local macro_rules | `(tactic| walk_at "call builtin:list.append") => `(tactic| (k_here; (with_reducible show wpAny _ _ (call (Value.builtin _) [Value.ref _, _]) _ _ _); k_dflt (refine' append_K ?k1 ?k2 ?k3 ?_ ?z; (case k1 => k_asm); (case k2 => k_asm); (case k3 => k_upd); (case z => (simp only [List.size_toArray, PySem.sizeLine_eq]; omega)); k_whole); intro h' F' N'))
local macro_rules | `(tactic| walk_at "exec For Tuple Name cons nil") => `(tactic| ((rename Halt => hHalt9); k_here; (rename Fr _ _ _ _ => lF'); (with_unfolding_all refine' For_turns lF' ?_; k_whole)))
local macro_rules | `(tactic| walk_at "exec For Name Name cons nil") => `(tactic| ((rename Halt => hHalt9); k_here; (rename Fr _ _ _ _ => lF'); (with_unfolding_all refine' For_turns lF' ?_; k_whole)))
local macro_rules | `(tactic| walk_at "exec For Name Subscript cons nil") => `(tactic| ((rename Halt => hHalt9); k_here; (rename Fr _ _ _ _ => lF'); (with_unfolding_all refine' For_turns lF' ?_; k_whole)))
local macro_rules | `(tactic| walk_at "inplaceOp Add ref") => `(tactic| ((rename Halt => hHalt9); k_here; (with_reducible show wpAny _ _ (inplaceOp Operator.Add (Value.ref _) (Value.ref _)) _ _ _); k_dflt (refine' iadd_K ?k1 ?k2 ?k3 ?k4 ?_ ?z; (case k1 => k_asm); (case k2 => k_asm); (case k3 => k_mem); (case k4 => k_upd); (case z => (simp only [List.length_cons, List.length_nil, List.length_append, PySem.sizeLine_eq]; omega)); k_whole); intro h' F' N'))
local macro_rules | `(tactic| walk_at "eval ListComp") => `(tactic| ((rename Halt => hHalt9); k_here; k_dflt (refine LCg.ListComp_U (F₀ := by k_asm) (by with_unfolding_all rfl) (by decide) (by rfl) (by decide) (by rfl) ?_)))
local macro_rules | `(tactic| walk_at "CompSrc") => `(tactic| ((rename Halt => hHalt9); refine Stop.mk ?_))
local macro_rules | `(tactic| walk_at "getAttr ref") => `(tactic| (k_here; (with_reducible show wpAny _ _ (getAttr (Value.ref _) (Str.ofString "append") true) _ _ _); k_dflt (refine' bound_new ?F ?N ?l ?_; (case F => k_asm); (case N => k_asm); (case l => k_mem); k_whole); intro q' h' tk' F' N' l1; (try k_lt l1)))
local macro_rules | `(tactic| walk_at "call ref") => `(tactic| (k_here; (with_reducible show wpAny _ _ (call (Value.ref _) [_]) _ _ _); k_dflt (refine' bound_call ?F ?N ?q ?U ?_ ?z; (case F => k_asm); (case N => k_asm); (case q => k_mem); (case U => k_upd); (case z => (simp only [List.length_append, List.length_cons, List.length_nil, PySem.sizeLine_eq]; omega)); k_whole); intro h' F' N'))
local macro_rules | `(tactic| k_room) => `(tactic| ktr_room)
local macro_rules | `(tactic| walk_at "callWith ref") => `(tactic| (k_here; k_dflt (refine' callWith_B ?N ?q ?_; (case N => k_asm); (case q => k_mem); k_whole)))
local macro_rules | `(tactic| walk_at "And") => `(tactic| (refine' And.intro ?a ?_; (case a => (refine' news_get ?N ?q; (case N => k_asm); (case q => k_mem))); k_whole))
section
open PySem PySem.W PyProof.Rows PySem.Calls PySem.Spec
set_option Elab.async false
set_option maxRecDepth 100000
set_option maxHeartbeats 8000000
namespace Mine


def rng (lo : Int) (k : Nat) : List Int := (List.range k).map fun (j : Nat) => lo + (j : Int)
theorem rng_succ (lo : Int) (k : Nat) : rng lo (k + 1) = rng lo k ++ [lo + (k : Int)] := by simp [rng, List.range_succ]
theorem rng_zero (lo : Int) : rng lo 0 = [] := rfl
theorem rng_length (lo : Int) (k : Nat) : (rng lo k).length = k := by simp [rng]
def lowQ (b p : Int) : Int := if p + 1 > b then p + 1 else b
def qsOf (b c p : Int) : List Int := rng (lowQ b p) (c + 1 - lowQ b p).toNat
def pairsOf (a b c : Int) (k : Nat) : List (Int × Int) := (rng a k).flatMap fun p => (qsOf b c p).map fun q => (p, q)
theorem pairsOf_succ (a b c : Int) (k : Nat) : pairsOf a b c (k + 1) = pairsOf a b c k ++ (qsOf b c (a + (k : Int))).map fun q => (a + (k : Int), q) := by simp [pairsOf, rng_succ]
def datPair (p : Int × Int) : Dat := .tuple [.int p.1, .int p.2]

theorem pairs_con (w : World) (rA : Addr) (a b c : Int) (ta tb tc : Tok) (n : Nat) (rest : List (Addr × Obj)) (h1 : 0 ≤ a) (h2 : a < b) (h3 : b < c) (h4 : c ≤ 8) :
    Con w 204 ((rA, listOf [.int a ta, .int b tb, .int c tc].toArray n) :: rest) [.ref rA]
      (fun nx r => ∃ pA vs k, r = .ref pA ∧ (pA, listOf (List.toArray vs) k) ∈ nx ∧ DatAll nx vs ((pairsOf a b c (b + 1 - a).toNat).map datPair)) := by
  intro dp un gd cn cs aa ccd cl outer A₀ base h₀ L m mg mb mean loose s Q E B F X N T hk hd hu hret
  w_top off
  have hHalt := halt
  refine wpAny_call ?_
  k_dflt (refine' code_def (binds := [(Str.ofString "row", .ref rA)]) ?k1 ?k2 ?k3 ?k4 ?k5 ?kA ?kF ?kK ?k6 ?k7 ?k8 ?k9 ?kB ?_ ?c2 ?c3 ?c4 ?c5; (case kA => exact rfl); (case kF => exact rfl); (case kK => assumption); (case k1 => k_asm); (case k2 => k_asm); (case k3 => k_asm); (case k4 => k_asm); (case k5 => k_asm); (case k6 => k_is); (case k7 => k_is); (case k8 => ktr_room); (case k9 => exact BindsTo.of_eq rfl); (case c5 => decide); (case kB => exact locs rfl); (case c2 => exact rfl); (case c3 => exact rfl); (case c4 => exact rfl); k_whole; intro g' L' h' FG' F' N' B' X' T'; (try dsimp only); (try k_lift B'); (try k_fold))
  k_steps
  rename IsRange _ _ _ _ _ _ _ _ => hR
  rename Fr _ _ _ _ => FR
  rename News _ _ _ _ => NR
  obtain ⟨l', rfl⟩ := nm0 NR
  rename _ ∧ AllLt _ _ => hlt
  change IsRange _ _ a (b + 1) 1 _ _ _ at hR
  refine Stop.of (range_loop (fun (st : List Value × Nat) => [(l', listOf (List.toArray st.1) st.2), (rA, listOf [.int a ta, .int b tb, .int c tc].toArray n)]) (fun _ => []) [Str.ofString "p", Str.ofString "q"]
    (fun I i st tl => OwnOff tl [l', I] ∧ below l' I ∧ below rA l' ∧ (∀ p ∈ rest, p ∈ tl) ∧ st.1.length ≤ 9 * i ∧ DatAll tl st.1 ((pairsOf a b c i).map datPair)) ([], 0) rest rfl hR FR NR ?_ ?_ ?_ ?_ ?_ ?_ ?_ ?_ ?_ ?_)
  · kst_anyIn
  · intro p hp; cases hp
  · decide
  · omega
  · omega
  · omega
  · omega
  · rintro I ⟨hI1, hI2, hI3⟩
    refine ⟨off_add (off_lt hlt.2) (off_add (off_lt hI3) off_nil), ?_, ?_, fun _ h => h, ?_, ?_⟩
    · exact hI1
    · exact hlt.1
    · simp
    · exact .nil
  · intro I i cc9a tl hi cc9b t u h tk o F₁ N₁ P9 hP9
    obtain ⟨vs, k⟩ := cc9a
    obtain ⟨o1, o2, o3, o6, o4, o5⟩ := cc9b
    dsimp only [names, kstB, List.cons_append, List.nil_append] at F₁ N₁ o4 o5
    k_steps
    rename IsRange _ _ _ _ _ _ _ _ => hR2
    rename Fr _ _ _ _ => FR2
    rename News _ _ _ _ => NR2
    change IsRange _ _ (lowQ b (a + i)) (c + 1) 1 _ _ _ at hR2
    have hlow : b ≤ lowQ b (a + i) ∧ lowQ b (a + i) ≤ b + 1 := by unfold lowQ; split <;> omega
    refine Stop.of (range_loop (fun (st : List Value × Nat) => [(l', listOf (List.toArray st.1) st.2), (I, o), (rA, listOf [.int a ta, .int b tb, .int c tc].toArray n)]) (fun _ => []) [Str.ofString "q"]
      (fun I2 j st tl2 => OwnOff tl2 [l', I, I2] ∧ below I I2 ∧ (∀ p ∈ tl, p ∈ tl2) ∧ st.1.length ≤ 9 * i + j ∧ DatAll tl2 st.1 ((pairsOf a b c i).map datPair ++ (rng (lowQ b (a + i)) j).map fun q => datPair (a + i, q))) (vs, k) tl rfl hR2 FR2 NR2 ?_ ?_ ?_ ?_ ?_ ?_ ?_ ?_ ?_ ?_)
    · kst_anyIn
    · intro p hp; cases hp
    · decide
    · omega
    · omega
    · omega
    · omega
    · rintro J ⟨j1, j2, j3, j4⟩
      refine ⟨off_add (off_at o1 (by simp)) (off_add (off_at o1 (by simp)) (off_add (off_lt j4) off_nil)), j1, fun _ h => h, ?_, ?_⟩
      · simp; omega
      · simp only [rng_zero, List.map_nil, List.append_nil]
        exact o5
    · intro I2 j cc9a tl2 hj cc9b t2 u2 h2' tk2 o2' F₂ N₂ P8 hP8
      obtain ⟨vs2, k2⟩ := cc9a
      obtain ⟨p1, p2, p6, p4, p5⟩ := cc9b
      dsimp only [names, kstB, List.cons_append, List.nil_append] at F₂ N₂ p4 p5
      k_steps
      rename Fr _ _ _ _ => FR2
      rename News _ _ _ _ => NR2
      rename _ ∧ _ ∧ _ ∧ _ ∧ AllLt _ _ => hlt2
      simp only [List.push_toArray] at NR2
      obtain ⟨D, rfl⟩ := nm0 NR2
      obtain ⟨q, hq⟩ := head_of NR2
      refine hP8 _ _ (LPost.next (vs2 ++ [.ref D], k2 + 1) (q :: tl2) FR2 NR2 ?_ ?_ ?_ ?_ ?_ ?_)
      · simp
      · subst hq; kst_anyIn
      · subst hq
        simp only [List.forall_mem_cons, List.cons_append, List.nil_append]
        exact ⟨by k_ne, by k_ne, by k_ne, by k_ne, off_at p1 (by simp)⟩
      · intro p hp; cases hp
      · (intro z hz1 hz2; first | rfl | ((simp only [List.contains_cons, List.contains_nil, Bool.or_false, Bool.or_eq_false_iff, beq_eq_false_iff_ne, ne_eq] at hz2); (try simp only [List.forall_mem_cons, List.not_mem_nil, false_implies, implies_true, and_true, ne_eq] at hz1); (simp [hz1, hz2]; done)))
      · refine ⟨off_cons ?_ p1, p2, fun p hp => List.mem_cons_of_mem _ (p6 p hp), ?_, ?_⟩
        · subst hq; (repeat' (first | exact List.forall_mem_nil _ | (refine List.forall_mem_cons.mpr ⟨by k_ne, ?_⟩)))
        · simp; omega
        · simp only [rng_succ, List.map_append, ← List.append_assoc]
          refine DatAll.append (DatAll.mono (fun p hp => List.mem_cons_of_mem _ hp) p5) ?_
          refine DatAll.one (DatIn.tuple (n := _) (by subst hq; exact List.Mem.head _) ?_)
          exact .cons (.int _ _) (.cons (.int _ _) .nil)
    · rintro I2 ⟨vs2, k2⟩ tl2 ⟨p1, p2, p6, p4, p5⟩ u2 h2' tk2 F₂ N₂
      dsimp only [names, kstB, List.cons_append, List.nil_append] at F₂ N₂ p4 p5
      k_steps
      refine hP9 _ _ (LPost.next (vs2, k2) tl2 F₂ N₂ ?_ ?_ ?_ ?_ ?_ ?_)
      · simp
      · kst_anyIn
      · simp only [List.forall_mem_cons, List.cons_append, List.nil_append]
        exact ⟨by k_ne, by k_ne, off_at p1 (by simp)⟩
      · intro p hp; cases hp
      · (intro z hz1 hz2; first | rfl | ((simp only [List.contains_cons, List.contains_nil, Bool.or_false, Bool.or_eq_false_iff, beq_eq_false_iff_ne, ne_eq] at hz2); (try simp only [List.forall_mem_cons, List.not_mem_nil, false_implies, implies_true, and_true, ne_eq] at hz1); (simp [hz1, hz2]; done)))
      · refine ⟨off_sub p1 (by simp), o2, o3, fun p hp => p6 p (o6 p hp), ?_, ?_⟩
        · simp; omega
        · rw [pairsOf_succ, List.map_append, List.map_map]
          exact p5
  · rintro I ⟨vs, k⟩ tl ⟨o1, o2, o3, o6, o4, o5⟩ u h tk F₁ N₁
    dsimp only [names, kstB, List.cons_append, List.nil_append] at F₁ N₁ o4 o5
    k_steps
    rename Fr _ _ _ _ => FR3
    rename News _ _ _ _ => NR3
    refine hret _ ((l', listOf (List.toArray vs) k) :: tl) h tk FR3 ?_ ?_
    · intro p hp
      rcases List.mem_append.mp hp with hp | hp
      · exact NR3 p (by simp at hp ⊢; rcases hp with h | h <;> simp [h])
      · exact NR3 p (by simp at hp ⊢; rcases hp with h | h <;> simp [h, o6 p])
    · refine ⟨l', vs, k, rfl, by simp, ?_⟩
      exact DatAll.mono (fun p hp => by simp [hp]) o5
end Mine
end
section
open PySem PySem.W PyProof.Rows PySem.Calls PySem.Spec
set_option Elab.async false
set_option maxRecDepth 100000
set_option maxHeartbeats 8000000
set_option linter.unusedSimpArgs false
namespace Mine



def datTri (e : Int × Int × Int) : Dat := .tuple [.int e.1, .int e.2.1, .int e.2.2]
def triOf (a b c : Int) (x : Int × Int) : List (Int × Int × Int) := [(a, x.1, b), (b, x.2, c)] ++ (rng x.1 (x.2 + 1 - x.1).toNat).map fun t => (x.1, t, x.2)
def entriesOf (a b c : Int) (xs : List (Int × Int)) : List (Int × Int × Int) := xs.flatMap (triOf a b c)

theorem datPair_in {nx : List (Addr × Obj)} {v : Value} {x : Int × Int} (h : DatIn nx v (datPair x)) : ∃ T k t u, v = .ref T ∧ (T, ({ cls := .type "tuple", data := .seq [.int x.1 t, .int x.2 u].toArray k } : Obj)) ∈ nx := by
  obtain ⟨T, ws, k, e, hm, hd⟩ := dat_tuple h
  obtain ⟨v1, v2, e0, h1, h2⟩ := dats2 hd
  obtain ⟨t, e1⟩ := dat_int h1
  obtain ⟨u, e2⟩ := dat_int h2
  rw [e0, e1, e2] at hm
  exact ⟨T, k, t, u, e, hm⟩

theorem entries_con (w : World) (rA pA : Addr) (a b c : Int) (ta tb tc : Tok) (n k : Nat) (vs : List Value) (xs : List (Int × Int)) (rest : List (Addr × Obj)) (hx : ∀ x ∈ xs, 0 ≤ x.1 ∧ x.1 ≤ x.2 ∧ x.2 ≤ 8) (hl : xs.length ≤ 100) (hD : DatAll rest vs (xs.map datPair)) :
    Con w 209 ((rA, listOf [.int a ta, .int b tb, .int c tc].toArray n) :: (pA, listOf (List.toArray vs) k) :: rest) [.ref rA, .ref pA]
      (fun nx r => ∃ eA es k, r = .ref eA ∧ (eA, listOf (List.toArray es) k) ∈ nx ∧ DatAll nx es ((entriesOf a b c xs).map datTri)) := by
  intro dp un gd cn cs aa ccd cl outer A₀ base h₀ L m mg mb mean loose s Q E B F X N T hk hd hu hret
  w_top off
  have hHalt := halt
  refine wpAny_call ?_
  k_dflt (refine' code_defC (binds := [(Str.ofString "row", .ref rA), (Str.ofString "pairs", .ref pA)]) ?k1 ?k2 ?k3 ?k4 ?k5 ?kA ?kF ?kK ?k6 ?k7 ?k8 ?k9 ?kB ?kD ?_ ?c2 ?c3 ?c4; (case kA => exact rfl); (case kF => exact rfl); (case kK => assumption); (case k1 => k_asm); (case k2 => k_asm); (case k3 => k_asm); (case k4 => k_asm); (case k5 => k_asm); (case k6 => k_is); (case k7 => k_is); (case k8 => ktr_room); (case k9 => exact BindsTo.of_eq rfl); (case kB => exact rfl); (case kD => decide +kernel); (case c2 => exact rfl); (case c3 => exact rfl); (case c4 => exact rfl); k_whole; intro g' L' h' tk' cells' FG' F' N' Y' B' X' T' l1; (try k_lt l1); k_cells Y'; (try simp only [List.cons_append, List.nil_append] at N'); (try dsimp only); (try k_lift B'); (try k_fold))
  k_steps
  rename Fr _ _ _ _ => FR
  rename News _ _ _ _ => NR
  obtain ⟨eA, rfl⟩ := nm0 NR
  obtain ⟨oq, rfl⟩ := no1 NR
  obtain ⟨op, rfl⟩ := no2 NR
  rename _ ∧ _ ∧ AllLt L' _ => hlt
  rename _ ∧ _ ∧ _ ∧ _ ∧ AllLt eA _ => l1e
  refine Stop.of (list_loop (fun (st : List Value × Nat × Obj × Obj) => [(eA, listOf (List.toArray st.1) st.2.1), (L' + 1 + 1, st.2.2.1), (L' + 1, st.2.2.2), (rA, listOf [.int a ta, .int b tb, .int c tc].toArray n), (pA, listOf (List.toArray vs) k)]) (fun _ => [(Str.ofString "entries", .ref eA)]) []
    (fun I i st tl => OwnOff tl [eA, L' + 1 + 1, L' + 1, I] ∧ below eA I ∧ (∃ v, st.2.2.1.data = .cell v) ∧ (∃ v, st.2.2.2.data = .cell v) ∧ (∀ p ∈ rest, p ∈ tl) ∧ st.1.length ≤ 11 * i ∧ DatAll tl st.1 ((entriesOf a b c (xs.take i)).map datTri)) ([], 0, oq, op) rest (n := k) (vs := vs) rfl (by k_mem) rfl rfl FR NR ?_ ?_ ?_ ?_ ?_ ?_)
  · kst_anyIn
  · intro p hp; rw [List.mem_singleton.mp hp]; rfl
  · rintro I ⟨i1, i2, i3, i4, i5, i6⟩
    refine ⟨off_add (off_lt l1e.2.2.2.2) (off_add ?_ (off_add ?_ (off_add (off_lt i6) off_nil))), i1, ⟨_, by assumption⟩, ⟨_, by assumption⟩, fun _ h => h, ?_, ?_⟩
    · exact fun p hp => Nat.ne_of_lt (Nat.lt_succ_of_lt (Nat.lt_succ_of_lt (allLt_mem hlt.2.2 p hp)))
    · exact fun p hp => Nat.ne_of_lt (Nat.lt_succ_of_lt (allLt_mem hlt.2.2 p hp))
    · simp
    · exact .nil
  · rintro I i ⟨es, ke, oq, op⟩ tl h
    simp
  · intro I i cc9a tl v hv cc9b u h tk o F₁ N₁ P9 hP9
    obtain ⟨es, ke, oq, op⟩ := cc9a
    obtain ⟨o1, o2, ⟨vq, o3⟩, ⟨vp, o4⟩, o5, o6, o7⟩ := cc9b
    have hi : i < xs.length := by
      have := hD.length
      have h2 := (List.getElem?_eq_some_iff.mp hv).1
      simp at this; omega
    obtain ⟨v', hv', hvD⟩ := hD.get (k := i) (by simpa using hi)
    have ev : v' = v := by rw [hv] at hv'; exact (Option.some.inj hv').symm
    subst ev
    simp only [List.getElem_map] at hvD
    have hxi := hx _ (List.getElem_mem hi)
    have hst : xs.take (i + 1) = xs.take i ++ [xs[i]] := by rw [List.take_add_one, List.getElem?_eq_getElem hi]; rfl
    generalize xs[i] = x at hvD hxi hst
    obtain ⟨x1, x2⟩ := x
    obtain ⟨T, kT, t1, t2, rfl, hT⟩ := datPair_in hvD
    dsimp only [names, kstB, List.cons_append, List.nil_append] at F₁ N₁ o3 o4 o6 o7 hxi hT
    have N₂ := news_add (o5 _ hT) N₁
    clear N₁
    have eT1 : apart T eA := o1 _ (o5 _ hT) _ (by simp)
    have eT2 : apart T (L' + 1 + 1) := o1 _ (o5 _ hT) _ (by simp)
    have eT3 : apart T (L' + 1) := o1 _ (o5 _ hT) _ (by simp)
    have eT4 : apart T I := o1 _ (o5 _ hT) _ (by simp)
    k_steps
    rename IsRange _ _ _ _ _ _ _ _ => hR2
    rename Fr _ _ _ _ => FR2
    rename News _ _ _ _ => NR2
    change IsRange _ _ x1 (x2 + 1) 1 _ _ _ at hR2
    obtain ⟨q1, hq1⟩ := ent1 NR2
    obtain ⟨q2, hq2⟩ := ent2 NR2
    obtain ⟨D2, rfl⟩ := nm1 NR2
    obtain ⟨D1, rfl⟩ := nm2 NR2
    rename _ ∧ _ ∧ _ ∧ _ ∧ _ ∧ _ ∧ _ ∧ AllLt D1 _ => lD1
    rename _ ∧ _ ∧ _ ∧ _ ∧ _ ∧ _ ∧ _ ∧ _ ∧ AllLt D2 _ => lD2
    obtain ⟨led, hled⟩ := led_of NR2
    obtain ⟨oq2, e1a, e1⟩ : ∃ o, (L' + 1 + 1, o) ∈ led ∧ o.data = .cell (some (Value.int x2 t2)) := ⟨_, by rw [hled]; k_mem, by assumption⟩
    obtain ⟨op2, e2a, e2⟩ : ∃ o, (L' + 1, o) ∈ led ∧ o.data = .cell (some (Value.int x1 t1)) := ⟨_, by rw [hled]; k_mem, by assumption⟩
    have hpick : ∀ p ∈ (eA, W.listOf (es ++ [Value.ref D1, Value.ref D2]).toArray (bumped es [Value.ref D1, Value.ref D2] ke)) :: (I, o) :: (L' + 1 + 1, oq2) :: (L' + 1, op2) :: (rA, listOf [.int a ta, .int b tb, .int c tc].toArray n) :: (pA, listOf (List.toArray vs) k) :: q2 :: q1 :: tl, p ∈ led := by
      simp only [List.forall_mem_cons]
      rw [hled] at e1a e2a ⊢
      exact ⟨by first | k_mem | simp, by first | k_mem | simp, e1a, e2a, by first | k_mem | simp, by first | k_mem | simp, by rw [hq2]; first | k_mem | simp, by rw [hq1]; first | k_mem | simp, fun p hp => by repeat (first | exact hp | apply List.Mem.tail)⟩
    have offA : OwnOff (q2 :: q1 :: tl) [eA, L' + 1 + 1, L' + 1, I] := by
      refine off_cons ?_ (off_cons ?_ o1)
      · rw [hq2]; (repeat' (first | exact List.forall_mem_nil _ | (refine List.forall_mem_cons.mpr ⟨by k_ne, ?_⟩)))
      · rw [hq1]; (repeat' (first | exact List.forall_mem_nil _ | (refine List.forall_mem_cons.mpr ⟨by k_ne, ?_⟩)))
    have datA : DatAll (q2 :: q1 :: tl) (es ++ [Value.ref D1, Value.ref D2]) ((entriesOf a b c (xs.take i)).map datTri ++ [datTri (a, x1, b), datTri (b, x2, c)]) := by
      refine DatAll.append (DatAll.mono (fun p hp => .tail _ (.tail _ hp)) o7) (.cons (DatIn.tuple (n := _) (by rw [hq2]; exact List.Mem.head _) ?_) (.cons (DatIn.tuple (n := _) (by rw [hq1]; exact List.Mem.tail _ (List.Mem.head _)) ?_) .nil))
      · exact .cons (.int _ _) (.cons (.int _ _) (.cons (.int _ _) .nil))
      · exact .cons (.int _ _) (.cons (.int _ _) (.cons (.int _ _) .nil))
    have leA : below eA D1 := lD1.2.2.1
    have leI : below I D1 := lD1.2.1
    have NR3 := NR2
    rw [← hled] at NR3
    refine Stop.of (comp_range (fun j ys nx => (∀ p ∈ led, p ∈ nx) ∧ ys.length = j ∧ ∃ tl2, (∀ p ∈ tl2, p ∈ nx) ∧ OwnOff tl2 [eA, L' + 1 + 1, L' + 1, I] ∧ DatAll tl2 ys ((rng x1 j).map fun t => datTri (x1, t, x2))) rfl hR2 FR2 NR3 ?_ ?_ ?_ ?_ ?_ ?_ ?_ ?_)
    · omega
    · omega
    · omega
    · omega
    · rw [sizeLine_eq]; omega
    · exact ⟨fun _ h => h, rfl, [], (by simp), (by intro p hp; cases hp), DatAll.nil⟩
    · rintro g j ys nx t3 I2 oI C oC D m₂ h3 tk3 E3 hj ⟨c0, c1, tl2, c2, c3, c4⟩ hNs hm2 F₃ N₃ off3 ⟨ne1, ne2, ne3⟩
      have N₄ : News g' L' h3 ((L' + 1 + 1, oq2) :: (L' + 1, op2) :: (I2, oI) :: (C, oC) :: (D, LCg.lst ys) :: nx) := by
        refine news_pick N₃ ?_
        simp only [List.forall_mem_cons]
        exact ⟨by repeat (first | exact c0 _ e1a | apply List.Mem.tail), by repeat (first | exact c0 _ e2a | apply List.Mem.tail), by k_mem, by k_mem, by k_mem, fun p hp => by repeat (first | exact hp | apply List.Mem.tail)⟩
      have hnx : ∀ p ∈ (eA, W.listOf (es ++ [Value.ref D1, Value.ref D2]).toArray (bumped es [Value.ref D1, Value.ref D2] ke)) :: (I, o) :: (L' + 1 + 1, oq2) :: (L' + 1, op2) :: (rA, listOf [.int a ta, .int b tb, .int c tc].toArray n) :: (pA, listOf (List.toArray vs) k) :: q2 :: q1 :: tl, p ∈ nx := fun p hp => c0 p (hpick p hp)
      clear N₃ NR2 NR3 hled
      k_steps
      rename Fr _ _ _ _ => F5
      rename News _ _ _ _ => N5
      rename _ ∧ _ ∧ _ ∧ _ ∧ _ ∧ AllLt _ nx => lD
      obtain ⟨q, hq⟩ := head_of N5
      obtain ⟨D5, rfl⟩ := nm0 N5
      have l5a : below eA D5 := allLt_mem lD.2.2.2.2.2 _ (hnx _ (List.mem_cons_self ..))
      have l5b : below I D5 := allLt_mem lD.2.2.2.2.2 _ (hnx _ (List.mem_cons_of_mem _ (List.mem_cons_self ..)))
      refine LCg.CompEnd.intro F5 N5 (q :: nx) ?_ ?_ trivial ?_
      · rw [hq]; kst_anyIn
      · exact ⟨by rw [hq]; refine ⟨by k_ne, by k_ne, by k_ne⟩, off3⟩
      · refine ⟨fun p hp => List.mem_cons_of_mem _ (c0 p hp), by simp [c1], q :: tl2, ?_, off_cons ?_ c3, ?_⟩
        · intro p hp
          rcases List.mem_cons.mp hp with rfl | hp
          · simp
          · exact List.mem_cons_of_mem _ (c2 p hp)
        · rw [hq]; (repeat' (first | exact List.forall_mem_nil _ | (refine List.forall_mem_cons.mpr ⟨by k_ne, ?_⟩)))
        · rw [rng_succ, List.map_append]
          refine DatAll.append (DatAll.mono (fun p hp => List.mem_cons_of_mem _ hp) c4) (DatAll.one (DatIn.tuple (n := _) (by rw [hq]; exact List.Mem.head _) ?_))
          exact .cons (.int _ _) (.cons (.int _ _) (.cons (.int _ _) .nil))
    · rintro g ys nx ⟨c0, c1, tl2, c2, c3, c4⟩ D h6 tk6 F6 N6 off6
      have hnx : ∀ p ∈ (eA, W.listOf (es ++ [Value.ref D1, Value.ref D2]).toArray (bumped es [Value.ref D1, Value.ref D2] ke)) :: (I, o) :: (L' + 1 + 1, oq2) :: (L' + 1, op2) :: (rA, listOf [.int a ta, .int b tb, .int c tc].toArray n) :: (pA, listOf (List.toArray vs) k) :: q2 :: q1 :: tl, p ∈ nx := fun p hp => c0 p (hpick p hp)
      have N7 : News g' L' h6 ((D, LCg.lst ys) :: (eA, W.listOf (es ++ [Value.ref D1, Value.ref D2]).toArray (bumped es [Value.ref D1, Value.ref D2] ke)) :: (I, o) :: (L' + 1 + 1, oq2) :: (L' + 1, op2) :: (rA, listOf [.int a ta, .int b tb, .int c tc].toArray n) :: (pA, listOf (List.toArray vs) k) :: (tl2 ++ (q2 :: q1 :: tl))) := by
        refine news_pick N6 ?_
        simp only [List.forall_mem_cons, List.forall_mem_append]
        exact ⟨.head _, .tail _ (hnx _ (.head _)), .tail _ (hnx _ (.tail _ (.head _))), .tail _ (hnx _ (.tail _ (.tail _ (.head _)))), .tail _ (hnx _ (.tail _ (.tail _ (.tail _ (.head _))))), .tail _ (hnx _ (.tail _ (.tail _ (.tail _ (.tail _ (.head _)))))), .tail _ (hnx _ (.tail _ (.tail _ (.tail _ (.tail _ (.tail _ (.head _))))))), fun p hp => .tail _ (c2 p hp), .tail _ (hnx _ (.tail _ (.tail _ (.tail _ (.tail _ (.tail _ (.tail _ (.head _)))))))), .tail _ (hnx _ (.tail _ (.tail _ (.tail _ (.tail _ (.tail _ (.tail _ (.tail _ (.head _))))))))), fun p hp => .tail _ (hnx _ (.tail _ (.tail _ (.tail _ (.tail _ (.tail _ (.tail _ (.tail _ (.tail _ hp)))))))))⟩
      have lD : apart eA D := off1_of off6 _ (hnx _ (List.mem_cons_self ..))
      have lD' : apart I D := off1_of off6 _ (hnx _ (List.mem_cons_of_mem _ (List.mem_cons_self ..)))
      clear N6 NR2 NR3 hled
      k_steps
      rename Fr _ _ _ _ => F8
      rename News _ _ _ _ => N8
      refine hP9 _ _ (LPost.next ((es ++ [Value.ref D1, Value.ref D2]) ++ ys, bumped (es ++ [Value.ref D1, Value.ref D2]) ys (bumped es [Value.ref D1, Value.ref D2] ke), oq2, op2) (tl2 ++ (q2 :: q1 :: tl)) F8 N8 ?_ ?_ ?_ ?_ ?_ ?_)
      · simp
      · kst_anyIn
      · simp only [List.forall_mem_cons, List.cons_append, List.nil_append]
        exact ⟨by k_ne, by k_ne, by k_ne, by k_ne, by k_ne, off_at (off_append c3 offA) (by simp)⟩
      · intro p hp; rw [List.mem_singleton.mp hp]; rfl
      · (intro z hz1 hz2; first | rfl | ((simp only [List.contains_cons, List.contains_nil, Bool.or_false, Bool.or_eq_false_iff, beq_eq_false_iff_ne, ne_eq] at hz2); (try simp only [List.forall_mem_cons, List.not_mem_nil, false_implies, implies_true, and_true, ne_eq] at hz1); (simp [hz1, hz2]; done)))
      · refine ⟨off_append c3 offA, o2, ⟨_, e1⟩, ⟨_, e2⟩, fun p hp => by simp [o5 p hp], ?_, ?_⟩
        · simp [c1]; omega
        · have he : (entriesOf a b c (xs.take (i + 1))).map datTri = ((entriesOf a b c (xs.take i)).map datTri ++ [datTri (a, x1, b), datTri (b, x2, c)]) ++ (rng x1 (x2 + 1 - x1).toNat).map fun t => datTri (x1, t, x2) := by
            rw [hst]; simp [entriesOf, triOf, List.map_map, Function.comp_def]
          rw [he]
          exact DatAll.append (DatAll.mono (fun p hp => List.mem_append_right _ hp) datA) (DatAll.mono (fun p hp => List.mem_append_left _ hp) c4)
  · rintro I ⟨es, ke, oq, op⟩ tl ⟨o1, o2, ⟨vq, o3⟩, ⟨vp, o4⟩, o5, o6, o7⟩ u h tk F₁ N₁
    dsimp only [names, kstB, List.cons_append, List.nil_append] at F₁ N₁
    k_steps
    rename Fr _ _ _ _ => F3
    rename News _ _ _ _ => N3
    refine hret _ ((eA, listOf (List.toArray es) ke) :: tl) h tk F3 ?_ ?_
    · refine news_pick N3 ?_
      intro p hp
      simp only [List.mem_cons, List.mem_append] at hp ⊢
      rcases hp with (hp | hp) | hp | hp | hp <;> simp [hp, o5 p]
    · refine ⟨eA, es, ke, rfl, by simp, ?_⟩
      have hvl : vs.length = xs.length := by simpa using hD.length
      dsimp only at o7
      rw [hvl, List.take_length] at o7
      exact DatAll.mono (fun p hp => by simp [hp]) o7
end Mine
end
section
open PySem PySem.W PyProof.Rows PySem.Calls PySem.Spec
set_option Elab.async false
set_option maxRecDepth 100000
set_option maxHeartbeats 8000000
set_option linter.unusedSimpArgs false
namespace Mine



theorem datTri_in {nx : List (Addr × Obj)} {v : Value} {x : Int × Int × Int} (h : DatIn nx v (datTri x)) : ∃ T k t u y, v = .ref T ∧ (T, ({ cls := .type "tuple", data := .seq [.int x.1 t, .int x.2.1 u, .int x.2.2 y].toArray k } : Obj)) ∈ nx := by
  obtain ⟨T, ws, k, e, hm, hd⟩ := dat_tuple h
  obtain ⟨t, u, y, e0⟩ := ints3 hd
  rw [e0] at hm
  exact ⟨T, k, t, u, y, e, hm⟩

def pieceOf (x : Int × Int × Int) : Str := if x.1 = x.2.1 then Str.ofString "<!--=&lt;-->\n" else if x.2.1 = x.2.2 then Str.ofString "<!--&lt;=-->\n" else Str.ofString "<!--&lt;&lt;-->\n"
def spelledOf (ts : List (Int × Int × Int)) : Str := ts.foldl (fun s x => s ++ pieceOf x) (Str.ofString "")

theorem spelled_con (w : World) (eA : Addr) (k : Nat) (es : List Value) (ts : List (Int × Int × Int)) (rest : List (Addr × Obj)) (hl : ts.length ≤ 2000) (hD : DatAll rest es (ts.map datTri)) :
    Con w 223 ((eA, listOf (List.toArray es) k) :: rest) [.ref eA] (fun _ r => ∃ t, r = .str (spelledOf ts) t) := by
  intro dp un gd cn cs aa ccd cl outer A₀ base h₀ L m mg mb mean loose s Q E B F X N T hk hd hu hret
  w_top off
  have hHalt := halt
  refine wpAny_call ?_
  k_dflt (refine' code_def (binds := [(Str.ofString "entries", .ref eA)]) ?k1 ?k2 ?k3 ?k4 ?k5 ?kA ?kF ?kK ?k6 ?k7 ?k8 ?k9 ?kB ?_ ?c2 ?c3 ?c4 ?c5; (case kA => exact rfl); (case kF => exact rfl); (case kK => assumption); (case k1 => k_asm); (case k2 => k_asm); (case k3 => k_asm); (case k4 => k_asm); (case k5 => k_asm); (case k6 => k_is); (case k7 => k_is); (case k8 => ktr_room); (case k9 => exact BindsTo.of_eq rfl); (case c5 => decide); (case kB => exact locs rfl); (case c2 => exact rfl); (case c3 => exact rfl); (case c4 => exact rfl); k_whole; intro g' L' h' FG' F' N' B' X' T'; (try dsimp only); (try k_lift B'); (try k_fold))
  k_steps
  rename Fr _ _ _ _ => FR
  rename News _ _ _ _ => NR
  obtain ⟨pt, hpt⟩ := fr_str FR (x := Str.ofString "page") rfl
  refine Stop.of (list_loop (fun (st : Str × Tok) => [(eA, listOf (List.toArray es) k)]) (fun st => [(Str.ofString "page", .str st.1 st.2)]) [Str.ofString "left", Str.ofString "one", Str.ofString "right"]
    (fun I i st tl => below eA I ∧ (∀ p ∈ rest, p ∈ tl) ∧ (∀ p ∈ tl, p.1 ≠ I) ∧ st.1.length ≤ 20 * i ∧ st.1 = spelledOf (ts.take i)) (Str.ofString "", pt) rest (n := k) (vs := es) rfl (by k_mem) rfl rfl FR NR ?_ ?_ ?_ ?_ ?_ ?_)
  · kst_anyIn
  · intro p hp; rw [List.mem_singleton.mp hp]; exact hpt
  · rintro I ⟨i1, i2⟩
    exact ⟨i1, fun _ h => h, off_lt i2, by simp [Str.length]; decide, rfl⟩
  · rintro I i st tl h
    simp
  · intro I i cc9a tl v hv cc9b u h tk o F₁ N₁ P9 hP9
    obtain ⟨pg, pt⟩ := cc9a
    obtain ⟨o1, o2, o3, o4, o5⟩ := cc9b
    have hi : i < ts.length := by
      have := hD.length
      have h2 := (List.getElem?_eq_some_iff.mp hv).1
      simp at this; omega
    obtain ⟨v', hv', hvD⟩ := hD.get (k := i) (by simpa using hi)
    have ev : v' = v := by rw [hv] at hv'; exact (Option.some.inj hv').symm
    subst ev
    simp only [List.getElem_map] at hvD
    have hst : ts.take (i + 1) = ts.take i ++ [ts[i]] := by rw [List.take_add_one, List.getElem?_eq_getElem hi]; rfl
    generalize ts[i] = x at hvD hst
    obtain ⟨x1, x2, x3⟩ := x
    obtain ⟨T, kT, t1, t2, t3, rfl, hT⟩ := datTri_in hvD
    dsimp only [names, kstB, List.cons_append, List.nil_append] at F₁ N₁ o4 o5 hT
    have N₂ := news_add2 (o2 _ hT) N₁
    clear N₁
    k_steps
    · rename Fr _ _ _ _ => F4
      rename News _ _ _ _ => N4
      obtain ⟨pt', hpt'⟩ := fr_str F4 (x := Str.ofString "page") rfl
      have hpc : pieceOf (x1, x2, x3) = Str.ofString "<!--=&lt;-->\n" := by unfold pieceOf; dsimp only; (first | rw [if_pos (by assumption)] | rw [if_neg (by assumption), if_pos (by assumption)] | rw [if_neg (by assumption), if_neg (by assumption)])
      refine hP9 _ _ (LPost.next (pg ++ Str.ofString "<!--=&lt;-->\n", pt') tl F4 N4 ?_ ?_ ?_ ?_ ?_ ?_)
      · simp
      · kst_anyIn
      · simp only [List.forall_mem_cons, List.cons_append, List.nil_append]
        exact ⟨by k_ne, o3⟩
      · intro p hp; rw [List.mem_singleton.mp hp]; exact hpt'
      · (intro z hz1 hz2; first | rfl | ((simp only [List.contains_cons, List.contains_nil, Bool.or_false, Bool.or_eq_false_iff, beq_eq_false_iff_ne, ne_eq] at hz2); (try simp only [List.forall_mem_cons, List.not_mem_nil, false_implies, implies_true, and_true, ne_eq] at hz1); (simp [hz1, hz2]; done)))
      · refine ⟨o1, o2, o3, ?_, ?_⟩
        · have : (Str.ofString "<!--=&lt;-->\n").length ≤ 20 := by decide
          simp only [Str.length_append]; omega
        · rw [hst, spelledOf, List.foldl_append, ← spelledOf, ← o5, List.foldl_cons, List.foldl_nil, hpc]
    · rename Fr _ _ _ _ => F4
      rename News _ _ _ _ => N4
      obtain ⟨pt', hpt'⟩ := fr_str F4 (x := Str.ofString "page") rfl
      have hpc : pieceOf (x1, x2, x3) = Str.ofString "<!--&lt;=-->\n" := by unfold pieceOf; dsimp only; (first | rw [if_pos (by assumption)] | rw [if_neg (by assumption), if_pos (by assumption)] | rw [if_neg (by assumption), if_neg (by assumption)])
      refine hP9 _ _ (LPost.next (pg ++ Str.ofString "<!--&lt;=-->\n", pt') tl F4 N4 ?_ ?_ ?_ ?_ ?_ ?_)
      · simp
      · kst_anyIn
      · simp only [List.forall_mem_cons, List.cons_append, List.nil_append]
        exact ⟨by k_ne, o3⟩
      · intro p hp; rw [List.mem_singleton.mp hp]; exact hpt'
      · (intro z hz1 hz2; first | rfl | ((simp only [List.contains_cons, List.contains_nil, Bool.or_false, Bool.or_eq_false_iff, beq_eq_false_iff_ne, ne_eq] at hz2); (try simp only [List.forall_mem_cons, List.not_mem_nil, false_implies, implies_true, and_true, ne_eq] at hz1); (simp [hz1, hz2]; done)))
      · refine ⟨o1, o2, o3, ?_, ?_⟩
        · have : (Str.ofString "<!--&lt;=-->\n").length ≤ 20 := by decide
          simp only [Str.length_append]; omega
        · rw [hst, spelledOf, List.foldl_append, ← spelledOf, ← o5, List.foldl_cons, List.foldl_nil, hpc]
    · rename Fr _ _ _ _ => F4
      rename News _ _ _ _ => N4
      obtain ⟨pt', hpt'⟩ := fr_str F4 (x := Str.ofString "page") rfl
      have hpc : pieceOf (x1, x2, x3) = Str.ofString "<!--&lt;&lt;-->\n" := by unfold pieceOf; dsimp only; (first | rw [if_pos (by assumption)] | rw [if_neg (by assumption), if_pos (by assumption)] | rw [if_neg (by assumption), if_neg (by assumption)])
      refine hP9 _ _ (LPost.next (pg ++ Str.ofString "<!--&lt;&lt;-->\n", pt') tl F4 N4 ?_ ?_ ?_ ?_ ?_ ?_)
      · simp
      · kst_anyIn
      · simp only [List.forall_mem_cons, List.cons_append, List.nil_append]
        exact ⟨by k_ne, o3⟩
      · intro p hp; rw [List.mem_singleton.mp hp]; exact hpt'
      · (intro z hz1 hz2; first | rfl | ((simp only [List.contains_cons, List.contains_nil, Bool.or_false, Bool.or_eq_false_iff, beq_eq_false_iff_ne, ne_eq] at hz2); (try simp only [List.forall_mem_cons, List.not_mem_nil, false_implies, implies_true, and_true, ne_eq] at hz1); (simp [hz1, hz2]; done)))
      · refine ⟨o1, o2, o3, ?_, ?_⟩
        · have : (Str.ofString "<!--&lt;&lt;-->\n").length ≤ 20 := by decide
          simp only [Str.length_append]; omega
        · rw [hst, spelledOf, List.foldl_append, ← spelledOf, ← o5, List.foldl_cons, List.foldl_nil, hpc]
  · rintro I ⟨pg, pt⟩ tl ⟨o1, o2, o3, o4, o5⟩ u h tk F₁ N₁
    dsimp only [names, kstB, List.cons_append, List.nil_append] at F₁ N₁ o5
    k_steps
    rename Fr _ _ _ _ => F3
    rename News _ _ _ _ => N3
    refine hret _ [] h tk F3 ?_ ?_
    · refine news_pick N3 ?_
      intro p hp
      simp only [List.nil_append, List.mem_cons] at hp ⊢
      rcases hp with hp | hp
      · exact .inl hp
      · exact .inr (o2 p hp)
    · have hvl : es.length = ts.length := by simpa using hD.length
      rw [hvl, List.take_length] at o5
      exact ⟨pt, by rw [o5]⟩
end Mine
end
section
open PySem PySem.W PyProof.Rows PySem.Calls PySem.Spec
set_option Elab.async false
set_option maxRecDepth 100000
set_option maxHeartbeats 8000000
set_option linter.unusedSimpArgs false
namespace Mine



/-- Con, for a callee that also reads what stood below -/
def ConB (w : World) (f : Addr) (pre : Heap → Prop) (news : List (Addr × Obj)) (args : List Value) (post : List (Addr × Obj) → Value → Prop) : Prop :=
  ∀ (dp un : Nat) (gd : Option (List Code)) (cn : Str) (cs : Scope) (a : Addr) (ccd : Value) (cl : List (Str × Addr)) (outer : List Env) (A₀ : Around) (base h₀ : Heap) (L : Addr) (m mg mb : Str → Option Value) (mean : ExcName → Option Value) (loose : List Str) (s : Shared) (Q E : Value → Shared → Prop),
    pre h₀ → Below A₀ base outer h₀ → Fr h₀ L s.heap m → (hd.heap_1 w.params).In h₀ → News h₀ L s.heap news → Top topProg loose mean mg mb h₀ → cs.kind = .function → dp + 40 < recursionLimit → un + 200 < cLine →
    Ret h₀ L m news s Q post → wpAny (model PySem.Challenge.rw_kl0305_01.row.prog w) (ktrTop dp un gd cn cs L a ccd cl outer) (call (.ref f) args) Q E s

theorem cell_pair {h₀ h : Heap} {L c1 c2 l : Addr} {o1 o2 lo : Obj} {r : List (Addr × Obj)} (_ : News h₀ L h ((l, lo) :: (c2, o2) :: (c1, o1) :: r)) : ∃ a b x y, a = l ∧ b = lo ∧ x = o2 ∧ y = o1 := ⟨_, _, _, _, rfl, rfl, rfl, rfl⟩
theorem ints_at {vs : List Value} {ns : List Int} (h : IntsAre vs ns) : ∀ i, i < ns.length → ∃ t, vs[i]? = some (.int (ns.getD i 0) t) := by
  induction h with
  | nil => intro i hi; cases hi
  | cons n t h ih =>
    intro i hi
    cases i with
    | zero => exact ⟨t, rfl⟩
    | succ i => obtain ⟨t', e⟩ := ih i (by simpa using hi); exact ⟨t', by simpa using e⟩
theorem getD_bnd {ds : List Int} {B : Int} (h : ∀ d ∈ ds, 0 ≤ d ∧ d ≤ B) (i : Nat) (hB : 0 ≤ B := by decide) : 0 ≤ ds.getD i 0 ∧ ds.getD i 0 ≤ B := by
  rw [List.getD_eq_getElem?_getD]
  cases e : ds[i]? with
  | none => exact ⟨Int.le_refl _, hB⟩
  | some n => exact h _ (List.mem_of_getElem? e)
theorem sum_fmod : ∀ ns : List Int, 0 ≤ (ns.map fun x => x.fmod 36).sum ∧ (ns.map fun x => x.fmod 36).sum ≤ 35 * (ns.length : Int)
  | [] => by simp
  | x :: r => by
    have h := sum_fmod r
    have e : x.fmod 36 = x % 36 := Int.fmod_eq_emod_of_nonneg x (by decide)
    rw [List.map_cons, List.sum_cons, List.length_cons, e]
    omega
theorem cells_con (w : World) (sA : Addr) (vs : List Value) (ns : List Int) (rest : List (Addr × Obj)) (hI : IntsAre vs ns) (hl : ns.length ≤ 63) :
    ConB w 197 (fun h₀ => h₀.IsList sA vs.toArray) rest [.ref sA] (fun led r => ∃ D ys cs, r = .ref D ∧ (D, LCg.lst ys) ∈ led ∧ IntsAre ys cs ∧ cs.length = 6 ∧ ∀ c ∈ cs, 0 ≤ c ∧ c ≤ 3000) := by
  intro dp un gd cn cs aa ccd cl outer A₀ base h₀ L m mg mb mean loose s Q E hpre B F X N T hk hd hu hret
  w_top off
  have hHalt := halt
  refine wpAny_call ?_
  k_dflt (refine' code_defC (binds := [(Str.ofString "script", .ref sA)]) ?k1 ?k2 ?k3 ?k4 ?k5 ?kA ?kF ?kK ?k6 ?k7 ?k8 ?k9 ?kB ?kD ?_ ?c2 ?c3 ?c4; (case kA => exact rfl); (case kF => exact rfl); (case kK => assumption); (case k1 => k_asm); (case k2 => k_asm); (case k3 => k_asm); (case k4 => k_asm); (case k5 => k_asm); (case k6 => k_is); (case k7 => k_is); (case k8 => ktr_room); (case k9 => exact BindsTo.of_eq rfl); (case kB => exact rfl); (case kD => decide +kernel); (case c2 => exact rfl); (case c3 => exact rfl); (case c4 => exact rfl); k_whole; intro g' L' h' tk' cells' FG' F' N' Y' B' X' T' l1; (try k_lt l1); k_cells Y'; (try simp only [List.cons_append, List.nil_append] at N'); (try dsimp only); (try k_lift B'); (try k_fold))
  have hSL : g'.IsList sA vs.toArray := by obtain ⟨o, e, r⟩ := hpre; exact ⟨o, FG'.keep _ _ e, r⟩
  have l2 := allLt_of l1
  have oo : OwnOff rest [L' + 1 + 1, L' + 1] := off_add (fun p hp => Nat.ne_of_lt (Nat.lt_succ_of_lt (Nat.lt_succ_of_lt (l1 p hp)))) (off_add (fun p hp => Nat.ne_of_lt (Nat.lt_succ_of_lt (l1 p hp))) off_nil)
  clear l1
  k_steps
  rename Fr _ _ _ _ => FR
  rename News _ _ _ _ => NR
  rename IsRange _ _ _ _ _ _ _ _ => hR
  change IsRange _ _ 0 6 1 _ _ _ at hR
  obtain ⟨bA, blo, o2, o1, rfl, hblo, rfl, rfl⟩ := cell_pair NR
  rename o2.data = _ => e2
  rename o1.data = _ => e1
  change o1.data = Data.cell (some (Value.ref sA)) at e1
  obtain ⟨led, hled⟩ := led_of NR
  have m0 : (bA, blo) ∈ led := by rw [hled, hblo]; simp
  have m1 : (L' + 1, o1) ∈ led := by rw [hled]; simp
  have m2 : (L' + 1 + 1, o2) ∈ led := by rw [hled]; simp
  rw [← hled] at NR
  refine Stop.of (comp_range (fun j ys nx => (∀ p ∈ led, p ∈ nx) ∧ ∃ cs : List Int, IntsAre ys cs ∧ cs.length = j ∧ ∀ c ∈ cs, 0 ≤ c ∧ c ≤ 3000) rfl hR FR NR (by decide) (by decide) (by decide) (by decide) (by rw [PySem.sizeLine_eq]; decide) ⟨fun _ h => h, [], .nil, rfl, (by simp)⟩ ?_ ?_)
  · rintro g j ys nx t I oI C oC D m₂ h tk E' hj ⟨c0, cs, c1, c2, c3⟩ hNs hm2 F₃ N₃ off ⟨ne1, ne2, ne3⟩
    have N₄ := news_more (.tail _ (.tail _ (.tail _ (.tail _ (.tail _ (c0 _ m0)))))) (news_more (.tail _ (.tail _ (.tail _ (.tail _ (c0 _ m1))))) (news_more (.tail _ (.tail _ (.tail _ (c0 _ m2)))) N₃))
    rw [hblo] at N₄
    clear NR
    k_steps
    rename News _ _ _ _ => N5
    rename Fr _ _ _ _ => F5
    dsimp only at N5 F5 ⊢
    have hIp := hI.pick (some (0 + (j : Int))) (some 12) (some 6)
    have hps : (slicePick vs.toArray (some (0 + (j : Int))) (some 12) (some 6)).size ≤ 63 := Nat.le_trans (slicePick_size_le _ _ _ _) (by rw [List.size_toArray, hI.length]; exact hl)
    obtain ⟨pv, hpv⟩ : ∃ pv : List Value, slicePick vs.toArray (some (0 + (j : Int))) (some 12) (some 6) = pv.toArray := ⟨_, (Array.toArray_toList ..).symm⟩
    rw [hpv] at N5 hIp hps
    rw [List.size_toArray] at hps
    change IntsAre pv _ at hIp
    generalize pickNums ns (some (0 + (j : Int))) (some 12) (some 6) = pn at hIp
    have hpl : pv.length = pn.length := hIp.length
    generalize h.objs.size + 1 = S at N5 ⊢
    obtain ⟨led2, hled2⟩ := led_of N5
    have k0 : (S, ({ cls := .type "list", data := .seq pv.toArray } : Obj)) ∈ led2 := by rw [hled2]; exact .head _
    rw [← hled2] at N5
    refine Stop.of (comp_list (vs := pv) (fun i zs nw => (∀ p ∈ led2, p ∈ nw) ∧ IntsAre zs ((pn.take i).map fun x => x.fmod 36)) rfl k0 F5 N5 (by rw [PySem.sizeLine_eq]; omega) ⟨fun _ h => h, .nil⟩ ?_ ?_)
    · rintro g2 i zs nw v2 I2 oI2 C2 oC2 D2 m₃ h2 tk2 E2 hv2 ⟨b0, b1⟩ hNs2 hm3 F₅ N₅ off5 ⟨ne4, ne5, ne6⟩
      have hi : i < pn.length := by
        have h2 := (List.getElem?_eq_some_iff.mp hv2).1
        omega
      have hst2 : pn.take (i + 1) = pn.take i ++ [pn[i]] := by rw [List.take_add_one, List.getElem?_eq_getElem hi]; rfl
      obtain ⟨ty, hvy⟩ := ints_at hIp i hi
      rw [hv2, List.getD_eq_getElem?_getD, List.getElem?_eq_getElem hi] at hvy
      obtain rfl := Option.some.inj hvy
      dsimp only [Option.getD_some] at hm3
      generalize pn[i] = y at hst2 hm3
      clear N5 N₄ N₃
      k_steps
      rename Fr _ _ _ _ => FR6
      rename News _ _ _ _ => NR6
      refine LCg.CompEnd.intro FR6 NR6 nw ?_ off5 ?_ ⟨b0, ?_⟩
      · kst_anyIn
      · exact .inr ⟨_, b0 _ k0, rfl, _, rfl⟩
      · rw [hst2, List.map_append]
        exact IntsAre.append b1 (.cons _ _ .nil)
    · rintro g2 zs nw ⟨b0, b1⟩ D2 h2 tk2 F₅ N₅ off2
      rw [hpl, List.take_length] at b1
      have off2 := off1_of off2
      clear N5 N₄ N₃
      k_steps
      rename Fr _ _ _ _ => FR6
      rename News _ _ _ _ => NR6
      have hin : ∀ p ∈ (I, oI) :: (C, oC) :: (D, LCg.lst ys) :: nx, p ∈ nw := fun p hp => b0 p (by rw [hled2]; exact .tail _ (.tail _ (.tail _ (.tail _ hp))))
      refine LCg.CompEnd.intro FR6 NR6 nx ?_ off trivial ⟨c0, cs ++ [_], IntsAre.append c1 (.cons _ _ .nil), ?_, ?_⟩
      · intro p hp
        have := hin p hp
        first | exact .tail _ this | (simp only [List.mem_cons]; simp [this])
      · simp [c2]
      · intro c hc
        rcases List.mem_append.mp hc with hc | hc
        · exact c3 c hc
        · rw [List.mem_singleton.mp hc]
          have h1 := getD_bnd (ds := [0, 1, 0, 0, 2, 1]) (B := 2) (by decide) (0 + (j : Int)).toNat
          have h2 := sum_fmod pn
          omega
  · rintro g ys nx ⟨c0, cs, c1, c2, c3⟩ D h tk F₁ N₁ off
    k_steps
    rename Fr h₀ _ _ _ => F8
    rename News h₀ _ _ _ => N8
    refine hret _ [(D, LCg.lst ys)] _ _ F8 ?_ ⟨D, ys, cs, rfl, .head _, c1, c2, fun c hc => ⟨(c3 c hc).1, by have := (c3 c hc).2; omega⟩⟩
    refine news_pick N8 ?_
    intro p hp
    rcases List.mem_cons.mp hp with rfl | hp
    · exact .head _
    · exact .tail _ (c0 p (by rw [hled]; simp [show p ∈ rest from hp]))
end Mine
end
section
open PySem PySem.W PyProof.Rows PySem.Calls PySem.Spec
set_option Elab.async false
set_option maxRecDepth 100000
set_option maxHeartbeats 8000000
set_option linter.unusedSimpArgs false
namespace Mine


local macro_rules | `(tactic| walk_at "getMethod ref") => `(tactic| (k_here; (with_reducible show wpAny _ _ (getMethod (Value.ref _) (Str.ofString "items") _) _ _ _); k_dflt (refine ns_method (ns_dict (by k_in)) ?_)))
local macro_rules | `(tactic| walk_at "call builtin:dict.items") => `(tactic| (k_here; k_dflt (refine ns_view (by k_asm) (by k_asm) (ns_dict (by k_in)) (by decide) ?_); intro D' h' F' N' l1; (try k_lt l1)))
local macro_rules | `(tactic| walk_at "call type:list") => `(tactic| (k_here; k_dflt (refine ns_list (by rfl) (by k_asm) (by k_asm) (by k_mem) (ns_dict (by k_in)) (by decide) ?_); intro D' h' tk' acc' c' F' N' l1; (try k_lt l1)))

/-- the writer's fields that comment() reads -/
structure WriterIs (b : Bool) (q : Addr) (es : List DictEntry) : Prop where
  write : getL "_write" es = some (some (.ref q))
  comments : getL "_with_comments" es = some (some (.bool b))
  depth : ∃ t, getL "_ignored_depth" es = some (some (.int 0 t))
  done : getL "_root_done" es = some (some (.bool false))
  seen : getL "_root_seen" es = some (some (.bool false))
  method : getL "comment" es = some none

theorem writer_end {h₀ h' : Heap} {L x d : Addr} {es : List DictEntry} {n : Nat} {led r : List (Addr × Obj)} (N : News h₀ L h' led) (hx : (x, instObj 174 d) ∈ led) (hd : (d, dictOf es n) ∈ led) (hr : ∀ p ∈ r, p ∈ led) :
    News h₀ L h' ((x, instObj 174 d) :: (d, dictOf es n) :: r) := fun p hp => by
  rcases List.mem_cons.mp hp with rfl | hp
  · exact N _ hx
  · rcases List.mem_cons.mp hp with rfl | hp
    · exact N _ hd
    · exact N _ (hr p hp)

theorem writer_con (w : World) (b : Bool) (q l : Addr) (rest : List (Addr × Obj)) :
  ∀ (dp un : Nat) (gd : Option (List Code)) (cn : Str) (cs : Scope) (a : Addr) (ccd : Value) (cl : List (Str × Addr)) (outer : List Env) (A₀ : Around) (base h₀ : Heap) (L : Addr) (m mg mb : Str → Option Value) (mean : ExcName → Option Value) (loose : List Str) (s : Shared) (Q E : Value → Shared → Prop),
    Below A₀ base outer h₀ → Fr h₀ L s.heap m → (hd.heap_1 w.params).In h₀ → News h₀ L s.heap ((q, boundOf l) :: rest) → Top topProg loose mean mg mb h₀ → cs.kind = .function → dp + 10 < recursionLimit → un + 100 < cLine →
    (∀ (x d : Addr) (es : List DictEntry) (n : Nat) (h' : Heap) (tk' : Nat), Fr h₀ L h' m → News h₀ L h' ((x, instObj 174 d) :: (d, dictOf es n) :: (q, boundOf l) :: rest) → WriterIs b q es → (∀ p ∈ (q, boundOf l) :: rest, p.1 < d) → d < x → Q (.ref x) { s with heap := h', toks := tk' }) →
    wpAny (model PySem.Challenge.rw_kl0305_01.row.prog w) (ktrTop dp un gd cn cs L a ccd cl outer) (call (.ref 174) [.ref q] (if b then [(Str.ofString "with_comments", .bool true)] else [])) Q E s := by
  intro dp un gd cn cs aa ccd cl outer A₀ base h₀ L m mg mb mean loose s Q E B F X N T hk hd hu hret
  w_top off
  k_dflt (refine' call_cls ?k1 ?k2 ?k3 ?k4 ?k5 ?k6 ?_; (case k1 => k_asm); (case k2 => k_asm); (case k3 => k_asm); (case k4 => k_is); (case k5 => k_is); (case k6 => k_is); k_whole; intro x' d' h' F' N' l1 l2)
  k_dflt (refine' code_def (binds := [(Str.ofString "self", .ref x'), (Str.ofString "write", .ref q), (Str.ofString "with_comments", .bool b), (Str.ofString "strip_text", .bool false), (Str.ofString "rewrite_prefixes", .bool false), (Str.ofString "qname_aware_tags", .none), (Str.ofString "qname_aware_attrs", .none), (Str.ofString "exclude_attrs", .none), (Str.ofString "exclude_tags", .none)]) ?k1 ?k2 ?k3 ?k4 ?k5 ?kA ?kF ?kK ?k6 ?k7 ?k8 ?k9 ?kB ?_ ?c2 ?c3 ?c4 ?c5; (case kA => exact rfl); (case kF => exact rfl); (case kK => assumption); (case k1 => k_asm); (case k2 => k_asm); (case k3 => k_asm); (case k4 => k_asm); (case k5 => k_asm); (case k6 => k_is); (case k7 => k_is); (case k8 => ktr_room); (case k9 => cases b <;> exact kp_binds (by k_in) (fun _ => rfl)); (case c5 => decide); (case kB => exact locs rfl); (case c2 => exact rfl); (case c3 => exact rfl); (case c4 => exact rfl); k_whole; intro g' L' h' FG' F' N' B' X' T'; (try dsimp only); (try k_lift B'); (try k_fold))
  have l1' := l1
  k_lt l1'
  k_lt2 l2
  k_steps
  refine hret x' d' _ _ _ _ (by assumption) (writer_end (by assumption) (by k_mem) (by k_mem) ?_) ?_ l1 l2
  · kst_anyIn
  · exact ⟨rfl, rfl, ⟨_, rfl⟩, rfl, rfl, rfl⟩
end Mine
end
section
open PySem PySem.W PyProof.Rows PySem.Calls PySem.Spec
set_option Elab.async false
set_option maxRecDepth 100000
set_option maxHeartbeats 8000000
set_option linter.unusedSimpArgs false
namespace Mine


local macro_rules | `(tactic| k_get) => `(tactic| assumption)
local macro_rules | `(tactic| walk_at "execs cons") => `(tactic| (k_here; (rename 1 ≤ _ => hTok8); (with_reducible refine tok_cons (by first | assumption | (dsimp only; omega)) ?_); (try dsimp only)))
local macro_rules | `(tactic| walk_at "getMethod ref") => `(tactic| (k_here; k_dflt (refine' kmu_own ?k1 ?k2 ?k3 ?k4 ?k5 ?_; (case k1 => k_asm); (case k2 => k_asm); (case k3 => k_inst); (case k4 => k_is); (case k5 => k_is); k_whole)))
local macro_rules | `(tactic| walk_at "forall") => `(tactic| ((with_reducible show 1 ≤ _ → _); intro hTok9; (try dsimp only at hTok9)))
local macro_rules | `(tactic| walk_at "call builtin:str.replace") => `(tactic| (k_here; (with_reducible show wpAny _ _ (call (Value.builtin _) [Value.str _ _, Value.str _ _, Value.str _ _]) _ _ _); k_dflt (refine' PySem.SC.replaceW ?hu ?hv ?huv ?hyz ?hx ?hz ?_; (case hu => first | assumption | (exact Nat.ne_of_gt hTok8) | (exact Nat.succ_ne_zero _) | (show _ ≠ (0:Nat); omega)); (case hv => first | (exact Nat.succ_ne_zero _) | (show _ ≠ (0:Nat); omega)); (case huv => exact Nat.ne_of_lt (Nat.lt_succ_self _)); (case hyz => decide +kernel); (case hx => decide +kernel); (case hz => decide +kernel); k_whole); intro _ _))

/-- a call of a writer's comment(text) by one that leaves comments out -/
theorem comment_out (w : World) (x d q : Addr) (es : List DictEntry) (n : Nat) (tx : Str) (tt : Tok) (rest : List (Addr × Obj)) (W : WriterIs false q es) :
  ∀ (dp un : Nat) (gd : Option (List Code)) (cn : Str) (cs : Scope) (a : Addr) (ccd : Value) (cl : List (Str × Addr)) (outer : List Env) (A₀ : Around) (base h₀ : Heap) (L : Addr) (m mg mb : Str → Option Value) (mean : ExcName → Option Value) (loose : List Str) (s : Shared) (Q E : Value → Shared → Prop),
    Below A₀ base outer h₀ → Fr h₀ L s.heap m → (hd.heap_1 w.params).In h₀ → News h₀ L s.heap ((x, instObj 174 d) :: (d, dictOf es n) :: rest) → Top topProg loose mean mg mb h₀ → cs.kind = .function → dp + 10 < recursionLimit → un + 100 < cLine →
    (∀ (h' : Heap) (tk' : Nat), Fr h₀ L h' m → News h₀ L h' ((x, instObj 174 d) :: (d, dictOf es n) :: rest) → Q .none { s with heap := h', toks := tk' }) →
    wpAny (model PySem.Challenge.rw_kl0305_01.row.prog w) (ktrTop dp un gd cn cs L a ccd cl outer) (call (.ref 164) [.ref x, .str tx tt]) Q E s := by
  intro dp un gd cn cs aa ccd cl outer A₀ base h₀ L m mg mb mean loose s Q E B F X N T hk hd hu hret
  w_top off
  obtain ⟨w1, w2, ⟨tw, w3⟩, w4, w5, w6⟩ := W
  refine wpAny_call ?_
  k_dflt (refine' code_def (binds := [(Str.ofString "self", .ref x), (Str.ofString "text", .str tx tt)]) ?k1 ?k2 ?k3 ?k4 ?k5 ?kA ?kF ?kK ?k6 ?k7 ?k8 ?k9 ?kB ?_ ?c2 ?c3 ?c4 ?c5; (case kA => exact rfl); (case kF => exact rfl); (case kK => assumption); (case k1 => k_asm); (case k2 => k_asm); (case k3 => k_asm); (case k4 => k_asm); (case k5 => k_asm); (case k6 => k_is); (case k7 => k_is); (case k8 => ktr_room); (case k9 => exact BindsTo.of_eq rfl); (case c5 => decide); (case kB => exact locs rfl); (case c2 => exact rfl); (case c3 => exact rfl); (case c4 => exact rfl); k_whole; intro g' L' h' FG' F' N' B' X' T'; (try dsimp only); (try k_lift B'); (try k_fold))
  k_steps
  exact hret _ _ (by assumption) (by assumption)

theorem news_same {h₀ h : Heap} {L l : Addr} {its : List Value} {a a' : Str} {b t1 t2 : _} {k : Nat} {r : List (Addr × Obj)} (N : News h₀ L h ((l, listOf (List.toArray (its ++ [.str a t1] ++ [.str b t2])) (k + 1 + 1)) :: r)) (e : a = a') :
    News h₀ L h ((l, listOf (List.toArray (its ++ [.str a' t1, .str b t2])) (k + 2)) :: r) := by
  subst e; simpa using N

/-- .. by one that writes them -/
theorem comment_in (w : World) (x d q l : Addr) (es : List DictEntry) (n : Nat) (tx pc : Str) (tt : Tok) (its : List Value) (k : Nat) (rest : List (Addr × Obj)) (W : WriterIs true q es)
  (hx : apart x l) (hdl : apart d l) (hq : apart q l) (ho : OwnOff rest [l]) (hz : its.length ≤ 5000)
  (hc : tx = Str.ofString "=<" ∧ pc = Str.ofString "<!--=&lt;-->" ∨ tx = Str.ofString "<=" ∧ pc = Str.ofString "<!--&lt;=-->" ∨ tx = Str.ofString "<<" ∧ pc = Str.ofString "<!--&lt;&lt;-->") :
  ∀ (dp un : Nat) (gd : Option (List Code)) (cn : Str) (cs : Scope) (a : Addr) (ccd : Value) (cl : List (Str × Addr)) (outer : List Env) (A₀ : Around) (base h₀ : Heap) (L : Addr) (m mg mb : Str → Option Value) (mean : ExcName → Option Value) (loose : List Str) (s : Shared) (Q E : Value → Shared → Prop),
    Below A₀ base outer h₀ → Fr h₀ L s.heap m → (hd.heap_1 w.params).In h₀ → News h₀ L s.heap ((l, listOf (List.toArray its) k) :: (x, instObj 174 d) :: (d, dictOf es n) :: (q, boundOf l) :: rest) → Top topProg loose mean mg mb h₀ → cs.kind = .function → dp + 10 < recursionLimit → un + 100 < cLine → 1 ≤ s.toks →
    (∀ (h' : Heap) (tk' t1 t2 : Nat), Fr h₀ L h' m → News h₀ L h' ((l, listOf (List.toArray (its ++ [.str pc t1, .str (Str.ofString "\n") t2])) (k + 2)) :: (x, instObj 174 d) :: (d, dictOf es n) :: (q, boundOf l) :: rest) → Q .none { s with heap := h', toks := tk' }) →
    wpAny (model PySem.Challenge.rw_kl0305_01.row.prog w) (ktrTop dp un gd cn cs L a ccd cl outer) (call (.ref 164) [.ref x, .str tx tt]) Q E s := by
  intro dp un gd cn cs aa ccd cl outer A₀ base h₀ L m mg mb mean loose s Q E B F X N T hk hdd hu ht hret
  w_top off
  obtain ⟨w1, w2, ⟨tw, w3⟩, w4, w5, w6⟩ := W
  refine wpAny_call ?_
  rcases hc with ⟨rfl, rfl⟩ | ⟨rfl, rfl⟩ | ⟨rfl, rfl⟩
  · k_dflt (refine' code_def (binds := [(Str.ofString "self", .ref x), (Str.ofString "text", .str (Str.ofString "=<") tt)]) ?k1 ?k2 ?k3 ?k4 ?k5 ?kA ?kF ?kK ?k6 ?k7 ?k8 ?k9 ?kB ?_ ?c2 ?c3 ?c4 ?c5; (case kA => exact rfl); (case kF => exact rfl); (case kK => assumption); (case k1 => k_asm); (case k2 => k_asm); (case k3 => k_asm); (case k4 => k_asm); (case k5 => k_asm); (case k6 => k_is); (case k7 => k_is); (case k8 => ktr_room); (case k9 => exact BindsTo.of_eq rfl); (case c5 => decide); (case kB => exact locs rfl); (case c2 => exact rfl); (case c3 => exact rfl); (case c4 => exact rfl); k_whole; intro g' L' h' FG' F' N' B' X' T'; (try dsimp only); (try k_lift B'); (try k_fold))
    (repeat' (first | ((rename (Builtin.Str.occurrences _ _ _ _ _).isEmpty = _ => hK9); first | exact absurd hK9 (by decide +kernel) | clear hK9) | (k_unfold; (try dsimp only)) | (k_end; wrow_close) | walk1 | (dsimp only; walk1) | (leave1; walk_say "STEP leave1"; try dsimp only) | fail "no step"))
    · exact news_get (by assumption) (by k_mem)
    · exact news_get (by assumption) (by k_mem)
    · rename News h₀ L _ _ => kN9; exact hret _ _ _ _ (by assumption) (news_same kN9 (by decide +kernel))
  · k_dflt (refine' code_def (binds := [(Str.ofString "self", .ref x), (Str.ofString "text", .str (Str.ofString "<=") tt)]) ?k1 ?k2 ?k3 ?k4 ?k5 ?kA ?kF ?kK ?k6 ?k7 ?k8 ?k9 ?kB ?_ ?c2 ?c3 ?c4 ?c5; (case kA => exact rfl); (case kF => exact rfl); (case kK => assumption); (case k1 => k_asm); (case k2 => k_asm); (case k3 => k_asm); (case k4 => k_asm); (case k5 => k_asm); (case k6 => k_is); (case k7 => k_is); (case k8 => ktr_room); (case k9 => exact BindsTo.of_eq rfl); (case c5 => decide); (case kB => exact locs rfl); (case c2 => exact rfl); (case c3 => exact rfl); (case c4 => exact rfl); k_whole; intro g' L' h' FG' F' N' B' X' T'; (try dsimp only); (try k_lift B'); (try k_fold))
    (repeat' (first | ((rename (Builtin.Str.occurrences _ _ _ _ _).isEmpty = _ => hK9); first | exact absurd hK9 (by decide +kernel) | clear hK9) | (k_unfold; (try dsimp only)) | (k_end; wrow_close) | walk1 | (dsimp only; walk1) | (leave1; walk_say "STEP leave1"; try dsimp only) | fail "no step"))
    · exact news_get (by assumption) (by k_mem)
    · exact news_get (by assumption) (by k_mem)
    · rename News h₀ L _ _ => kN9; exact hret _ _ _ _ (by assumption) (news_same kN9 (by decide +kernel))
  · k_dflt (refine' code_def (binds := [(Str.ofString "self", .ref x), (Str.ofString "text", .str (Str.ofString "<<") tt)]) ?k1 ?k2 ?k3 ?k4 ?k5 ?kA ?kF ?kK ?k6 ?k7 ?k8 ?k9 ?kB ?_ ?c2 ?c3 ?c4 ?c5; (case kA => exact rfl); (case kF => exact rfl); (case kK => assumption); (case k1 => k_asm); (case k2 => k_asm); (case k3 => k_asm); (case k4 => k_asm); (case k5 => k_asm); (case k6 => k_is); (case k7 => k_is); (case k8 => ktr_room); (case k9 => exact BindsTo.of_eq rfl); (case c5 => decide); (case kB => exact locs rfl); (case c2 => exact rfl); (case c3 => exact rfl); (case c4 => exact rfl); k_whole; intro g' L' h' FG' F' N' B' X' T'; (try dsimp only); (try k_lift B'); (try k_fold))
    (repeat' (first | ((rename (Builtin.Str.occurrences _ _ _ _ _).isEmpty = _ => hK9); first | exact absurd hK9 (by decide +kernel) | clear hK9) | (k_unfold; (try dsimp only)) | (k_end; wrow_close) | walk1 | (dsimp only; walk1) | (leave1; walk_say "STEP leave1"; try dsimp only) | fail "no step"))
    · exact news_get (by assumption) (by k_mem)
    · exact news_get (by assumption) (by k_mem)
    · rename News h₀ L _ _ => kN9; exact hret _ _ _ _ (by assumption) (news_same kN9 (by decide +kernel))
end Mine
end
section
open PySem PySem.W PyProof.Rows PySem.Calls PySem.Spec
set_option Elab.async false
set_option maxRecDepth 100000
set_option maxHeartbeats 8000000
set_option linter.unusedSimpArgs false
namespace Mine

theorem pat_nl {w : World} {h : Heap} (X : (hd.heap_1 w.params).In h) : Pat h 55 nlCode := ⟨⟨_, _, 54, _, _, _, X 55 _ rfl, rfl, rfl, X 54 _ rfl, rfl, by decide +kernel, rfl, rfl, rfl, rfl⟩⟩
theorem pat_dot {w : World} {h : Heap} (X : (hd.heap_1 w.params).In h) : Pat h 50 dotCode := ⟨⟨_, _, 49, _, _, _, X 50 _ rfl, rfl, rfl, X 49 _ rfl, rfl, by decide +kernel, rfl, rfl, rfl, rfl⟩⟩
theorem f1_len : ∀ l : List Nat, (f1 l).length ≤ 2 * l.length := by
  intro l
  induction l using f1.induct with
  | case1 => simp [f1]
  | case2 r ih => simp only [f1, List.length_cons]; omega
  | case3 c r h1 h2 ih => rw [f1, if_pos h2]; · simp only [List.length_cons]; omega
                          · exact h1
  | case4 c r h1 h2 ih => rw [f1, if_neg h2]; · simp only [List.length_cons]; omega
                          · exact h1


local macro_rules | `(tactic| walk_at "getMethod ref") => `(tactic| (k_here; k_dflt (first | (with_reducible show wpAny _ _ (getMethod (Value.ref 50) (Str.ofString "sub") _) _ _ _; refine sub_method (pat_dot (by k_in)) ?_) | (with_reducible show wpAny _ _ (getMethod (Value.ref 55) (Str.ofString "sub") _) _ _ _; refine sub_method (pat_nl (by k_in)) ?_))))
local macro_rules | `(tactic| walk_at "call builtin:re.Pattern.sub") => `(tactic| ((rename Halt => hHalt9); k_here; refine Stop.mk ?_))

theorem quote_con (w : World) (x : Str) (t : Tok) (news : List (Addr × Obj)) (hx : x.cps.size ≤ 40000) :
  ∀ (dp un : Nat) (gd : Option (List Code)) (cn : Str) (cs : Scope) (a : Addr) (ccd : Value) (cl : List (Str × Addr)) (outer : List Env) (A₀ : Around) (base h₀ : Heap) (L : Addr) (m mg mb : Str → Option Value) (mean : ExcName → Option Value) (loose : List Str) (s : Shared) (Q E : Value → Shared → Prop),
    Below A₀ base outer h₀ → Fr h₀ L s.heap m → (hd.heap_1 w.params).In h₀ → News h₀ L s.heap news → Top topProg loose mean mg mb h₀ → cs.kind = .function → dp + 10 < recursionLimit → un + 100 < cLine →
    (∀ (h' : Heap) (tk' t' : Nat), Fr h₀ L h' m → News h₀ L h' news → Q (.str (quoted x) t') { s with heap := h', toks := tk' }) →
    wpAny (model PySem.Challenge.rw_kl0305_01.row.prog w) (ktrTop dp un gd cn cs L a ccd cl outer) (call (.ref 62) [.str x t]) Q E s := by
  intro dp un gd cn cs aa ccd cl outer A₀ base h₀ L m mg mb mean loose s Q E B F X N T hk hd hu hret
  w_top off
  have hHalt := halt
  refine wpAny_call ?_
  k_dflt (refine' code_def (binds := [(Str.ofString "data", .str x t)]) ?k1 ?k2 ?k3 ?k4 ?k5 ?kA ?kF ?kK ?k6 ?k7 ?k8 ?k9 ?kB ?_ ?c2 ?c3 ?c4 ?c5; (case kA => exact rfl); (case kF => exact rfl); (case kK => assumption); (case k1 => k_asm); (case k2 => k_asm); (case k3 => k_asm); (case k4 => k_asm); (case k5 => k_asm); (case k6 => k_is); (case k7 => k_is); (case k8 => ktr_room); (case k9 => exact BindsTo.of_eq rfl); (case c5 => decide); (case kB => exact locs rfl); (case c2 => exact rfl); (case c3 => exact rfl); (case c4 => exact rfl); k_whole; intro g' L' h' FG' F' N' B' X' T'; (try dsimp only); (try k_lift B'); (try k_fold))
  k_steps
  rename Fr _ _ _ _ => FR
  rename News _ _ _ _ => NR
  k_dflt (refine' Stop.of (sub_call (C := nlCode) (out := (f1 x.cps.toList).toArray) FR NR ?hP ?hz ?hr ?hb ?hs ?_); (case hP => (intro h9 F9; exact pat_nl (by k_in))); (case hz => omega); (case hr => decide +kernel); (case hb => decide +kernel); (case hs => exact nl_all x (by omega)))
  intro h1 tk1 t1 F1 N1
  have hlen := f1_len x.cps.toList
  k_steps
  k_dflt (refine' Stop.of (sub_call (C := dotCode) (out := (f2 true (f1 x.cps.toList)).toArray) F1 N1 ?hP ?hz ?hr ?hb ?hs ?_); (case hP => (intro h9 F9; exact pat_dot (by k_in))); (case hz => (simp only [List.size_toArray]; simp only [Array.length_toList] at hlen; omega)); (case hr => decide +kernel); (case hb => decide +kernel); (case hs => exact dot_all ⟨(f1 x.cps.toList).toArray⟩ (by simp only [List.size_toArray]; simp only [Array.length_toList] at hlen; omega)))
  intro h2 tk2 t2 F2 N2
  k_steps
  rename Fr h₀ L _ _ => F9
  rename News h₀ L _ _ => N9
  exact hret _ _ _ F9 N9
end Mine
end
section
open PySem PySem.W PyProof.Rows PySem.Calls PySem.Spec
set_option Elab.async false
set_option maxRecDepth 100000
set_option maxHeartbeats 8000000
set_option linter.unusedSimpArgs false
namespace Mine



local macro_rules | `(tactic| walk_at "call ref") => `(tactic| (k_here; (with_reducible show wpAny _ _ (call (Value.ref _) _ _) _ _ _); k_dflt (first
  | (refine' writer_con _ false _ _ _ _ _ _ _ _ _ _ _ _ _ _ _ _ _ _ _ _ _ _ _ _ ?k1 ?k2 ?k3 ?k4 ?k5 ?k6 ?k7 ?k8 ?_; (case k1 => k_asm); (case k2 => k_asm); (case k3 => k_asm); (case k4 => k_asm); (case k5 => k_asm); (case k6 => exact rfl); (case k7 => ktr_room); (case k8 => ktr_units); k_whole; intro x' d' es' n' h' tk' F' N' W' l1 l2; (try k_lt l1); (try k_lt2 l2))
  | (refine' writer_con _ true _ _ _ _ _ _ _ _ _ _ _ _ _ _ _ _ _ _ _ _ _ _ _ _ ?k1 ?k2 ?k3 ?k4 ?k5 ?k6 ?k7 ?k8 ?_; (case k1 => k_asm); (case k2 => k_asm); (case k3 => k_asm); (case k4 => k_asm); (case k5 => k_asm); (case k6 => exact rfl); (case k7 => ktr_room); (case k8 => ktr_units); k_whole; intro x' d' es' n' h' tk' F' N' W' l1 l2; (try k_lt l1); (try k_lt2 l2)))))

local macro_rules | `(tactic| walk_at "call ref") => `(tactic| ((rename Halt => hHalt9); k_here; (with_reducible show wpAny _ _ (call (Value.ref _) [Value.ref _, Value.str _ _]) _ _ _); refine Stop.mk ?_))
local macro_rules | `(tactic| walk_at "call builtin:str.join") => `(tactic| ((rename Halt => hHalt9); refine Stop.mk ?_))
section
variable {prog : Program} {w : World} {A : Around} {E : Value → Shared → Prop} {s : Shared} {x y : Str} {t u : Tok}
theorem add_tok {Q : Value → Shared → Prop} (hx : (x.length == 0) = false) (hy : (y.length == 0) = false) (hl : x.length + y.length ≤ sizeLine) (h : Q (.str (x ++ y) s.toks) { s with toks := s.toks + 1 }) :
    wpAny (model prog w) A (binaryOp .Add (.str x t) (.str y u)) Q E s := PySem.P.add_str (by
  rw [hx, hy]
  exact ⟨by rw [Str.length_append]; exact hl, h⟩)
end
local macro_rules | `(tactic| walk_at "binaryOp Add str str") => `(tactic| (k_here; (with_reducible show wpAny _ _ (binaryOp Operator.Add (Value.str _ _) (Value.str _ _)) _ _ _); (refine' add_tok ?kxaa ?kxab ?kxac ?_; (case kxaa => decide +kernel); (case kxab => decide +kernel); (case kxac => decide +kernel))))
local macro_rules | `(tactic| k_get) => `(tactic| assumption)
def pcOf (x : Int × Int × Int) : Str := if x.1 = x.2.1 then Str.ofString "<!--=&lt;-->" else if x.2.1 = x.2.2 then Str.ofString "<!--&lt;=-->" else Str.ofString "<!--&lt;&lt;-->"
def textsOf (ts : List (Int × Int × Int)) : List Str := ts.flatMap fun x => [pcOf x, Str.ofString "\n"]
theorem piece_pc (x : Int × Int × Int) : pieceOf x = pcOf x ++ Str.ofString "\n" := by
  unfold pieceOf pcOf; split
  · decide +kernel
  · split <;> decide +kernel
theorem pc_len (x : Int × Int × Int) : (pcOf x).length ≤ 17 := by
  unfold pcOf; split
  · decide +kernel
  · split <;> decide +kernel
theorem join_nil_cons (x : Str) (r : List Str) : Str.join (Str.ofString "") (x :: r) = x ++ Str.join (Str.ofString "") r := by
  cases r with
  | nil => exact (Str.append_empty x).symm
  | cons y r =>
    show x ++ Str.ofString "" ++ Str.join (Str.ofString "") (y :: r) = _
    rw [show Str.ofString "" = Str.empty from by decide +kernel, Str.append_empty]
theorem fold_piece (ts : List (Int × Int × Int)) : ∀ a : Str, ts.foldl (fun s x => s ++ pieceOf x) a = a ++ Str.join (Str.ofString "") (textsOf ts) := by
  induction ts with
  | nil => intro a; exact (Str.append_empty a).symm
  | cons x r ih =>
    intro a
    rw [List.foldl_cons, ih, show textsOf (x :: r) = pcOf x :: Str.ofString "\n" :: textsOf r from rfl, join_nil_cons, join_nil_cons, piece_pc]
    simp only [Str.append_assoc]
theorem glued_textsOf (ts : List (Int × Int × Int)) : Txt.join (Str.ofString "") (textsOf ts) = spelledOf ts := by
  show Builtin.Str.glued (Str.ofString "") (textsOf ts) = _
  rw [StrLaws.glued_eq_join, spelledOf, fold_piece, show Str.ofString "" = Str.empty from by decide +kernel, Str.empty_append]
theorem textsOf_sum (ts : List (Int × Int × Int)) : ((textsOf ts).map (·.length)).sum + (textsOf ts).length ≤ 20 * ts.length := by
  induction ts with
  | nil => simp [textsOf]
  | cons x r ih =>
    have h1 := pc_len x
    have h2 : (Str.ofString "\n").length = 1 := by decide +kernel
    simp only [textsOf, List.flatMap_cons, List.map_append, List.map_cons, List.map_nil, List.sum_append, List.sum_cons, List.sum_nil, List.length_append, List.length_cons, List.length_nil, h2] at ih ⊢
    omega

theorem page_con (w : World) (eA : Addr) (k : Nat) (es : List Value) (ts : List (Int × Int × Int)) (rest : List (Addr × Obj)) (hl : ts.length ≤ 2000) (hx : ∀ x ∈ ts, x.1 < x.2.2) (hD : DatAll rest es (ts.map datTri)) :
    Con w 216 ((eA, listOf (List.toArray es) k) :: rest) [.ref eA] (fun _ r => ∃ t, r = .str (spelledOf ts) t) := by
  intro dp un gd cn cs aa ccd cl outer A₀ base h₀ L m mg mb mean loose s Q E B F X N T hk hd hu hret
  w_top off
  have hHalt := halt
  refine wpAny_call ?_
  k_dflt (refine' code_def (binds := [(Str.ofString "entries", .ref eA)]) ?k1 ?k2 ?k3 ?k4 ?k5 ?kA ?kF ?kK ?k6 ?k7 ?k8 ?k9 ?kB ?_ ?c2 ?c3 ?c4 ?c5; (case kA => exact rfl); (case kF => exact rfl); (case kK => assumption); (case k1 => k_asm); (case k2 => k_asm); (case k3 => k_asm); (case k4 => k_asm); (case k5 => k_asm); (case k6 => k_is); (case k7 => k_is); (case k8 => ktr_room); (case k9 => exact BindsTo.of_eq rfl); (case c5 => decide); (case kB => exact locs rfl); (case c2 => exact rfl); (case c3 => exact rfl); (case c4 => exact rfl); k_whole; intro g' L' h' FG' F' N' B' X' T'; (try dsimp only); (try k_lift B'); (try k_fold))
  k_steps
  rename Fr _ _ _ _ => FR
  rename News _ _ _ _ => NR
  rename WriterIs true _ _ => W2
  rename WriterIs false _ _ => W1
  obtain ⟨wA, rfl⟩ := nm0 NR
  obtain ⟨x2, rfl⟩ := nm1 NR
  obtain ⟨d2, rfl⟩ := nm2 NR
  obtain ⟨q2, rfl⟩ := nm3 NR
  obtain ⟨x1, rfl⟩ := nm4 NR
  obtain ⟨d1, rfl⟩ := nm5 NR
  obtain ⟨q1, rfl⟩ := nm6 NR
  obtain ⟨oA, rfl⟩ := nm7 NR
  obtain ⟨n2, rfl⟩ := dn2 NR
  obtain ⟨n1, rfl⟩ := dn5 NR
  obtain ⟨es2, rfl⟩ := de2 NR
  obtain ⟨es1, rfl⟩ := de5 NR
  rename _ ∧ _ ∧ _ ∧ _ ∧ _ ∧ _ ∧ _ ∧ _ ∧ AllLt wA _ => lw
  rename q2 < d2 ∧ _ => ld
  rename x1 < q2 ∧ _ => lq
  rename d2 < x2 => lx
  rename oA < q1 ∧ _ => lo
  rename eA < oA ∧ _ => le
  have ao1 : below oA q2 := lq.2.2.2.1
  have ao2 : below q2 d2 := ld.1
  have ao3 : below d2 x2 := lx
  have ao4 : below oA wA := lw.2.2.2.2.2.2.1
  have ao5 : below eA oA := le.1
  have ao6 : below oA q1 := lo.1
  have ao7 : below oA d1 := by have h := ‹q1 < d1 ∧ _›; exact h.2.1
  have ao8 : below oA x1 := by have h := ‹d1 < x1›; exact Nat.lt_trans ao7 h
  have ax2 : apart x2 oA := by simp only [apart, below] at *; omega
  have ad2 : apart d2 oA := by simp only [apart, below] at *; omega
  have aq2 : apart q2 oA := by simp only [apart, below] at *; omega
  refine Stop.of (list_loop (fun (st : List Value × Nat) => [(oA, listOf (List.toArray st.1) st.2), (x2, instObj 174 d2), (d2, dictOf es2 n2), (q2, boundOf oA), (x1, instObj 174 d1), (d1, dictOf es1 n1), (q1, boundOf oA), (wA, listOf [.ref x1, .ref x2].toArray 0), (eA, listOf (List.toArray es) k)]) (fun _ => []) [Str.ofString "left", Str.ofString "one", Str.ofString "right", Str.ofString "writer"]
    (fun I i st tl => OwnOff tl [I, oA] ∧ below wA I ∧ (∀ p ∈ rest, p ∈ tl) ∧ st.1.length = 2 * i ∧ StrsAre st.1 (textsOf (ts.take i))) ([], 0) rest (n := k) (vs := es) rfl (by k_mem) rfl rfl FR NR ?_ ?_ ?_ ?_ ?_ ?_)
  · kst_anyIn
  · intro p hp; cases hp
  · rintro I ⟨i1, i2⟩
    refine ⟨off_add (off_lt i2.2.2.2.2.2.2.2.2) (off_add (off_lt le.2) off_nil), i1, fun _ h => h, rfl, .nil⟩
  · rintro I i st tl h
    simp
  · intro I i cc9a tl v hv cc9b u h tk o F₁ N₁ P9 hP9
    obtain ⟨its, kt⟩ := cc9a
    obtain ⟨o1, o2, o3, o4, o5⟩ := cc9b
    have hi : i < ts.length := by
      have := hD.length
      have h2 := (List.getElem?_eq_some_iff.mp hv).1
      simp at this; omega
    obtain ⟨v', hv', hvD⟩ := hD.get (k := i) (by simpa using hi)
    have ev : v' = v := by rw [hv] at hv'; exact (Option.some.inj hv').symm
    subst ev
    simp only [List.getElem_map] at hvD
    have hst : ts.take (i + 1) = ts.take i ++ [ts[i]] := by rw [List.take_add_one, List.getElem?_eq_getElem hi]; rfl
    have hxi := hx _ (List.getElem_mem hi)
    generalize ts[i] = x at hvD hst hxi
    rename Obj => o9
    obtain ⟨a1, a2, a3⟩ := x
    obtain ⟨T, kT, t1, t2, t3, rfl, hT⟩ := datTri_in hvD
    dsimp only [names, kstB, List.cons_append, List.nil_append] at F₁ N₁ o4 o5 hT hxi
    have eT1 : apart T oA := o1 _ (o3 _ hT) _ (by simp)
    have N₂ := news_more (by repeat (first | exact o3 _ hT | apply List.mem_cons_of_mem)) N₁
    clear N₁
    have W1' := W1
    have W2' := W2
    obtain ⟨w1, w2, ⟨tw, w3⟩, w4, w5, w6⟩ := W1'
    obtain ⟨y1, y2, ⟨ty, y3⟩, y4, y5, y6⟩ := W2'
    k_steps
    rename Fr _ _ _ _ => FR2
    rename News _ _ _ _ => NR2
    have eI : below oA I := by simp only [below] at *; omega
    refine Stop.of (list_loop (fun (st : List Value × Nat) => [(oA, listOf (List.toArray st.1) st.2), (x2, instObj 174 d2), (d2, dictOf es2 n2), (q2, boundOf oA), (x1, instObj 174 d1), (d1, dictOf es1 n1), (q1, boundOf oA), (wA, listOf [.ref x1, .ref x2].toArray 0), (eA, listOf (List.toArray es) k), (I, o9)]) (fun _ => []) [Str.ofString "writer"]
      (fun I2 j st tl2 => OwnOff tl2 [I, oA, I2] ∧ below I I2 ∧ (∀ p ∈ tl, p ∈ tl2) ∧ (j ≤ 1 → st.1 = its) ∧ (j = 2 → st.1.length = its.length + 2 ∧ StrsAre st.1 (textsOf (ts.take (i + 1))))) (its, kt) tl (n := 0) (vs := [.ref x1, .ref x2]) rfl (by k_mem) rfl rfl FR2 NR2 ?_ ?_ ?_ ?_ ?_ ?_)
    · kst_anyIn
    · intro p hp; cases hp
    · rintro I2 ⟨i1, i3, i2⟩
      exact ⟨off_add (off_at o1 (by simp)) (off_add (off_at o1 (by simp)) (off_add (off_lt i2.2.2.2.2.2.2.2.2.2) off_nil)), i3, fun _ h => h, fun _ => rfl, fun h => by cases h⟩
    · rintro I i st tl h
      simp
    · intro I2 j cc9a tl2 v hv2 cc9b u h tk o F₂ N₂ P8 hP8
      obtain ⟨its2, kt2⟩ := cc9a
      obtain ⟨p1, p2, p3, p4, p5⟩ := cc9b
      dsimp only [names, kstB, List.cons_append, List.nil_append] at F₂ N₂ p4 p5
      have hlen : its.length ≤ 5000 := by omega
      have hb : ∀ z : Nat, z < wA → z ≠ I2 := fun z h => Nat.ne_of_lt (Nat.lt_trans (Nat.lt_trans h o2) p2)
      have offR : OwnOff ((I2, o) :: (x1, instObj 174 d1) :: (d1, dictOf es1 n1) :: (q1, boundOf oA) :: (wA, listOf [.ref x1, .ref x2].toArray 0) :: (eA, listOf (List.toArray es) k) :: (I, o9) :: tl2) [oA] := by
        intro p hp b hb
        rw [List.mem_singleton.mp hb]
        simp only [List.mem_cons] at hp
        simp only [below] at p2 eI ao6 ao7 ao8 ao4 ao5
        rcases hp with rfl | rfl | rfl | rfl | rfl | rfl | rfl | hp
        · exact Nat.ne_of_gt (Nat.lt_trans eI p2)
        · exact Nat.ne_of_gt ao8
        · exact Nat.ne_of_gt ao7
        · exact Nat.ne_of_gt ao6
        · exact Nat.ne_of_gt ao4
        · exact Nat.ne_of_lt ao5
        · exact Nat.ne_of_gt eI
        · exact p1 p hp oA (by simp)
      match j, hv2 with
      | 0, hv2 =>
        obtain rfl : Value.ref x1 = v := by simpa using hv2
        obtain rfl : its2 = its := p4 (by omega)
        k_steps
        all_goals rename Fr g' L' _ _ => FC
        all_goals rename News g' L' _ _ => NC
        all_goals refine Stop.of ?_
        all_goals k_here
        all_goals k_dflt (refine' comment_out w x1 d1 q1 es1 n1 _ _ _ W1 _ _ _ _ _ _ _ _ _ _ _ _ _ _ _ _ _ _ _ _ _ ?k1 ?k2 ?k3 ?k4 ?k5 ?k6 ?k7 ?k8 ?_; (case k1 => k_asm); (case k2 => exact FC); (case k3 => k_asm); (case k4 => (refine' news_more ?ka (news_more ?kb NC); (case ka => (refine' List.Mem.tail _ ?_; k_mem)); (case kb => k_mem))); (case k5 => k_asm); (case k6 => exact rfl); (case k7 => ktr_room); (case k8 => ktr_units); k_whole; intro h9 tk9 F9 N9)
        all_goals replace N9 := N9.tail'.tail'
        all_goals k_steps
        all_goals refine hP8 _ _ (LPost.next (its2, kt2) tl2 F9 N9 ?_ ?_ ?_ ?_ ?_ ⟨p1, p2, p3, fun _ => rfl, fun h => by cases h⟩)
        all_goals first | (k_mem; done) | (kst_anyIn; done) | (simp only [List.forall_mem_cons, List.cons_append, List.nil_append]; exact ⟨hb _ lw.2.2.2.2.2.2.1, hb _ lw.1, hb _ lw.2.1, hb _ lw.2.2.1, hb _ lw.2.2.2.1, hb _ lw.2.2.2.2.1, hb _ lw.2.2.2.2.2.1, Nat.ne_of_lt (Nat.lt_trans o2 p2), hb _ lw.2.2.2.2.2.2.2.1, Nat.ne_of_lt p2, off_at p1 (b := I2) (by simp)⟩) | (intro p hp; cases hp; done) | ((intro z hz1 hz2; first | rfl | ((simp only [List.contains_cons, List.contains_nil, Bool.or_false, Bool.or_eq_false_iff, beq_eq_false_iff_ne, ne_eq] at hz2); (try simp only [List.forall_mem_cons, List.not_mem_nil, false_implies, implies_true, and_true, ne_eq] at hz1); (simp [hz1, hz2]; done))); done)
      | 1, hv2 =>
        obtain rfl : Value.ref x2 = v := by simpa using hv2
        obtain rfl : its2 = its := p4 (by omega)
        k_steps
        all_goals rename Fr g' L' _ _ => FC
        all_goals rename News g' L' _ _ => NC
        all_goals refine Stop.of ?_
        all_goals k_here
        all_goals first | (exfalso; omega) | skip
        all_goals k_dflt (refine' comment_in w x2 d2 q2 oA es2 n2 _ (pcOf (a1, a2, a3)) _ its2 kt2 ((I2, o) :: (x1, instObj 174 d1) :: (d1, dictOf es1 n1) :: (q1, boundOf oA) :: (wA, listOf [.ref x1, .ref x2].toArray 0) :: (eA, listOf (List.toArray es) k) :: (I, o9) :: tl2) W2 ax2 ad2 aq2 offR hlen ?hc _ _ _ _ _ _ _ _ _ _ _ _ _ _ _ _ _ _ _ _ _ ?k1 ?k2 ?k3 ?k4 ?k5 ?k6 ?k7 ?k8 ?k9 ?_; (case k1 => k_asm); (case k2 => exact FC); (case k3 => k_asm); (case k4 => exact NC.perm (by kst_anyIn)); (case k5 => k_asm); (case k6 => exact rfl); (case k7 => ktr_room); (case k8 => ktr_units); (case hc => first | exact Or.inl ⟨by decide +kernel, by unfold pcOf; dsimp only; rw [if_pos (by assumption)]⟩ | exact Or.inr (Or.inl ⟨by decide +kernel, by unfold pcOf; dsimp only; rw [if_neg (by assumption), if_pos (by assumption)]⟩) | exact Or.inr (Or.inr ⟨by decide +kernel, by unfold pcOf; dsimp only; rw [if_neg (by assumption), if_neg (by assumption)]⟩)); (case k9 => first | (dsimp only; omega) | exact Nat.succ_le_succ (Nat.zero_le _)); k_whole; intro h9 tk9 t9 t9' F9 N9)
        all_goals k_steps
        all_goals refine hP8 _ _ (LPost.next (its2 ++ [.str (pcOf (a1, a2, a3)) t9, .str (Str.ofString "\n") t9'], kt2 + 2) tl2 F9 N9 ?_ ?_ ?_ ?_ ?_ ⟨p1, p2, p3, fun h => absurd h (by omega), fun _ => ⟨by simp, ?_⟩⟩)
        all_goals first | (k_mem; done) | (kst_anyIn; done) | (simp only [List.forall_mem_cons, List.cons_append, List.nil_append]; exact ⟨hb _ lw.2.2.2.2.2.2.1, hb _ lw.1, hb _ lw.2.1, hb _ lw.2.2.1, hb _ lw.2.2.2.1, hb _ lw.2.2.2.2.1, hb _ lw.2.2.2.2.2.1, Nat.ne_of_lt (Nat.lt_trans o2 p2), hb _ lw.2.2.2.2.2.2.2.1, Nat.ne_of_lt p2, off_at p1 (b := I2) (by simp)⟩) | (intro p hp; cases hp; done) | ((intro z hz1 hz2; first | rfl | ((simp only [List.contains_cons, List.contains_nil, Bool.or_false, Bool.or_eq_false_iff, beq_eq_false_iff_ne, ne_eq] at hz2); (try simp only [List.forall_mem_cons, List.not_mem_nil, false_implies, implies_true, and_true, ne_eq] at hz1); (simp [hz1, hz2]; done))); done) | (rw [hst, textsOf, List.flatMap_append]; exact strsAre_append o5 (.cons _ _ (.cons _ _ .nil)))
      | j + 2, hv2 => simp at hv2
    · rintro I2 ⟨its2, kt2⟩ tl2 ⟨p1, p2, p3, p4, p5⟩ u h tk F₂ N₂
      dsimp only [names, kstB, List.cons_append, List.nil_append] at F₂ N₂ p4 p5
      have hb : ∀ z : Nat, z < wA → z ≠ I := fun z h => Nat.ne_of_lt (Nat.lt_trans h o2)
      obtain ⟨q1, q2⟩ := p5 rfl
      k_steps
      refine hP9 _ _ (LPost.next (its2, kt2) tl2 F₂ N₂ ?_ ?_ ?_ ?_ ?_ ⟨off_sub p1 (by simp), o2, fun p hp => p3 p (o3 p hp), by dsimp only; omega, q2⟩)
      all_goals first | (k_mem; done) | (kst_anyIn; done) | (simp only [List.forall_mem_cons, List.cons_append, List.nil_append]; exact ⟨hb _ lw.2.2.2.2.2.2.1, hb _ lw.1, hb _ lw.2.1, hb _ lw.2.2.1, hb _ lw.2.2.2.1, hb _ lw.2.2.2.2.1, hb _ lw.2.2.2.2.2.1, Nat.ne_of_lt o2, hb _ lw.2.2.2.2.2.2.2.1, off_at p1 (b := I) (by simp)⟩) | (intro p hp; cases hp; done) | ((intro z hz1 hz2; first | rfl | ((simp only [List.contains_cons, List.contains_nil, Bool.or_false, Bool.or_eq_false_iff, beq_eq_false_iff_ne, ne_eq] at hz2); (try simp only [List.forall_mem_cons, List.not_mem_nil, false_implies, implies_true, and_true, ne_eq] at hz1); (simp [hz1, hz2]; done))); done)
  · rintro I ⟨its, kt⟩ tl ⟨o1, o2, o3, o4, o5⟩ u h tk F₁ N₁
    dsimp only [names, kstB, List.cons_append, List.nil_append] at F₁ N₁ o4 o5
    have hle : es.length = ts.length := by have := hD.length; simpa using this
    rw [hle, List.take_length] at o5
    k_steps
    have hsum := textsOf_sum ts
    refine Stop.of (join_listW (ys := textsOf ts) (News.isList N₁ (by k_mem)) o5 (by decide +kernel) (by omega) ?_)
    intro t9 k9
    rw [glued_textsOf]
    k_steps
    rename Fr h₀ L _ _ => F3
    rename News h₀ L _ _ => N3
    refine hret _ [] h k9 F3 ?_ ⟨t9, rfl⟩
    refine news_pick N3 ?_
    intro p hp
    simp only [List.nil_append, List.mem_cons] at hp ⊢
    rcases hp with hp | hp
    · simp [hp]
    · simp [o3 p hp]
end Mine
end
section
open PySem PySem.W PyProof.Rows PySem.Calls PySem.Spec
set_option Elab.async false
set_option maxRecDepth 100000
set_option maxHeartbeats 8000000
set_option linter.unusedSimpArgs false
namespace Mine

section
variable {prog : Program} {w : World} {A : Around} {E : Value → Shared → Prop} {s : Shared} {value slice : PySem.Expr} {x : Str} {t : Tok} {h₀ : Heap} {L : Addr} {m : Str → Option Value} {news : List (Addr × Obj)} {Q : Value → Shared → Prop}
theorem post_vs {s : Shared} {c : Prop} [Decidable c] {y z : Str} {t : Tok} {Q : Value → Shared → Prop} (h : (if c then y else z).length ≤ sizeLine ∧ ∀ t' k, s.toks ≤ k → Q (.str (if c then y else z) t') { s with toks := k }) :
    (if c then Made.val (.str y t) else Made.str z).post Q s := by
  by_cases hc : c
  · rw [if_pos hc]; have h' := h.2 t s.toks (Nat.le_refl _); rw [if_pos hc] at h'; exact h'
  · rw [if_neg hc]; have h' := h.2 s.toks (s.toks + 1) (Nat.le_succ _); have h1 := h.1; rw [if_neg hc] at h' h1; exact ⟨h1, h'⟩
theorem slice_tok {i j : Int} {ui uj : Tok} (hF : Fr h₀ L s.heap m) (hN : News h₀ L s.heap news) (h : ∀ h' t' k, Fr h₀ L h' m → News h₀ L h' news → s.toks ≤ k → Q (.str (Txt.slice x (some i) (some j)) t') { s with heap := h', toks := k })
    (hs : subscripted slice false (.str x t) (.ref s.heap.objs.size) = operate [.ref s.heap.objs.size, .str x t] (getItem (.str x t) (.ref s.heap.objs.size)) := by with_unfolding_all rfl)
    (ht : ∀ r, letTemporaryGo value (.str x t) r = pure () := by intro _; with_unfolding_all rfl) (hsz : x.length ≤ sizeLine := by size_fits) :
    wpAny (model prog w) A (subscriptTail value slice (.str x t) (.ref s.heap.objs.size)) Q E { s with heap := s.heap.push { cls := .type "slice", data := .fields #[.int i ui, .int j uj, .none] } } :=
  tail_of_ItemOn ⟨"str", _, F.slot_str_getitem.lookup, typeIs_str _ _ _, wpAny_getItem_str_slice (l := some (i, ui)) (u := some (j, uj)) (st := none) ⟨_, Heap.get?_push_size _ rfl, rfl, rfl⟩ rfl
    (post_vs ⟨Nat.le_trans (Txt.slice_le x _ _) hsz, fun t' k hk => h _ t' k (Fr.pushS hF _) (hN.pushKeep _) hk⟩)⟩ hs ht
end


local macro_rules | `(tactic| walk_at "subscriptTail Name BinOp ref int") => `(tactic| ((rename Halt => hHalt9); (fail_if_success (with_reducible show wpAny _ _ (subscriptTail _ _ (Value.ref _) (Value.int (OfNat.ofNat _) _)) _ _ _)); refine Stop.mk ?_))
local macro_rules | `(tactic| walk_at "subscriptTail List BinOp ref int") => `(tactic| (k_here; k_dflt (refine kba_turn (value' := PySem.Expr.Name (PySem.Str.ofString "_") ⟨0, 0, 0, 0⟩) (fun _ => rfl) ?_)))
local macro_rules | `(tactic| walk_at "subscriptTail Name Slice str ref") => `(tactic| (k_here; (with_reducible show wpAny _ _ (subscriptTail _ (Expr.Slice (some _) (some _) none _) (Value.str _ _) (Value.ref _)) _ _ _); (with_reducible rename Fr _ _ _ _ => F'); (with_reducible rename News _ _ _ _ => N'); (refine slice_tok (hsz := ?hsz) (s := ⟨_, _, _, _, _⟩) F' N' ?_); (case hsz => first | (simp only [PySem.sizeLine_eq]; omega) | (with_unfolding_all exact Nat.le_of_ble_eq_true rfl)); intro _ _ _ _ _ hTok7; (try dsimp only at hTok7)))
local macro_rules | `(tactic| walk_at "execs cons") => `(tactic| (k_here; (rename 1 ≤ _ => hTok8); (with_reducible refine tok_cons (by first | assumption | (dsimp only; omega)) ?_); (try dsimp only)))
local macro_rules | `(tactic| walk_at "forall") => `(tactic| ((with_reducible show 1 ≤ _ → _); intro hTok9; (try dsimp only at hTok9)))
local macro_rules | `(tactic| walk_at "call builtin:str.replace") => `(tactic| (k_here; (with_reducible show wpAny _ _ (call (Value.builtin _) [Value.str _ _, Value.str _ _, Value.str _ _]) _ _ _); k_dflt (refine' PySem.SC.replaceW ?hu ?hv ?huv ?hyz ?hx ?hz ?_; (case hu => first | assumption | (exact Nat.ne_of_gt hTok8) | (exact Nat.succ_ne_zero _) | (show _ ≠ (0:Nat); omega)); (case hv => first | (exact Nat.succ_ne_zero _) | (show _ ≠ (0:Nat); omega)); (case huv => exact Nat.ne_of_lt (Nat.lt_succ_self _)); (case hyz => decide +kernel); (case hx => first | (refine Nat.le_trans (Txt.slice_le _ _ _) ?_; omega) | decide +kernel); (case hz => decide +kernel); k_whole); intro _ _))
local macro_rules | `(tactic| walk_at "binaryOp Add str str") => `(tactic| ((rename Halt => hHalt9); k_here; refine Stop.mk ?_))
local macro_rules | `(tactic| walk_at "inplaceOp Add str str") => `(tactic| ((rename Halt => hHalt9); k_here; refine Stop.mk ?_))
local macro_rules | `(tactic| walk_at "call ref") => `(tactic| ((rename Halt => hHalt9); k_here; (with_reducible show wpAny _ _ (call (Value.ref 62) [Value.str _ _]) _ _ _); refine Stop.mk ?_))
local macro_rules | `(tactic| walk_at "call builtin:str.split") => `(tactic| ((rename Halt => hHalt9); k_here; refine Stop.mk ?_))

theorem pick_last (xs : List Value) : slicePick xs.toArray none (some (-1)) none = xs.dropLast.toArray := by
  rw [kms_pick_eq]
  congr 1
  unfold kms_pick kms_lo kms_hi
  simp [List.dropLast_eq_take]
theorem mail_snoc (e : Int) (ts : List (Int × Int × Int)) (x : Int × Int × Int) : mailL e 0 (ts ++ [x]) = mailL e 0 ts ++ (midL x ++ endL (e + (ts.length : Int))) := by
  unfold mailL
  rw [List.zipIdx_append]
  simp
theorem mid_of (x : Int × Int × Int) : Txt.replace (Txt.slice (pcOf x) (some 4) (some (-3))) (Str.ofString "&lt;") (Str.ofString ".") = ⟨(midL x).toArray⟩ := by
  unfold pcOf midL
  split
  · decide +kernel
  · split <;> decide +kernel
theorem mid_len (x : Int × Int × Int) : (midL x).length = 2 := by
  unfold midL; split; rfl; split <;> rfl
theorem spelled_list (ts : List (Int × Int × Int)) : (spelledOf ts).cps.toList = flat [10] (ts.map fun x => (pcOf x).cps.toList) := by
  have key : ∀ (ts : List (Int × Int × Int)) (a : Str), (ts.foldl (fun s x => s ++ pieceOf x) a).cps.toList = a.cps.toList ++ flat [10] (ts.map fun x => (pcOf x).cps.toList) := by
    intro ts
    induction ts with
    | nil => intro a; simp [flat]
    | cons x r ih =>
      intro a
      rw [List.foldl_cons, ih, piece_pc]
      show ((a ++ (pcOf x ++ Str.ofString "\n")).cps).toList ++ _ = _
      have e : ((a ++ (pcOf x ++ Str.ofString "\n")).cps).toList = a.cps.toList ++ ((pcOf x).cps.toList ++ [10]) := by
        show (a.cps ++ ((pcOf x).cps ++ #[10])).toList = _
        simp
      rw [e]; simp [flat]
  have := key ts (Str.ofString "")
  unfold spelledOf
  rw [this]; rfl
theorem pc_no (x : Int × Int × Int) : 10 ∉ (pcOf x).cps.toList := by
  unfold pcOf; split
  · decide +kernel
  · split <;> decide +kernel
theorem spelled_split (ts : List (Int × Int × Int)) : Txt.split (spelledOf ts) (Str.ofString "\n") = ts.map pcOf ++ [Str.empty] := by
  rw [split_rows (spelledOf ts) (Str.ofString "\n") 10 [] rfl (by decide +kernel) (ts.map fun x => (pcOf x).cps.toList) (by
    intro r hr
    obtain ⟨x, _, rfl⟩ := List.mem_map.mp hr
    exact pc_no x) (spelled_list ts)]
  simp [List.map_map, Function.comp_def]
theorem mail_split (e : Int) (ts : List (Int × Int × Int)) (n : Nat) : Txt.split (mailN e ts (n + 1)) (Str.ofString "\r\n") = ts.map (fun x => (⟨(rowN (n + 1) x).toArray⟩ : Str)) ++ [Str.empty] := by
  rw [split_rows (mailN e ts (n + 1)) (Str.ofString "\r\n") 13 [10] rfl (by decide +kernel) (ts.map (rowN (n + 1))) (by
    intro r hr
    obtain ⟨x, _, rfl⟩ := List.mem_map.mp hr
    exact (row_no _ x).2) (mailN_list e ts n)]
  simp [List.map_map, Function.comp_def]
theorem spelled_len (ts : List (Int × Int × Int)) : (spelledOf ts).length ≤ 20 * ts.length := by
  have key : ∀ (ts : List (Int × Int × Int)) (a : Str), (ts.foldl (fun s x => s ++ pieceOf x) a).length ≤ a.length + 20 * ts.length := by
    intro ts
    induction ts with
    | nil => intro a; simp
    | cons x r ih =>
      intro a
      have h1 := ih (a ++ pieceOf x)
      have h2 := pc_len x
      have h3 : (pieceOf x).length ≤ 18 := by rw [piece_pc, Str.length_append, show (Str.ofString "\n").length = 1 from by decide +kernel]; omega
      rw [Str.length_append] at h1
      rw [List.foldl_cons, List.length_cons]
      omega
  have := key ts (Str.ofString "")
  have e0 : (Str.ofString "").length = 0 := by decide +kernel
  unfold spelledOf
  omega

theorem dots_con (w : World) (ts : List (Int × Int × Int)) (times ends : Int) (t1 t2 t3 : Tok) (rest : List (Addr × Obj)) (hl : ts.length ≤ 2000) (ht : 1 ≤ times ∧ times ≤ 3) (he : 0 ≤ ends ∧ ends ≤ 1000000) :
    Con w 228 rest [.str (spelledOf ts) t1, .int times t2, .int ends t3] (fun led r => ∃ D ys, r = .ref D ∧ (D, LCg.lst ys) ∈ led ∧ IntsAre ys (ts.map (dotsOf times.toNat))) := by
  intro dp un gd cn cs aa ccd cl outer A₀ base h₀ L m mg mb mean loose s Q E B F X N T hk hd hu hret
  w_top off
  have hHalt := halt
  refine wpAny_call ?_
  k_dflt (refine' code_def (binds := [(Str.ofString "page", .str (spelledOf ts) t1), (Str.ofString "times", .int times t2), (Str.ofString "ends", .int ends t3)]) ?k1 ?k2 ?k3 ?k4 ?k5 ?kA ?kF ?kK ?k6 ?k7 ?k8 ?k9 ?kB ?_ ?c2 ?c3 ?c4 ?c5; (case kA => exact rfl); (case kF => exact rfl); (case kK => assumption); (case k1 => k_asm); (case k2 => k_asm); (case k3 => k_asm); (case k4 => k_asm); (case k5 => k_asm); (case k6 => k_is); (case k7 => k_is); (case k8 => ktr_room); (case k9 => exact BindsTo.of_eq rfl); (case c5 => decide); (case kB => exact locs rfl); (case c2 => exact rfl); (case c3 => exact rfl); (case c4 => exact rfl); k_whole; intro g' L' h' FG' F' N' B' X' T'; (try dsimp only); (try k_lift B'); (try k_fold))
  k_steps
  rename Fr _ _ _ _ => FR
  rename News _ _ _ _ => NR
  have hsl := spelled_len ts
  k_dflt (refine' Stop.of (KSpl.split1 FR NR ?hy ?_ ?hz); (case hy => decide +kernel); (case hz => (simp only [PySem.sizeLine_eq]; omega)))
  intro D l h1 k1 e1 a1 F1 N1 l1
  have l1 := allLt_of l1
  rw [spelled_split] at e1
  k_steps
  rename News _ _ _ _ => N2
  rename Fr _ _ _ _ => F2
  dsimp only at N2 F2 ⊢
  rw [pick_last] at N2
  generalize h1.objs.size + 1 = D2 at N2 ⊢
  obtain ⟨l', hl'⟩ : ∃ x, x = l.dropLast := ⟨_, rfl⟩
  have hv' : (strValues l).dropLast = strValues l' := by rw [hl']; unfold strValues; rw [List.map_dropLast]
  have e2 : l'.map (·.1) = ts.map pcOf := by
    have := congrArg List.dropLast e1
    rw [← List.map_dropLast, ← hl', List.dropLast_concat] at this
    exact this
  rw [hv'] at N2
  have N3 : News g' L' _ ((D2, listOf (strValues l').toArray 0) :: rest) := News.perm N2 (fun p hp => by
    rcases List.mem_cons.mp hp with rfl | hp
    · exact List.mem_cons_self ..
    · exact List.mem_cons_of_mem _ (List.mem_cons_of_mem _ hp))
  obtain ⟨mt, hmt⟩ := fr_str F2 (x := Str.ofString "mail") rfl
  refine Stop.of (list_loop (fun (st : (Str × Tok) × (Int × Tok)) => [(D2, listOf (strValues l').toArray 0)]) (fun st => [(Str.ofString "mail", .str st.1.1 st.1.2), (Str.ofString "k", .int st.2.1 st.2.2)]) [Str.ofString "line"]
    (fun I i st tl => below D2 I ∧ (∀ p ∈ rest, p ∈ tl) ∧ (∀ p ∈ tl, p.1 ≠ I) ∧ st.1.1.length ≤ 4 * i ∧ st.1.1 = ⟨(mailL ends 0 (ts.take i)).toArray⟩ ∧ st.2.1 = ends + (i : Int)) ((Str.ofString "", mt), (ends, t3)) rest (n := 0) (vs := strValues l') rfl (by k_mem) rfl rfl F2 N3 ?_ ?_ ?_ ?_ ?_ ?_)
  · kst_anyIn
  · intro p hp
    rcases List.mem_cons.mp hp with rfl | hp
    · exact hmt
    · rw [List.mem_singleton.mp hp]; rfl
  · rintro I ⟨i1, i2⟩
    exact ⟨i1, fun _ h => h, off_lt i2, by show (Str.ofString "").length ≤ 0; decide +kernel, rfl, by simp⟩
  · rintro I i st tl h
    simp
  · intro I i cc9a tl v hv cc9b u h tk o F₁ N₁ P9 hP9
    obtain ⟨⟨mail, mt⟩, ⟨kk, kt⟩⟩ := cc9a
    obtain ⟨o1, o2, o3, o4, o5, o6⟩ := cc9b
    have hi : i < ts.length := by
      have h2 := (List.getElem?_eq_some_iff.mp hv).1
      have := congrArg List.length e2
      simp [strValues] at h2 this; omega
    have hst : ts.take (i + 1) = ts.take i ++ [ts[i]] := by rw [List.take_add_one, List.getElem?_eq_getElem hi]; rfl
    have hlx : (ts.take i).length = i := by rw [List.length_take]; omega
    obtain ⟨tv, rfl⟩ : ∃ tv, v = .str (pcOf ts[i]) tv := by
      have := congrArg (·[i]?) e2
      simp only [List.getElem?_map, List.getElem?_eq_getElem hi, Option.map_some] at this
      simp only [strValues, List.getElem?_map] at hv
      cases hli : l'[i]? with
      | none => rw [hli] at this; cases this
      | some p =>
        rw [hli] at this hv
        simp only [Option.map_some, Option.some.injEq] at this hv
        exact ⟨p.2, by rw [← hv, ← this]⟩
    generalize ts[i] = x at hst hv
    dsimp only [names, kstB, List.cons_append, List.nil_append] at F₁ N₁ o4 o5 o6
    have hpl := pc_len x
    have hmid := mid_of x
    have hm2 := mid_len x
    have hml : (⟨(midL x).toArray⟩ : Str).length = 2 := by show (midL x).toArray.size = 2; rw [List.size_toArray]; exact hm2
    generalize pcOf x = pc at hpl hmid F₁ N₁ ⊢
    k_steps
    refine Stop.of ?_
    simp only [hmid]
    have hf : kk.fmod 3 = kk % 3 := Int.fmod_eq_emod_of_nonneg kk (by decide)
    have hc3 : kk % 3 = 0 ∨ kk % 3 = 1 ∨ kk % 3 = 2 := by omega
    rcases hc3 with h3 | h3 | h3
    all_goals rw [hf, h3]
    all_goals k_steps
    have n1 : (Str.ofString "\n").length = 1 := by decide +kernel
    have n2 : (Str.ofString "\r").length = 1 := by decide +kernel
    have n3 : (Str.ofString "\r\n").length = 2 := by decide +kernel
    all_goals (k_dflt (refine' Stop.of (SBL.add (hsz := ?hsz) ?_); (case hsz => (simp only [PySem.sizeLine_eq, hml]; first | (rw [show (Str.ofString "\n").length = 1 from by decide +kernel]; omega) | (rw [show (Str.ofString "\r").length = 1 from by decide +kernel]; omega) | (rw [show (Str.ofString "\r\n").length = 2 from by decide +kernel]; omega)))))
    all_goals intro t8 k8 h8
    all_goals k_steps
    · have hn : (Str.ofString "\n").length = 1 := by decide +kernel
      have hz4 : mail.length + ((⟨(midL x).toArray⟩ : Str) ++ Str.ofString "\n").length ≤ 100000 := by rw [Str.length_append, hml, hn]; omega
      k_dflt (refine' Stop.of (SBL.iadd (hsz := ?hsz) ?_); (case hsz => (simp only [PySem.sizeLine_eq]; omega)))
      intro t7 k7 h7
      k_steps
      rename Fr _ _ _ _ => F4
      rename News _ _ _ _ => N4
      obtain ⟨kt', hkt'⟩ := fr_int F4 (x := Str.ofString "k") rfl
      refine hP9 _ _ (LPost.next ((mail ++ ((⟨(midL x).toArray⟩ : Str) ++ Str.ofString "\n"), t7), (kk + 1, kt')) tl F4 N4 ?_ ?_ ?_ ?_ ?_ ⟨o1, o2, o3, ?_, ?_, ?_⟩)
      · simp
      · kst_anyIn
      · simp only [List.forall_mem_cons, List.cons_append, List.nil_append]
        exact ⟨Nat.ne_of_lt o1, o3⟩
      · intro p hp
        rcases List.mem_cons.mp hp with rfl | hp
        · rfl
        · rw [List.mem_singleton.mp hp]; exact hkt'
      · (intro z hz1 hz2; first | rfl | ((simp only [List.contains_cons, List.contains_nil, Bool.or_false, Bool.or_eq_false_iff, beq_eq_false_iff_ne, ne_eq] at hz2); (try simp only [List.forall_mem_cons, List.not_mem_nil, false_implies, implies_true, and_true, ne_eq] at hz1); (simp [hz1, hz2]; done)))
      · dsimp only; rw [Str.length_append, Str.length_append, hml, hn]; omega
      · dsimp only
        rw [hst, mail_snoc, hlx, ← o6, o5]
        unfold endL
        rw [if_pos h3]
        refine Str.ext' ?_
        simp [Str.cps_append]
        try rfl
      · dsimp only; omega
    · have hn : (Str.ofString "\r").length = 1 := by decide +kernel
      have hz4 : mail.length + ((⟨(midL x).toArray⟩ : Str) ++ Str.ofString "\r").length ≤ 100000 := by rw [Str.length_append, hml, hn]; omega
      k_dflt (refine' Stop.of (SBL.iadd (hsz := ?hsz) ?_); (case hsz => (simp only [PySem.sizeLine_eq]; omega)))
      intro t7 k7 h7
      k_steps
      rename Fr _ _ _ _ => F4
      rename News _ _ _ _ => N4
      obtain ⟨kt', hkt'⟩ := fr_int F4 (x := Str.ofString "k") rfl
      refine hP9 _ _ (LPost.next ((mail ++ ((⟨(midL x).toArray⟩ : Str) ++ Str.ofString "\r"), t7), (kk + 1, kt')) tl F4 N4 ?_ ?_ ?_ ?_ ?_ ⟨o1, o2, o3, ?_, ?_, ?_⟩)
      · simp
      · kst_anyIn
      · simp only [List.forall_mem_cons, List.cons_append, List.nil_append]
        exact ⟨Nat.ne_of_lt o1, o3⟩
      · intro p hp
        rcases List.mem_cons.mp hp with rfl | hp
        · rfl
        · rw [List.mem_singleton.mp hp]; exact hkt'
      · (intro z hz1 hz2; first | rfl | ((simp only [List.contains_cons, List.contains_nil, Bool.or_false, Bool.or_eq_false_iff, beq_eq_false_iff_ne, ne_eq] at hz2); (try simp only [List.forall_mem_cons, List.not_mem_nil, false_implies, implies_true, and_true, ne_eq] at hz1); (simp [hz1, hz2]; done)))
      · dsimp only; rw [Str.length_append, Str.length_append, hml, hn]; omega
      · dsimp only
        rw [hst, mail_snoc, hlx, ← o6, o5]
        unfold endL
        rw [if_neg (by rw [h3]; decide), if_pos h3]
        refine Str.ext' ?_
        simp [Str.cps_append]
        try rfl
      · dsimp only; omega
    · have hn : (Str.ofString "\r\n").length = 2 := by decide +kernel
      have hz4 : mail.length + ((⟨(midL x).toArray⟩ : Str) ++ Str.ofString "\r\n").length ≤ 100000 := by rw [Str.length_append, hml, hn]; omega
      k_dflt (refine' Stop.of (SBL.iadd (hsz := ?hsz) ?_); (case hsz => (simp only [PySem.sizeLine_eq]; omega)))
      intro t7 k7 h7
      k_steps
      rename Fr _ _ _ _ => F4
      rename News _ _ _ _ => N4
      obtain ⟨kt', hkt'⟩ := fr_int F4 (x := Str.ofString "k") rfl
      refine hP9 _ _ (LPost.next ((mail ++ ((⟨(midL x).toArray⟩ : Str) ++ Str.ofString "\r\n"), t7), (kk + 1, kt')) tl F4 N4 ?_ ?_ ?_ ?_ ?_ ⟨o1, o2, o3, ?_, ?_, ?_⟩)
      · simp
      · kst_anyIn
      · simp only [List.forall_mem_cons, List.cons_append, List.nil_append]
        exact ⟨Nat.ne_of_lt o1, o3⟩
      · intro p hp
        rcases List.mem_cons.mp hp with rfl | hp
        · rfl
        · rw [List.mem_singleton.mp hp]; exact hkt'
      · (intro z hz1 hz2; first | rfl | ((simp only [List.contains_cons, List.contains_nil, Bool.or_false, Bool.or_eq_false_iff, beq_eq_false_iff_ne, ne_eq] at hz2); (try simp only [List.forall_mem_cons, List.not_mem_nil, false_implies, implies_true, and_true, ne_eq] at hz1); (simp [hz1, hz2]; done)))
      · dsimp only; rw [Str.length_append, Str.length_append, hml, hn]; omega
      · dsimp only
        rw [hst, mail_snoc, hlx, ← o6, o5]
        unfold endL
        rw [if_neg (by rw [h3]; decide), if_neg (by rw [h3]; decide)]
        refine Str.ext' ?_
        simp [Str.cps_append]
        try rfl
      · dsimp only; omega
  · rintro I ⟨⟨mail, mt⟩, ⟨kk, kt⟩⟩ tl ⟨o1, o2, o3, o4, o5, o6⟩ u h tk F₁ N₁
    dsimp only [names, kstB, List.cons_append, List.nil_append] at F₁ N₁ o4 o5 o6
    have hle : l'.length = ts.length := by have := congrArg List.length e2; simpa using this
    have hvl : (strValues l').length = ts.length := by simpa [strValues] using hle
    rw [hvl, List.take_length] at o5
    k_steps
    rename Fr _ _ _ _ => F5
    rename News _ _ _ _ => N5
    rename IsRange _ _ _ _ _ _ _ _ => hR
    change IsRange _ _ 0 times 1 _ _ _ at hR
    refine Stop.of (range_loop (fun (st : Str × Tok) => []) (fun st => [(Str.ofString "mail", .str st.1 st.2)]) [Str.ofString "turn"]
      (fun I i st tl => (∀ p ∈ rest, p ∈ tl) ∧ (∀ p ∈ tl, p.1 ≠ I) ∧ st.1 = mailN ends ts i) (mail, mt) rest rfl hR F5 N5 ?_ ?_ ?_ ?_ ?_ ?_ ?_ ?_ ?_ ?_)
    · intro p hp; simp only [List.nil_append] at hp; first | exact o2 p hp | simp [o2 p hp]
    · intro p hp; rw [List.mem_singleton.mp hp]; rfl
    · decide
    · omega
    · omega
    · omega
    · omega
    · rintro J hJ
      exact ⟨fun _ h => h, fun p hp => Nat.ne_of_lt (allLt_mem hJ p (by first | exact o2 p hp | simp [o2 p hp])), o5⟩
    · intro J j cc9a tl2 hj cc9b t9 u9 h9 tk9 ob F6 N6 P9 hP9
      obtain ⟨ml, mlt⟩ := cc9a
      obtain ⟨p1, p2, p3⟩ := cc9b
      dsimp only [names, kstB, List.cons_append, List.nil_append] at F6 N6 p3
      have hsz : ml.cps.size ≤ 40000 := by rw [p3]; exact mailN_size ends ts hl j (by omega)
      k_steps
      rename Fr _ _ _ _ => F7
      rename News _ _ _ _ => N7
      refine Stop.of ?_
      k_here
      k_dflt (refine' quote_con w ml mlt _ hsz _ _ _ _ _ _ _ _ _ _ _ _ _ _ _ _ _ _ _ _ _ ?k1 ?k2 ?k3 ?k4 ?k5 ?k6 ?k7 ?k8 ?_; (case k1 => k_asm); (case k2 => exact F7); (case k3 => k_asm); (case k4 => exact N7); (case k5 => k_asm); (case k6 => exact rfl); (case k7 => ktr_room); (case k8 => ktr_units); k_whole; intro h10 tk10 t10 F8 N8)
      k_steps
      rename Fr _ _ _ _ => F9
      rename News _ _ _ _ => N9
      refine hP9 _ _ (LPost.next (quoted ml, t10) tl2 F9 N9 ?_ ?_ ?_ ?_ ?_ ⟨p1, p2, by rw [p3]; rfl⟩)
      · simp
      · intro p hp; simp only [List.nil_append] at hp; simp [hp]
      · intro p hp; simp only [List.nil_append] at hp; exact p2 p hp
      · intro p hp; rw [List.mem_singleton.mp hp]; rfl
      · (intro z hz1 hz2; first | rfl | ((simp only [List.contains_cons, List.contains_nil, Bool.or_false, Bool.or_eq_false_iff, beq_eq_false_iff_ne, ne_eq] at hz2); (try simp only [List.forall_mem_cons, List.not_mem_nil, false_implies, implies_true, and_true, ne_eq] at hz1); (simp [hz1, hz2]; done)))
    · rintro J ⟨ml, mlt⟩ tl2 ⟨p1, p2, p3⟩ u9 h9 tk9 F6 N6
      dsimp only [names, kstB, List.cons_append, List.nil_append] at F6 N6 p3
      obtain ⟨n, hn⟩ : ∃ n, (times - 0).toNat = n + 1 := ⟨times.toNat - 1, by omega⟩
      rw [hn] at p3
      have hsz := mailN_size ends ts hl (n + 1) (by omega)
      rw [← p3] at hsz
      k_steps
      rename Fr _ _ _ _ => F7
      rename News _ _ _ _ => N7
      k_dflt (refine' Stop.of (KSpl.split1 F7 N7 ?hy ?_ ?hz); (case hy => decide +kernel); (case hz => (simp only [PySem.sizeLine_eq]; show ml.cps.size + 2 ≤ _; omega)))
      intro D3 l3 h11 k11 e11 a11 F8 N8 l11
      rw [p3, mail_split] at e11
      k_steps
      rename News _ _ _ _ => N9
      rename Fr _ _ _ _ => F9
      dsimp only at N9 F9 ⊢
      rw [pick_last] at N9
      generalize h11.objs.size + 1 = D4 at N9 ⊢
      obtain ⟨l4, hl4⟩ : ∃ x, x = l3.dropLast := ⟨_, rfl⟩
      have hv4 : (strValues l3).dropLast = strValues l4 := by rw [hl4]; unfold strValues; rw [List.map_dropLast]
      have e4 : l4.map (·.1) = ts.map (fun x => (⟨(rowN (n + 1) x).toArray⟩ : Str)) := by
        have := congrArg List.dropLast e11
        rw [← List.map_dropLast, ← hl4, List.dropLast_concat] at this
        exact this
      rw [hv4] at N9
      have N10 : News g' L' _ ((D4, listOf (strValues l4).toArray 0) :: rest) := News.perm N9 (fun p hp => by
        rcases List.mem_cons.mp hp with rfl | hp
        · exact List.mem_cons_self ..
        · exact List.mem_cons_of_mem _ (List.mem_cons_of_mem _ (p1 p hp)))
      have hl4' : l4.length = ts.length := by have := congrArg List.length e4; simpa using this
      have hv4l : (strValues l4).length = ts.length := by simpa [strValues] using hl4'
      clear N9
      refine Stop.of (comp_list (fun i ys nx => (∀ p ∈ (D4, listOf (strValues l4).toArray 0) :: rest, p ∈ nx) ∧ IntsAre ys ((ts.take i).map (dotsOf (n + 1)))) rfl (by k_mem) F9 N10 ?_ ?_ ?_ ?_)
      · rw [hv4l, PySem.sizeLine_eq]; omega
      · exact ⟨fun _ h => h, .nil⟩
      · rintro g i ys nx v I oI C oC D5 m₂ h5 tk5 E5 hv5 ⟨c0, c1⟩ hNs hm2 F11 N11 off3 ⟨ne1, ne2, ne3⟩
        have hi5 : i < ts.length := by
          have h2 := (List.getElem?_eq_some_iff.mp hv5).1
          omega
        have hst5 : ts.take (i + 1) = ts.take i ++ [ts[i]] := by rw [List.take_add_one, List.getElem?_eq_getElem hi5]; rfl
        obtain ⟨tv, rfl⟩ : ∃ tv, v = .str ⟨(rowN (n + 1) ts[i]).toArray⟩ tv := by
          have := congrArg (·[i]?) e4
          simp only [List.getElem?_map, List.getElem?_eq_getElem hi5, Option.map_some] at this
          simp only [strValues, List.getElem?_map] at hv5
          cases hli : l4[i]? with
          | none => rw [hli] at this; cases this
          | some p =>
            rw [hli] at this hv5
            simp only [Option.map_some, Option.some.injEq] at this hv5
            exact ⟨p.2, by rw [← hv5, ← this]⟩
        have hcr := count_row (n + 1) ts[i]
        have hrl := row_len (n + 1) ts[i]
        have hrl2 : (⟨(rowN (n + 1) ts[i]).toArray⟩ : Str).length ≤ n + 1 + 2 := by show (rowN (n + 1) ts[i]).toArray.size ≤ _; rw [List.size_toArray]; exact hrl
        generalize ts[i] = x at hst5 hcr hrl hrl2 hv5 hm2
        generalize (⟨(rowN (n + 1) x).toArray⟩ : Str) = rw9 at hcr hrl2 hv5 hm2
        k_steps
        rename Fr _ _ _ _ => F12
        rename News _ _ _ _ => N12
        refine LCg.CompEnd.intro F12 N12 nx ?_ ?_ ?_ ?_
        · kst_anyIn
        · exact off3
        · exact .inr ⟨_, c0 _ (List.mem_cons_self ..), rfl, _, rfl⟩
        · refine ⟨c0, ?_⟩
          rw [hst5, List.map_append]
          refine IntsAre.append c1 ?_
          rw [List.map_singleton, ← hcr]
          exact .cons _ _ .nil
      · rintro g ys nx ⟨c0, c1⟩ D5 h5 tk5 F11 N11 off
        rw [hv4l, List.take_length] at c1
        k_steps
        rename Fr h₀ L _ _ => F12
        rename News h₀ L _ _ => N12
        have ht5 : times.toNat = n + 1 := by omega
        refine hret _ [(D5, LCg.lst ys)] _ _ F12 ?_ ⟨D5, ys, rfl, List.mem_cons_self .., by rw [ht5]; exact c1⟩
        refine news_pick N12 ?_
        intro p hp
        simp only [List.cons_append, List.nil_append, List.mem_cons] at hp
        rcases hp with rfl | hp
        · simp
        · exact List.mem_cons_of_mem _ (c0 p (List.mem_cons_of_mem _ hp))
end Mine
end
section
open PySem PySem.W PyProof.Rows PySem.Calls PySem.Spec
set_option Elab.async false
set_option maxRecDepth 100000
set_option maxHeartbeats 8000000
set_option linter.unusedSimpArgs false
namespace Mine


local macro_rules | `(tactic| walk_at "exec While") => `(tactic| ((rename Halt => hHalt9); refine Stop.mk ?_))
local macro_rules | `(tactic| walk_at "exec While Name") => `(tactic| ((rename Halt => hHalt9); refine Stop.mk ?_))
local macro_rules | `(tactic| walk_at "exec While Name nil") => `(tactic| ((rename Halt => hHalt9); refine Stop.mk ?_))
local macro_rules | `(tactic| walk_at "exec While Name cons nil") => `(tactic| ((rename Halt => hHalt9); refine Stop.mk ?_))
/-- the digits, sixteen letters -/
noncomputable def apL : Nat → Nat → List UInt8
  | 0, _ => []
  | f + 1, n => if n = 0 then [] else apL f (n / 16) ++ [UInt8.ofNat (65 + n % 16)]
noncomputable def apOf (n : Nat) : List UInt8 := apL n n
theorem apL_enough : ∀ (f g n : Nat), n ≤ f → n ≤ g → apL f n = apL g n := by
  intro f
  induction f with
  | zero =>
    intro g n h1 h2
    obtain rfl : n = 0 := by omega
    cases g with
    | zero => rfl
    | succ g => show [] = if 0 = 0 then [] else _; rw [if_pos rfl]
  | succ f ih =>
    intro g n h1 h2
    cases g with
    | zero =>
      obtain rfl : n = 0 := by omega
      show (if 0 = 0 then [] else _) = []
      rw [if_pos rfl]
    | succ g =>
      unfold apL
      by_cases h : n = 0
      · rw [if_pos h, if_pos h]
      · rw [if_neg h, if_neg h, ih g (n / 16) (by omega) (by omega)]
theorem apOf_step (n : Nat) (h : n ≠ 0) : apOf n = apOf (n / 16) ++ [UInt8.ofNat (65 + n % 16)] := by
  obtain ⟨k, rfl⟩ : ∃ k, n = k + 1 := ⟨n - 1, by omega⟩
  show apL (k + 1) (k + 1) = apL ((k + 1) / 16) ((k + 1) / 16) ++ _
  rw [apL, if_neg h, apL_enough k ((k + 1) / 16) ((k + 1) / 16) (by omega) (Nat.le_refl _)]
theorem apOf_len : ∀ (d n : Nat), n < 16 ^ d → (apOf n).length ≤ d := by
  intro d
  induction d with
  | zero => intro n h; obtain rfl : n = 0 := by simpa using h
            exact Nat.le_refl 0
  | succ d ih =>
    intro n h
    by_cases h0 : n = 0
    · subst h0; exact Nat.zero_le _
    · rw [apOf_step n h0, List.length_append]
      have := ih (n / 16) (by rw [Nat.pow_succ] at h; omega)
      simp only [List.length_cons, List.length_nil]; omega

def apB : Array UInt8 := #[65, 66, 67, 68, 69, 70, 71, 72, 73, 74, 75, 76, 77, 78, 79, 80]
theorem ap_mod (k : Nat) : ((k : Int).fmod 16) = ((k % 16 : Nat) : Int) := by
  rw [Int.fmod_eq_emod_of_nonneg _ (by decide)]; omega
theorem ap_all : ∀ j : Fin 16, KBy.whole apB (some ((j.val : Nat) : Int)) (some (((j.val : Nat) : Int) + 1)) = false ∧ KBy.picked apB (some ((j.val : Nat) : Int)) (some (((j.val : Nat) : Int) + 1)) = #[UInt8.ofNat (65 + j.val)] := by decide +kernel
theorem ap_whole (k : Nat) : KBy.whole apB (some ((k : Int).fmod 16)) (some ((k : Int).fmod 16 + 1)) = false := by
  rw [ap_mod]; exact (ap_all ⟨k % 16, Nat.mod_lt _ (by decide)⟩).1
theorem ap_picked (k : Nat) : KBy.picked apB (some ((k : Int).fmod 16)) (some ((k : Int).fmod 16 + 1)) = #[UInt8.ofNat (65 + k % 16)] := by
  rw [ap_mod]; exact (ap_all ⟨k % 16, Nat.mod_lt _ (by decide)⟩).2
theorem ap_size (k : Nat) : (KBy.picked apB (some ((k : Int).fmod 16)) (some ((k : Int).fmod 16 + 1))).size ≤ 16777216 := by
  rw [ap_picked]; exact Nat.le_of_ble_eq_true rfl
local macro_rules | `(tactic| walk_at "subscriptTail") => `(tactic| (k_here; (with_reducible show wpAny _ _ (subscriptTail _ (Expr.Slice _ _ none _) (Value.bytes _ _) (Value.ref _)) _ _ _); (with_reducible rename Fr _ _ _ _ => F'); (with_reducible rename News _ _ _ _ => N'); (refine KBy.slice_N (b := apB) (s := ⟨_, _, _, _, _⟩) F' N' (by constructor) (by constructor) (ap_whole _) (ap_size _) ?_); rw [ap_picked]; intro _ _ _ _ _))

local macro_rules | `(tactic| walk_at "binaryOp Add bytes bytes") => `(tactic| (k_here; (with_reducible show wpAny _ _ (binaryOp Operator.Add (Value.bytes _ _) (Value.bytes _ _)) _ _ _); (refine KBy.add_bytes ?kxaa ?_; (case kxaa => (rw [List.size_toArray, List.size_toArray, List.length_singleton]; omega))); intro _ _))

theorem ap_con (w : World) (n : Int) (t : Tok) (news : List (Addr × Obj)) (hn : n.natAbs < 16 ^ 700) :
    Con w 45 news [.int n t] (fun _ r => ∃ t, r = .bytes (apOf n.natAbs).toArray t) := by
  intro dp un gd cn cs aa ccd cl outer A₀ base h₀ L m mg mb mean loose s Q E B F X N T hk hd hu hret
  w_top off
  have hHalt := halt
  refine wpAny_call ?_
  k_dflt (refine' code_def (binds := [(Str.ofString "num", .int n t)]) ?k1 ?k2 ?k3 ?k4 ?k5 ?kA ?kF ?kK ?k6 ?k7 ?k8 ?k9 ?kB ?_ ?c2 ?c3 ?c4 ?c5; (case kA => exact rfl); (case kF => exact rfl); (case kK => assumption); (case k1 => k_asm); (case k2 => k_asm); (case k3 => k_asm); (case k4 => k_asm); (case k5 => k_asm); (case k6 => k_is); (case k7 => k_is); (case k8 => ktr_room); (case k9 => exact BindsTo.of_eq rfl); (case c5 => decide); (case kB => exact locs rfl); (case c2 => exact rfl); (case c3 => exact rfl); (case c4 => exact rfl); k_whole; intro g' L' h' FG' F' N' B' X' T'; (try dsimp only); (try k_lift B'); (try k_fold))
  k_steps
  rename Fr _ _ _ _ => FR
  rename News _ _ _ _ => NR
  obtain ⟨nt, hnt⟩ := fr_int FR (x := Str.ofString "num") rfl
  obtain ⟨vt, hvt⟩ := fr_bytes FR (x := Str.ofString "val") rfl
  have hab : (if n < 0 then -n else n) = ((n.natAbs : Nat) : Int) := by split <;> omega
  refine Stop.of (ksw_while (σ := (Int × Tok) × (List UInt8 × Tok)) (fun _ => news) (fun c => [(Str.ofString "num", .int c.1.1 c.1.2), (Str.ofString "val", .bytes c.2.1.toArray c.2.2)]) (fun _ => True) [Str.ofString "mod"]
    (fun c => ∃ k : Nat, c.1.1 = (k : Int) ∧ apOf k ++ c.2.1 = apOf n.natAbs) (fun c => c.1.1.toNat) ((((n.natAbs : Nat) : Int), nt), ([], vt)) FR NR trivial (by intro p hp; rcases List.mem_cons.mp hp with rfl | hp; (show _ = some (Value.int ((n.natAbs : Nat) : Int) nt); rw [← hab]; exact hnt); rw [List.mem_singleton.mp hp]; exact hvt) ⟨n.natAbs, rfl, List.append_nil _⟩ ?_)
  rintro ⟨⟨num, nt1⟩, ⟨vl, vt1⟩⟩ u h tk _ ⟨k, hk1, hk2⟩ F₁ N₁
  dsimp only [kstB] at F₁ N₁ hk1 hk2
  subst hk1
  have hlen := apOf_len 700 n.natAbs hn
  have hvl : vl.length ≤ 700 := by rw [← hk2, List.length_append] at hlen; omega
  k_steps
  · rename Fr _ _ _ _ => F4
    rename News _ _ _ _ => N4
    obtain ⟨nt2, hnt2⟩ := fr_int F4 (x := Str.ofString "num") rfl
    obtain ⟨vt2, hvt2⟩ := fr_bytes F4 (x := Str.ofString "val") rfl
    have hfd : (k : Int).fdiv 16 = ((k / 16 : Nat) : Int) := by rw [Int.fdiv_eq_ediv_of_nonneg _ (by decide)]; omega
    have hk0 : k ≠ 0 := by rename (k : Int) ≠ 0 => hh; omega
    refine ksw_end ((((k / 16 : Nat) : Int), nt2), (UInt8.ofNat (65 + k % 16) :: vl, vt2)) F4 N4 (fun p hp => by first | exact List.mem_cons_of_mem _ hp | simp [hp]) trivial ?_ ?_ ⟨k / 16, rfl, ?_⟩ ?_
    · intro p hp
      rcases List.mem_cons.mp hp with rfl | hp
      · show _ = some (Value.int ((k / 16 : Nat) : Int) nt2)
        rw [← hfd]; exact hnt2
      · rw [List.mem_singleton.mp hp]
        show _ = some (Value.bytes (UInt8.ofNat (65 + k % 16) :: vl).toArray vt2)
        rw [show (UInt8.ofNat (65 + k % 16) :: vl).toArray = #[UInt8.ofNat (65 + k % 16)] ++ vl.toArray from by simp]
        exact hvt2
    · (intro z hz1 hz2; first | rfl | ((simp only [List.contains_cons, List.contains_nil, Bool.or_false, Bool.or_eq_false_iff, beq_eq_false_iff_ne, ne_eq] at hz2); (try simp only [List.forall_mem_cons, List.not_mem_nil, false_implies, implies_true, and_true, ne_eq] at hz1); (simp [hz1, hz2]; done)))
    · dsimp only
      rw [← hk2, apOf_step k hk0, List.append_assoc]; rfl
    · dsimp only; omega
  · have hk0 : k = 0 := by rename (k : Int) = 0 => hh; omega
    subst hk0
    rename Fr h₀ L _ _ => F5
    rename News h₀ L _ _ => N5
    exact hret _ [] _ _ F5 N5 ⟨vt1, by rw [← hk2]; rfl⟩
end Mine
end
section
open PySem PySem.W PyProof.Rows PySem.Calls PySem.Spec
set_option Elab.async false
set_option maxRecDepth 100000
set_option maxHeartbeats 8000000
set_option linter.unusedSimpArgs false
namespace Mine


local macro_rules | `(tactic| walk_at "exec Assign Name ListComp") => `(tactic| ((rename Halt => hHalt9); k_here; refine Stop.mk ?_))
local macro_rules | `(tactic| walk_at "CellSrc") => `(tactic| ((rename Halt => hHalt9); refine Stop.mk ?_))
theorem ints_dat {nx : List (Addr × Obj)} : ∀ {vs : List Value} {ns : List Int}, IntsAre vs ns → DatAll nx vs (ns.map Dat.int)
  | _, _, .nil => .nil
  | _, _, .cons n t h => .cons (.int n t) (ints_dat h)
section
variable {prog : Program} {w : World} {A : Around} {E : Value → Shared → Prop} {s : Shared} {h₀ : Heap} {L : Addr} {news : List (Addr × Obj)}
theorem item_tmp {value slice : PySem.Expr} {a : Addr} {l : List Value} {n : Nat} {k : Int} {u : Tok} {x : Value} {Q : Value → Shared → Prop} (N : News h₀ L s.heap news) (hm : (a, listOf l.toArray n) ∈ news) (h0 : 0 ≤ k) (hfit : k < 2 ^ 63) (hx : l[k.toNat]? = some x) (h : Q x s)
    (hs : subscripted slice false (.ref a) (.int k u) = operate [.ref a, .int k u] (getItem (.ref a) (.int k u)) := by with_unfolding_all rfl) : wpAny (model prog w) A (subscriptTail value slice (.ref a) (.int k u)) Q E s := by
  have hl : s.heap.IsList a l.toArray := ⟨_, (N _ hm).1, rfl, _, rfl⟩
  unfold subscriptTail
  refine wpAny_bind ?_
  rw [getitemInPython_of_ne hl.typeIs.not_modules]
  refine wpAny_bind (wpAny_specialOf hl.typeIs list_getitem_lookup ?_)
  have fin : wpAny (model prog w) A (subscripted slice false (.ref a) (.int k u)) (fun r s₃ => wpAny (model prog w) A (letTemporaryGo value (.ref a) r >>= fun _ => pure r) Q E s₃) E s := by
    rw [hs]
    exact wpAny_operating (wpAny_mono (getItem_listL hl h0 hfit hx h) (fun r s₃ h₃ => wpAny_bind (wpAny_letTemporaryGo (wpAny_pure h₃))) fun _ _ x => x)
  first
    | exact wpAny_pure (wpAny_bind fin)
    | exact wpAny_bind (wpAny_pure (wpAny_bind fin))
    | exact wpAny_bind fin
end
local macro_rules | `(tactic| walk_at "subscriptTail Name Constant ref int") => `(tactic| (k_here; (rename News _ _ _ _ => nK9); k_dflt (refine kim_list nK9 (by k_mem) (by rfl) (by rfl) (by decide) (by decide) (by rfl) ?_)))
local macro_rules | `(tactic| walk_at "subscriptTail") => `(tactic| (k_here; (rename News _ _ _ _ => nK9); (with_unfolding_all refine item_tmp nK9 (by k_mem) (by first | assumption | decide) (by first | assumption | decide) (by first | assumption | rfl) ?_)))
local macro_rules | `(tactic| walk_at "binaryOp Mult int int") => `(tactic| (k_here; (with_reducible refine mul_int ?_ (hm := ?hm)); (case hm => first | exact PyProof.Rows.mulOk_of_bits (m := 400) (n := 400) (by assumption) (by assumption) (by decide) | exact PyProof.Rows.mulOk_of_bits (m := 400) (n := max (400 + 400) (400 + 400) + 1) (by assumption) (PyProof.Rows.bits_sub (PyProof.Rows.bits_mul (by assumption) (by assumption)) (PyProof.Rows.bits_mul (by assumption) (by assumption))) (by decide))))
theorem pow_bits {x a : Int} (hx : 0 ≤ x ∧ x < 2 ^ 30) (ha : 0 ≤ a ∧ a ≤ 10) : PySem.Builtin.Int.intBits (x ^ a.toNat) ≤ 400 := by
  have h1 : PySem.Builtin.Int.intBits x ≤ 30 := intBits_le_iff.mpr (by omega)
  have h2 := intBits_pow_le h1 a.toNat
  omega
def altN (xa xb xc ya yb yc za zb zc : Int) : Nat → Int
  | 0 => 0
  | 1 => 0 + xa * (yb * zc - yc * zb)
  | 2 => 0 + xa * (yb * zc - yc * zb) + xb * (yc * za - ya * zc)
  | _ => 0 + xa * (yb * zc - yc * zb) + xb * (yc * za - ya * zc) + xc * (ya * zb - yb * za)
theorem lnext1 {σ : Type} {h₀ : Heap} {L : Addr} {Led : σ → List (Addr × Obj)} {ps : σ → List (Str × Value)} {stored : List Str} {m₀ : Str → Option Value} {Inv : σ → List (Addr × Obj) → Prop} {I : Addr} {o : Obj} {s₁ : Shared} {Q : Flow → Shared → Prop} {h' : Heap} {tk : Nat} {m' : Str → Option Value} {all : List (Addr × Obj)} {x : Str} {v : Value} (c : σ) (tl : List (Addr × Obj))
    (F : Fr h₀ L h' m') (N : News h₀ L h' all) (hI : (I, o) ∈ all) (hs : ∀ p ∈ Led c ++ tl, p ∈ all) (hoff : ∀ p ∈ Led c ++ tl, p.1 ≠ I) (hps : ps c = [(x, v)]) (hv : m' x = some v) (hr : ∀ z, (∀ p ∈ ps c, z ≠ p.1) → stored.contains z = false → m' z = m₀ z) (hi : Inv c tl) :
    LPost h₀ L Led ps stored m₀ Inv I o s₁ Q .next { s₁ with heap := h', toks := tk } := LPost.next c tl F N hI hs hoff (by rw [hps]; intro p hp; rw [List.mem_singleton.mp hp]; exact hv) hr hi
theorem dat_row {nx : List (Addr × Obj)} {v : Value} {p q r : Int} (h : DatIn nx v (.list [.int p, .int q, .int r])) : ∃ D n t u w, v = .ref D ∧ (D, listOf [.int p t, .int q u, .int r w].toArray n) ∈ nx := by
  obtain ⟨D, ws, n, e, hm, hd⟩ := dat_list h
  obtain ⟨t, u, w, e0⟩ := ints3 hd
  rw [e0] at hm
  exact ⟨D, n, t, u, w, e, hm⟩
theorem rows3 {nx : List (Addr × Obj)} {ys : List Value} {p1 q1 r1 p2 q2 r2 p3 q3 r3 : Int} (h : DatAll nx ys [.list [.int p1, .int q1, .int r1], .list [.int p2, .int q2, .int r2], .list [.int p3, .int q3, .int r3]]) :
    ∃ D1 n1 t11 t12 t13 D2 n2 t21 t22 t23 D3 n3 t31 t32 t33, ys = [.ref D1, .ref D2, .ref D3] ∧ (D1, listOf [.int p1 t11, .int q1 t12, .int r1 t13].toArray n1) ∈ nx ∧ (D2, listOf [.int p2 t21, .int q2 t22, .int r2 t23].toArray n2) ∈ nx ∧ (D3, listOf [.int p3 t31, .int q3 t32, .int r3 t33].toArray n3) ∈ nx := by
  obtain ⟨v1, v2, v3, e, h1, h2, h3⟩ := dats3 h
  obtain ⟨D1, n1, t11, t12, t13, e1, m1⟩ := dat_row h1
  obtain ⟨D2, n2, t21, t22, t23, e2, m2⟩ := dat_row h2
  obtain ⟨D3, n3, t31, t32, t33, e3, m3⟩ := dat_row h3
  exact ⟨_, _, _, _, _, _, _, _, _, _, _, _, _, _, _, by rw [e, e1, e2, e3], m1, m2, m3⟩
/-- a turn of the alternant's loop: the tuple, its items, what they pick, the sum -/
structure AltTurn (v : Value) (led : List (Addr × Obj)) (i : Nat) (r1 r2 r3 : List Value) (f : Nat → Int) (T : Addr) (I0 J0 K0 : Int) (sI sJ sK : Tok) (p1 p2 p3 p4 p5 : Int) (s1 s2 s3 s4 s5 : Tok) : Prop where
  ref : v = .ref T
  mem : (T, ({ cls := .type "tuple", data := .seq #[.int I0 sI, .int J0 sJ, .int K0 sK] } : Obj)) ∈ led
  i1 : 0 ≤ I0
  i2 : I0 < 2 ^ 63
  j1 : 0 ≤ J0
  j2 : J0 < 2 ^ 63
  k1 : 0 ≤ K0
  k2 : K0 < 2 ^ 63
  e1 : r1[I0.toNat]? = some (.int p1 s1)
  e2 : r2[J0.toNat]? = some (.int p2 s2)
  e3 : r3[K0.toNat]? = some (.int p3 s3)
  e4 : r2[K0.toNat]? = some (.int p4 s4)
  e5 : r3[J0.toNat]? = some (.int p5 s5)
  b1 : PySem.Builtin.Int.intBits p1 ≤ 400
  b2 : PySem.Builtin.Int.intBits p2 ≤ 400
  b3 : PySem.Builtin.Int.intBits p3 ≤ 400
  b4 : PySem.Builtin.Int.intBits p4 ≤ 400
  b5 : PySem.Builtin.Int.intBits p5 ≤ 400
  step : f i + p1 * (p2 * p3 - p4 * p5) = f (i + 1)
abbrev tup3 (p q r : Int) (t u w : Tok) : Obj := { cls := .type "tuple", data := .seq #[.int p t, .int q u, .int r w] }
theorem alt_turn {v : Value} {led : List (Addr × Obj)} {i : Nat} {xa xb xc ya yb yc za zb zc : Int} {t11 t12 t13 t21 t22 t23 t31 t32 t33 : Tok} {T0 T1 T2 : Addr} {a0 a1 a2 b0 b1 b2 d0 d1 d2 : Tok} (hi : i = 0 ∨ i = 1 ∨ i = 2) (hv : [Value.ref T0, .ref T1, .ref T2][i]? = some v)
    (hm : (T0, tup3 0 1 2 a0 a1 a2) ∈ led ∧ (T1, tup3 1 2 0 b0 b1 b2) ∈ led ∧ (T2, tup3 2 0 1 d0 d1 d2) ∈ led)
    (hb : PySem.Builtin.Int.intBits xa ≤ 400 ∧ PySem.Builtin.Int.intBits xb ≤ 400 ∧ PySem.Builtin.Int.intBits xc ≤ 400 ∧ PySem.Builtin.Int.intBits ya ≤ 400 ∧ PySem.Builtin.Int.intBits yb ≤ 400 ∧ PySem.Builtin.Int.intBits yc ≤ 400 ∧ PySem.Builtin.Int.intBits za ≤ 400 ∧ PySem.Builtin.Int.intBits zb ≤ 400 ∧ PySem.Builtin.Int.intBits zc ≤ 400)
    {G : Prop} (h : ∀ T I0 J0 K0 sI sJ sK p1 p2 p3 p4 p5 s1 s2 s3 s4 s5, AltTurn v led i [Value.int xa t11, .int xb t12, .int xc t13] [Value.int ya t21, .int yb t22, .int yc t23] [Value.int za t31, .int zb t32, .int zc t33] (altN xa xb xc ya yb yc za zb zc) T I0 J0 K0 sI sJ sK p1 p2 p3 p4 p5 s1 s2 s3 s4 s5 → G) : G := by
  obtain ⟨m0, m1, m2⟩ := hm
  obtain ⟨bxa, bxb, bxc, bya, byb, byc, bza, bzb, bzc⟩ := hb
  rcases hi with rfl | rfl | rfl
  · exact h T0 0 1 2 a0 a1 a2 xa yb zc yc zb _ _ _ _ _ ⟨(Option.some.inj hv).symm, m0, by decide, by decide, by decide, by decide, by decide, by decide, rfl, rfl, rfl, rfl, rfl, bxa, byb, bzc, byc, bzb, rfl⟩
  · exact h T1 1 2 0 b0 b1 b2 xb yc za ya zc _ _ _ _ _ ⟨(Option.some.inj hv).symm, m1, by decide, by decide, by decide, by decide, by decide, by decide, rfl, rfl, rfl, rfl, rfl, bxb, byc, bza, bya, bzc, rfl⟩
  · exact h T2 2 0 1 d0 d1 d2 xc ya zb yb za _ _ _ _ _ ⟨(Option.some.inj hv).symm, m2, by decide, by decide, by decide, by decide, by decide, by decide, rfl, rfl, rfl, rfl, rfl, bxc, bya, bzb, byb, bza, rfl⟩
theorem no0 {h₀ h : Heap} {L a : Addr} {o : Obj} {r : List (Addr × Obj)} (_ : News h₀ L h ((a, o) :: r)) : ∃ x, x = o := ⟨o, rfl⟩
theorem alt_con (w : World) (rA qA : Addr) (x y z a b c : Int) (tx ty tz ta tb tc : Tok) (n k : Nat) (rest : List (Addr × Obj)) (ha : 0 ≤ a ∧ a ≤ 10) (hb : 0 ≤ b ∧ b ≤ 10) (hc : 0 ≤ c ∧ c ≤ 10)
    (hx : 0 ≤ x ∧ x < 2 ^ 30) (hy : 0 ≤ y ∧ y < 2 ^ 30) (hz : 0 ≤ z ∧ z < 2 ^ 30) :
    Con w 240 ((rA, listOf [.int x tx, .int y ty, .int z tz].toArray n) :: (qA, listOf [.int a ta, .int b tb, .int c tc].toArray k) :: rest) [.ref rA, .ref qA] (fun _ r => ∃ t, r = .int (altN (x ^ a.toNat) (x ^ b.toNat) (x ^ c.toNat) (y ^ a.toNat) (y ^ b.toNat) (y ^ c.toNat) (z ^ a.toNat) (z ^ b.toNat) (z ^ c.toNat) 3) t) := by
  intro dp un gd cn cs aa ccd cl outer A₀ base h₀ L m mg mb mean loose s Q E B F X N T hk hd hu hret
  w_top off
  have hHalt := halt
  refine wpAny_call ?_
  k_dflt (refine' code_defC (binds := [(Str.ofString "rates", .ref rA), (Str.ofString "row", .ref qA)]) ?k1 ?k2 ?k3 ?k4 ?k5 ?kA ?kF ?kK ?k6 ?k7 ?k8 ?k9 ?kB ?kD ?_ ?c2 ?c3 ?c4; (case kA => exact rfl); (case kF => exact rfl); (case kK => assumption); (case k1 => k_asm); (case k2 => k_asm); (case k3 => k_asm); (case k4 => k_asm); (case k5 => k_asm); (case k6 => k_is); (case k7 => k_is); (case k8 => ktr_room); (case k9 => exact BindsTo.of_eq rfl); (case kB => exact rfl); (case kD => decide +kernel); (case c2 => exact rfl); (case c3 => exact rfl); (case c4 => exact rfl); k_whole; intro g' L' h' tk' cells' FG' F' N' Y' B' X' T' l1; (try k_lt l1); k_cells Y'; (try simp only [List.cons_append, List.nil_append] at N'); (try dsimp only); (try k_lift B'); (try k_fold))
  change Fr g' L' h' (fun y => if y = Str.ofString "rates" then some (Value.ref rA) else none) at F'
  k_steps
  k_here
  k_dflt (refine' Assign_CellComp F' rfl ?hsw ?hclos ?hpc ?hcf rfl ?hkx ?hnames ?hy ?hp ?_ ?hs)
  case hsw => with_unfolding_all rfl
  case hclos => with_unfolding_all rfl
  case hpc => intro H; rfl
  case hcf => intro n; rfl
  case hkx => intro C c; rfl
  case hnames => decide
  case hy => rfl
  case hp => rfl
  case hs => intro x; rfl
  k_whole
  k_steps
  rename Fr _ _ _ _ => FR
  rename News _ _ _ _ => NR
  rename (_ : Obj).data = Data.cell _ => dq
  change _ = Data.cell (some (Value.ref qA)) at dq
  obtain ⟨oq, rfl⟩ := no0 NR
  obtain ⟨led, hled⟩ := led_of NR
  rw [← hled] at NR
  have hq1 : (L' + 1, oq) ∈ led := by rw [hled]; simp
  have hq2 : (qA, W.listOf #[Value.int a ta, Value.int b tb, Value.int c tc] k) ∈ led := by rw [hled]; simp
  have hq3 : (rA, W.listOf #[Value.int x tx, Value.int y ty, Value.int z tz] n) ∈ led := by rw [hled]; simp
  refine Stop.of ⟨rA, [.int x tx, .int y ty, .int z tz], n, led, fun i ys nw => (∀ p ∈ led, p ∈ nw) ∧ DatAll nw ys (([x, y, z].take i).map fun r => Dat.list ([r ^ a.toNat, r ^ b.toNat, r ^ c.toNat].map Dat.int)), rfl, rfl, FR, NR, hq3, (by show 3 ≤ PySem.sizeLine; rw [PySem.sizeLine_eq]; omega), ⟨fun _ h => h, .nil⟩, fun i ys nw q => q.1 _ hq3, ?_, ?_⟩
  · rintro g i ys nw v I oI C oC cc oc D h tk E' hv ⟨c0, c1⟩ hNs hoc F₃ N₃ off ne
    obtain ⟨r, t, rfl, hr, hst⟩ : ∃ r t, v = .int r t ∧ (0 ≤ r ∧ r < 2 ^ 30) ∧ [x, y, z].take (i + 1) = [x, y, z].take i ++ [r] := by
      rcases i with _ | _ | _ | i
      · exact ⟨x, tx, (Option.some.inj hv).symm, hx, rfl⟩
      · exact ⟨y, ty, (Option.some.inj hv).symm, hy, rfl⟩
      · exact ⟨z, tz, (Option.some.inj hv).symm, hz, rfl⟩
      · cases hv
    have N₄ := news_more (q := (L' + 1, oq)) (led := _ :: _ :: _ :: _ :: _ :: nw) (by simp [c0 _ hq1]) (news_more (q := (qA, W.listOf #[Value.int a ta, Value.int b tb, Value.int c tc] k)) (led := _ :: _ :: _ :: _ :: nw) (by simp [c0 _ hq2]) N₃)
    clear NR
    k_steps
    rename Fr _ _ _ _ => FR2
    rename News _ _ _ _ => NR2
    obtain ⟨led2, hled2⟩ := led_of NR2
    rw [← hled2] at NR2
    have hcc : (cc, oc) ∈ led2 := by rw [hled2]; simp
    have hqa : (qA, W.listOf #[Value.int a ta, Value.int b tb, Value.int c tc] k) ∈ led2 := by rw [hled2]; simp
    refine Stop.of (comp_list (vs := [.int a ta, .int b tb, .int c tc]) (fun j zs nx => (∀ p ∈ led2, p ∈ nx) ∧ IntsAre zs (([a, b, c].take j).map fun e => r ^ e.toNat)) rfl hqa FR2 NR2 (by show 3 ≤ PySem.sizeLine; rw [PySem.sizeLine_eq]; omega) ⟨fun _ h => h, .nil⟩ ?_ ?_)
    · rintro g2 j zs nx v2 I2 oI2 C2 oC2 D2 m₂ h2 tk2 E2 hv2 ⟨b0, b1⟩ hNs2 hm2 F₅ N₅ off5 ⟨ne1, ne2, ne3⟩
      obtain ⟨e, te, rfl, he, hst2⟩ : ∃ e te, v2 = .int e te ∧ (0 ≤ e ∧ e ≤ 10) ∧ [a, b, c].take (j + 1) = [a, b, c].take j ++ [e] := by
        rcases j with _ | _ | _ | j
        · exact ⟨a, ta, (Option.some.inj hv2).symm, ha, rfl⟩
        · exact ⟨b, tb, (Option.some.inj hv2).symm, hb, rfl⟩
        · exact ⟨c, tc, (Option.some.inj hv2).symm, hc, rfl⟩
        · cases hv2
      have N₆ := news_more (q := (cc, oc)) (led := _ :: _ :: _ :: nx) (by simp [b0 _ hcc]) N₅
      clear NR2 N₅
      k_steps
      rename Fr _ _ _ _ => FR6
      rename News _ _ _ _ => NR6
      refine LCg.CompEnd.intro FR6 NR6 nx ?_ off5 ?_ ⟨b0, ?_⟩
      · kst_anyIn
      · exact .inr ⟨_, b0 _ hqa, rfl, _, rfl⟩
      · rw [hst2, List.map_append]
        exact IntsAre.append b1 (.cons _ _ .nil)
    · rintro g2 zs nx ⟨b0, b1⟩ D2 h2 tk2 F₅ N₅ off2
      have off2 := off1_of off2
      have hin : ∀ p ∈ (I, oI) :: (C, oC) :: (cc, oc) :: (D, LCg.lst ys) :: nw, p ∈ nx := fun p hp => b0 p (by rw [hled2]; exact List.mem_cons_of_mem _ (List.mem_cons_of_mem _ hp))
      refine ⟨h2, tk2, _, (D2, LCg.lst zs) :: nw, rfl, F₅, N₅, ?_, ?_, ?_, ?_⟩
      · simp only [List.forall_mem_cons] at hin ⊢
        exact ⟨.tail _ hin.1, .tail _ hin.2.1, .tail _ hin.2.2.1, .tail _ hin.2.2.2.1, .head _, fun p hp => .tail _ (hin.2.2.2.2 p hp)⟩
      · intro p hp
        simp only [List.forall_mem_cons] at hin
        rcases List.mem_cons.mp hp with rfl | hp
        · exact ⟨Ne.symm (off2 _ hin.1), Ne.symm (off2 _ hin.2.1), Ne.symm (off2 _ hin.2.2.1), Ne.symm (off2 _ hin.2.2.2.1)⟩
        · exact off p hp
      · exact fun p hp => .tail _ (c0 p hp)
      · rw [hst, List.map_append]
        exact DatAll.append (DatAll.mono (fun p hp => .tail _ hp) c1) (.cons (.list (n := _) (.head _) (ints_dat b1)) .nil)
  · rintro g ys nw ⟨c0, c1⟩ D h tk F₁ N₁ off
    simp only [List.length_cons, List.length_nil, List.take, List.map] at c1
    obtain ⟨D1, n1, t11, t12, t13, D2, n2, t21, t22, t23, D3, n3, t31, t32, t33, rfl, m1, m2, m3⟩ := rows3 c1
    have N₂ : News g' L' h ((D, listOf [.ref D1, .ref D2, .ref D3].toArray 3) :: (D1, listOf [.int (x ^ a.toNat) t11, .int (x ^ b.toNat) t12, .int (x ^ c.toNat) t13].toArray n1) :: (D2, listOf [.int (y ^ a.toNat) t21, .int (y ^ b.toNat) t22, .int (y ^ c.toNat) t23].toArray n2) :: (D3, listOf [.int (z ^ a.toNat) t31, .int (z ^ b.toNat) t32, .int (z ^ c.toNat) t33].toArray n3) :: (L' + 1, oq) :: (rA, W.listOf #[Value.int x tx, Value.int y ty, Value.int z tz] n) :: (qA, W.listOf #[Value.int a ta, Value.int b tb, Value.int c tc] k) :: rest) := by
      refine news_pick N₁ ?_
      simp only [List.forall_mem_cons]
      exact ⟨.head _, .tail _ m1, .tail _ m2, .tail _ m3, .tail _ (c0 _ hq1), .tail _ (c0 _ hq3), .tail _ (c0 _ hq2), fun p hp => .tail _ (c0 p (by rw [hled]; simp [hp]))⟩
    clear NR N₁ c1 m1 m2 m3
    have bxa := pow_bits hx ha
    have bxb := pow_bits hx hb
    have bxc := pow_bits hx hc
    have bya := pow_bits hy ha
    have byb := pow_bits hy hb
    have byc := pow_bits hy hc
    have bza := pow_bits hz ha
    have bzb := pow_bits hz hb
    have bzc := pow_bits hz hc
    generalize x ^ a.toNat = xa at N₂ bxa hret
    generalize x ^ b.toNat = xb at N₂ bxb hret
    generalize x ^ c.toNat = xc at N₂ bxc hret
    generalize y ^ a.toNat = ya at N₂ bya hret
    generalize y ^ b.toNat = yb at N₂ byb hret
    generalize y ^ c.toNat = yc at N₂ byc hret
    generalize z ^ a.toNat = za at N₂ bza hret
    generalize z ^ b.toNat = zb at N₂ bzb hret
    generalize z ^ c.toNat = zc at N₂ bzc hret
    k_steps
    refine Stop.of ?_
    rename Halt => hH9; clear hH9
    rename Fr _ _ _ _ => F5
    rename News _ _ _ _ => N5
    obtain ⟨led3, hled3⟩ := led_of N5
    obtain ⟨tt, htt⟩ := fr_int F5 (x := Str.ofString "total") rfl
    rw [← hled3] at N5
    refine list_loop (fun (st : Int × Tok) => led3) (fun st => [(Str.ofString "total", .int st.1 st.2)]) [Str.ofString "i", Str.ofString "j", Str.ofString "k"] (fun I i st tl => (∀ p ∈ led3, p.1 ≠ I) ∧ tl = [] ∧ st.1 = altN xa xb xc ya yb yc za zb zc i) (0, tt) [] rfl (by rw [hled3]; exact .head _) rfl rfl F5 N5 ?_ ?_ ?_ ?_ ?_ ?_
    · intro p hp; simpa using hp
    · intro p hp; rw [List.mem_singleton.mp hp]; exact htt
    · rintro I hI
      exact ⟨fun p hp => Nat.ne_of_lt (allLt_mem hI p hp), rfl, rfl⟩
    · rintro I i st tl ⟨q1, q2, q3⟩
      rw [hled3]; exact .head _
    · intro I i cc9a tl v hv cc9b u h6 tk6 o6 F6 N6 P9 hP9
      obtain ⟨tot, tot'⟩ := cc9a
      obtain ⟨q1, rfl, q3⟩ := cc9b
      dsimp only [names, kstB] at F6 N6 q3
      rw [List.append_nil, hled3] at N6
      clear N5
      have hi3 : i = 0 ∨ i = 1 ∨ i = 2 := by
        have := (List.getElem?_eq_some_iff.mp hv).1
        simp at this; omega
      refine alt_turn (led := led3) (t11 := t11) (t12 := t12) (t13 := t13) (t21 := t21) (t22 := t22) (t23 := t23) (t31 := t31) (t32 := t32) (t33 := t33) hi3 hv ⟨by rw [hled3]; k_mem, by rw [hled3]; k_mem, by rw [hled3]; k_mem⟩ ⟨bxa, bxb, bxc, bya, byb, byc, bza, bzb, bzc⟩ ?_
      intro T I0 J0 K0 sI sJ sK p1 p2 p3 p4 p5 s1 s2 s3 s4 s5 hT
      have hvT := hT.ref
      subst hvT q3
      have hm := hT.mem
      rw [hled3] at hm
      have N6 := news_more (List.mem_cons_of_mem _ hm) N6
      have hI1 := hT.i1
      have hI2 := hT.i2
      have hJ1 := hT.j1
      have hJ2 := hT.j2
      have hK1 := hT.k1
      have hK2 := hT.k2
      have e1 := hT.e1
      have e2 := hT.e2
      have e3 := hT.e3
      have e4 := hT.e4
      have e5 := hT.e5
      have b1 := hT.b1
      have b2 := hT.b2
      have b3 := hT.b3
      have b4 := hT.b4
      have b5 := hT.b5
      have hstep := hT.step
      clear hm
      clear hi3 hv bxa bxb bxc bya byb byc bza bzb bzc
      k_steps
      rename Fr _ _ _ _ => F7
      rename News _ _ _ _ => N7
      refine hP9 _ _ (lnext1 (altN xa xb xc ya yb yc za zb zc i + p1 * (p2 * p3 - p4 * p5), _) [] F7 N7 (.tail _ (.head _)) ?_ ?_ rfl rfl ?_ ⟨q1, rfl, hstep⟩)
      · rw [List.append_nil, hled3]; exact fun p hp => .tail _ (.tail _ hp)
      · rw [List.append_nil]; exact q1
      · (intro z hz1 hz2; first | rfl | ((simp only [List.contains_cons, List.contains_nil, Bool.or_false, Bool.or_eq_false_iff, beq_eq_false_iff_ne, ne_eq] at hz2); (try simp only [List.forall_mem_cons, List.not_mem_nil, false_implies, implies_true, and_true, ne_eq] at hz1); (simp [hz1, hz2]; done)))
    · rintro I ⟨tot, tot'⟩ tl ⟨q1, rfl, q3⟩ u h6 tk6 F6 N6
      dsimp only [names, kstB] at F6 N6 q3
      rw [List.append_nil, hled3] at N6
      clear N5
      have q4 : tot = altN xa xb xc ya yb yc za zb zc 3 := q3
      clear q3
      subst q4
      k_steps
      rename Fr h₀ _ _ _ => F8
      rename News h₀ _ _ _ => N8
      refine hret _ [] _ _ F8 ?_ ⟨_, rfl⟩
      refine news_pick N8 ?_
      kst_anyIn
end Mine
end
section
open PySem PySem.W PyProof.Rows PySem.Calls PySem.Spec
set_option Elab.async false
set_option maxRecDepth 100000
set_option maxHeartbeats 8000000
set_option linter.unusedSimpArgs false
namespace Mine


local macro_rules | `(tactic| walk_at "subscriptTail Name Name ref int") => `(tactic| ((rename Halt => hHalt9); k_here; refine Stop.mk ?_))
local macro_rules | `(tactic| walk_at "subscriptTail Name BinOp ref int") => `(tactic| ((rename Halt => hHalt9); k_here; refine Stop.mk ?_))
local macro_rules | `(tactic| walk_at "setItem ref int") => `(tactic| ((rename Halt => hHalt9); k_here; refine Stop.mk ?_))
local macro_rules | `(tactic| walk_at "getItem ref int") => `(tactic| ((rename Halt => hHalt9); k_here; refine Stop.mk ?_))

local macro_rules | `(tactic| walk_at "call type:bytes") => `(tactic| ((rename Halt => hHalt9); k_here; refine Stop.mk ?_))
local macro_rules | `(tactic| walk_at "binaryOp Add bytes bytes") => `(tactic| ((rename Halt => hHalt9); k_here; refine Stop.mk ?_))
local macro_rules | `(tactic| walk_at "getMethod bytes") => `(tactic| (k_here; (with_reducible refine lstrip_method ?_)))
local macro_rules | `(tactic| walk_at "call builtin:bytes.lstrip") => `(tactic| ((rename Halt => hHalt9); k_here; refine Stop.mk ?_))

def addAt (pl : List Int) (i : Nat) (x : Int) : List Int := pl.set i (pl.getD i 0 + x)
def placeOf (u v w s p q top : Int) : Int := u * top + v * (p + q - top) + w * (s - p - q)
def topStep (u v w s p q both : Int) (ds : List Int) (st : List Int × Nat) (top : Int) : List Int × Nat := (addAt st.1 (placeOf u v w s p q top).toNat (both * ds.getD st.2 0), st.2 + 1)
def pairStep (u v w s : Int) (ds : List Int) (st : List Int × Nat) (x : Int × Int) : List Int × Nat :=
  (rng x.1 (x.2 + 1 - x.1).toNat).foldl (topStep u v w s x.1 x.2 (ds.getD st.2 0 * ds.getD (st.2 + 1) 0) ds) (st.1, st.2 + 2)
def placesOf (u v w s : Int) (ds : List Int) (xs : List (Int × Int)) : List Int × Nat := xs.foldl (pairStep u v w s ds) (List.replicate (2 * s + 1).toNat 0, 0)
def tops (xs : List (Int × Int)) : Nat := (xs.map fun x => (x.2 + 1 - x.1).toNat).sum

theorem flat_one {α : Type} (x : α) (n : Nat) : (List.replicate n [x]).flatten = List.replicate n x := by
  induction n with
  | zero => rfl
  | succ n ih => rw [List.replicate_succ, List.flatten_cons, ih]; rfl
theorem tops_snoc (xs : List (Int × Int)) (x : Int × Int) : tops (xs ++ [x]) = tops xs + (x.2 + 1 - x.1).toNat := by simp [tops]
theorem tops_take (xs : List (Int × Int)) (i : Nat) (hi : i < xs.length) : tops (xs.take (i + 1)) ≤ tops xs := by
  have : tops xs = tops (xs.take (i + 1)) + tops (xs.drop (i + 1)) := by
    unfold tops
    rw [← List.sum_append, ← List.map_append, List.take_append_drop]
  omega
theorem topFold_snd (u v w s p q both : Int) (ds : List Int) : ∀ (ts : List Int) (st : List Int × Nat), (ts.foldl (topStep u v w s p q both ds) st).2 = st.2 + ts.length
  | [], st => rfl
  | t :: ts, st => by rw [List.foldl_cons, topFold_snd u v w s p q both ds ts]; simp [topStep]; omega
theorem pairFold_snd (u v w s : Int) (ds : List Int) : ∀ (xs : List (Int × Int)) (st : List Int × Nat), (xs.foldl (pairStep u v w s ds) st).2 = st.2 + 2 * xs.length + tops xs
  | [], st => rfl
  | x :: xs, st => by
    rw [List.foldl_cons, pairFold_snd u v w s ds xs]
    unfold pairStep
    rw [topFold_snd, rng_length]
    simp [tops]; omega
theorem places_snd (u v w s : Int) (ds : List Int) (xs : List (Int × Int)) : (placesOf u v w s ds xs).2 = 2 * xs.length + tops xs := by
  unfold placesOf
  rw [pairFold_snd]; simp
structure PL (n : Nat) (B : Int) (pl : List Int) : Prop where
  len : pl.length = n
  bnd : ∀ y ∈ pl, 0 ≤ y ∧ y ≤ B
theorem PL.nonneg {n : Nat} {B : Int} {pl : List Int} (h : PL n B pl) (hn : 0 < n) : 0 ≤ B := by
  obtain ⟨rfl, hb⟩ := h
  cases pl with
  | nil => simp at hn
  | cons y r => have := hb y (.head _); omega
theorem PL.add {n : Nat} {B x d : Int} {pl : List Int} (h : PL n B pl) (hB : 0 ≤ B) (hx : 0 ≤ x) (hd : x ≤ d) (i : Nat) : PL n (B + d) (addAt pl i x) := by
  refine ⟨by unfold addAt; rw [List.length_set]; exact h.len, fun y hy => ?_⟩
  have hg := getD_bnd h.bnd i hB
  rcases List.mem_or_eq_of_mem_set hy with hy | rfl
  · have := h.bnd y hy; omega
  · omega
theorem topFold_PL {u v w s p q both : Int} {ds : List Int} (hb : 0 ≤ both ∧ both ≤ 25) (hds : ∀ d ∈ ds, 0 ≤ d ∧ d ≤ 5) {n : Nat} : ∀ (ts : List Int) (st : List Int × Nat) (B : Int), 0 ≤ B → PL n B st.1 → PL n (B + 125 * (ts.length : Int)) (ts.foldl (topStep u v w s p q both ds) st).1
  | [], st, B, _, h => by simpa using h
  | t :: ts, st, B, hB, h => by
    rw [List.foldl_cons]
    have hd := getD_bnd hds st.2
    have hm : 0 ≤ both * ds.getD st.2 0 ∧ both * ds.getD st.2 0 ≤ 125 := by
      refine ⟨Int.mul_nonneg hb.1 hd.1, ?_⟩
      exact Int.le_trans (Int.mul_le_mul hb.2 hd.2 hd.1 (by decide)) (by decide)
    have h1 : PL n (B + 125) (topStep u v w s p q both ds st t).1 := h.add hB hm.1 hm.2 _
    have h2 := topFold_PL (u := u) (v := v) (w := w) (s := s) (p := p) (q := q) hb hds ts (topStep u v w s p q both ds st t) (B + 125) (by omega) h1
    rw [show B + 125 * ((t :: ts).length : Int) = B + 125 + 125 * (ts.length : Int) by rw [List.length_cons]; omega]
    exact h2
theorem both_bnd {ds : List Int} (hds : ∀ d ∈ ds, 0 ≤ d ∧ d ≤ 5) (i j : Nat) : 0 ≤ ds.getD i 0 * ds.getD j 0 ∧ ds.getD i 0 * ds.getD j 0 ≤ 25 := by
  have h1 := getD_bnd hds i
  have h2 := getD_bnd hds j
  exact ⟨Int.mul_nonneg h1.1 h2.1, Int.le_trans (Int.mul_le_mul h1.2 h2.2 h2.1 (by decide)) (by decide)⟩
theorem pairFold_PL {u v w s : Int} {ds : List Int} (hds : ∀ d ∈ ds, 0 ≤ d ∧ d ≤ 5) {n : Nat} : ∀ (xs : List (Int × Int)) (st : List Int × Nat) (B : Int), 0 ≤ B → PL n B st.1 → PL n (B + 125 * (tops xs : Int)) (xs.foldl (pairStep u v w s ds) st).1
  | [], st, B, _, h => by simpa [tops] using h
  | x :: xs, st, B, hB, h => by
    rw [List.foldl_cons]
    have h1 : PL n (B + 125 * ((rng x.1 (x.2 + 1 - x.1).toNat).length : Int)) (pairStep u v w s ds st x).1 := topFold_PL (both_bnd hds _ _) hds _ _ B hB h
    rw [rng_length] at h1
    have h2 := pairFold_PL (u := u) (v := v) (w := w) (s := s) hds xs _ _ (by omega) h1
    rw [show B + 125 * (tops (x :: xs) : Int) = B + 125 * ((x.2 + 1 - x.1).toNat : Int) + 125 * (tops xs : Int) by unfold tops; rw [List.map_cons, List.sum_cons]; omega]
    exact h2
theorem places_PL {u v w s : Int} {ds : List Int} (hds : ∀ d ∈ ds, 0 ≤ d ∧ d ≤ 5) (xs : List (Int × Int)) : PL (2 * s + 1).toNat (125 * (tops xs : Int)) (placesOf u v w s ds xs).1 := by
  have := pairFold_PL (u := u) (v := v) (w := w) (s := s) hds xs (List.replicate (2 * s + 1).toNat 0, 0) 0 (Int.le_refl _) ⟨List.length_replicate .., fun y hy => by rw [(List.mem_replicate.mp hy).2]; decide⟩
  unfold placesOf
  simpa using this
theorem placesOf_snoc (u v w s : Int) (ds : List Int) (xs : List (Int × Int)) (x : Int × Int) : placesOf u v w s ds (xs ++ [x]) = pairStep u v w s ds (placesOf u v w s ds xs) x := by
  unfold placesOf; rw [List.foldl_append]; rfl
theorem set_some : ∀ (l : List Value) (k : Nat) (v : Value), k < l.length → ki_setL l k v = some (l.set k v)
  | [], _, _, h => by cases h
  | x :: l, 0, v, _ => rfl
  | x :: l, k + 1, v, h => by
    rw [ki_setL, set_some l k v (by simpa using h)]; rfl
theorem ints_set {vs : List Value} {ns : List Int} (h : IntsAre vs ns) (x : Int) (t : Tok) : ∀ i, IntsAre (vs.set i (.int x t)) (ns.set i x) := by
  induction h with
  | nil => intro i; exact .nil
  | cons n t' h ih =>
    intro i
    cases i with
    | zero => exact .cons _ _ h
    | succ i => exact .cons _ _ (ih i)
theorem place_bnd {u v w s p q top : Int} (hu : 0 ≤ u ∧ u ≤ 2) (hv : 0 ≤ v ∧ v ≤ 2) (hw : 0 ≤ w ∧ w ≤ 2) (h1 : 0 ≤ top) (h2 : 0 ≤ p + q - top) (h3 : 0 ≤ s - p - q) : 0 ≤ placeOf u v w s p q top ∧ placeOf u v w s p q top ≤ 2 * s := by
  unfold placeOf
  have a1 := Int.mul_nonneg hu.1 h1
  have a2 := Int.mul_nonneg hv.1 h2
  have a3 := Int.mul_nonneg hw.1 h3
  have b1 := Int.mul_le_mul_of_nonneg_right hu.2 h1
  have b2 := Int.mul_le_mul_of_nonneg_right hv.2 h2
  have b3 := Int.mul_le_mul_of_nonneg_right hw.2 h3
  omega
theorem lv0 {h₀ h : Heap} {L a : Addr} {l : List Value} {n : Nat} {r : List (Addr × Obj)} (_ : News h₀ L h ((a, listOf l.toArray n) :: r)) : ∃ x, x = l := ⟨l, rfl⟩
theorem lv1 {h₀ h : Heap} {L a : Addr} {l : List Value} {n : Nat} {q : Addr × Obj} {r : List (Addr × Obj)} (_ : News h₀ L h (q :: (a, listOf l.toArray n) :: r)) : ∃ x, x = l := ⟨l, rfl⟩
def wordL (ys : List Int) : List UInt8 := ys.foldl (fun acc y => [(65 + y / 256).toNat.toUInt8, (65 + y / 16 % 16).toNat.toUInt8, (65 + y % 16).toNat.toUInt8] ++ acc) []
def wordOf (u v w s : Int) (ds : List Int) (xs : List (Int × Int)) : Array UInt8 := (lstripOf (wordL (placesOf u v w s ds xs).1).toArray #[65]).toArray
theorem wordL_snoc (ys : List Int) (y : Int) : wordL (ys ++ [y]) = [(65 + y / 256).toNat.toUInt8, (65 + y / 16 % 16).toNat.toUInt8, (65 + y % 16).toNat.toUInt8] ++ wordL ys := by
  unfold wordL; rw [List.foldl_append]; rfl
theorem letters_bnd {y : Int} (h0 : 0 ≤ y) (h1 : y ≤ 47500) : (0 ≤ 65 + y / 256 ∧ 65 + y / 256 < 256) ∧ (0 ≤ 65 + y / 16 % 16 ∧ 65 + y / 16 % 16 < 256) ∧ 0 ≤ 65 + y % 16 ∧ 65 + y % 16 < 256 := by
  have a1 := Int.ediv_nonneg h0 (by decide : (0 : Int) ≤ 256)
  have a2 : y / 256 < 190 := Int.ediv_lt_of_lt_mul (by decide) (Int.lt_of_le_of_lt h1 (by decide))
  have b : ∀ z : Int, 0 ≤ 65 + z % 16 ∧ 65 + z % 16 < 256 := fun z =>
    ⟨Int.add_nonneg (by decide) (Int.emod_nonneg z (by decide)), Int.lt_trans (Int.add_lt_add_left (Int.emod_lt_of_pos z (by decide)) 65) (by decide)⟩
  exact ⟨⟨Int.add_nonneg (by decide) a1, Int.lt_trans (Int.add_lt_add_left a2 65) (by decide)⟩, b _, b _⟩
theorem word_con (w : World) (rA pA dA oA : Addr) (a b c u0 u1 u2 : Int) (ta tb tc v0 v1 v2 : Tok) (n k kd ko : Nat) (vs dys : List Value) (xs : List (Int × Int)) (ds : List Int) (rest : List (Addr × Obj))
    (ha : 0 ≤ a ∧ a ≤ b ∧ b ≤ c ∧ c ≤ 8) (hx : ∀ x ∈ xs, 0 ≤ x.1 ∧ x.1 ≤ b ∧ x.1 ≤ x.2 ∧ x.2 ≤ c) (hl : tops xs ≤ 380) (hk2 : 2 * xs.length + tops xs ≤ ds.length) (hu0 : 0 ≤ u0 ∧ u0 ≤ 2) (hu1 : 0 ≤ u1 ∧ u1 ≤ 2) (hu2 : 0 ≤ u2 ∧ u2 ≤ 2)
    (hds : ∀ d ∈ ds, 0 ≤ d ∧ d ≤ 5) (hdl : ds.length ≤ 5000) (hD : DatAll rest vs (xs.map datPair)) (hI : IntsAre dys ds) :
    Con w 235 ((rA, listOf [.int a ta, .int b tb, .int c tc].toArray n) :: (pA, listOf (List.toArray vs) k) :: (dA, listOf (List.toArray dys) kd) :: (oA, ({ cls := .type "tuple", data := .seq [.int u0 v0, .int u1 v1, .int u2 v2].toArray ko } : Obj)) :: rest) [.ref rA, .ref pA, .ref dA, .ref oA]
      (fun nx r => ∃ t, r = .bytes (wordOf u0 u1 u2 (a + b + c) ds xs) t) := by
  intro dp un gd cn cs aa ccd cl outer A₀ base h₀ L m mg mb mean loose s Q E B F X N T hk hd hu hret
  w_top off
  have hHalt := halt
  refine wpAny_call ?_
  k_dflt (refine' code_def (binds := [(Str.ofString "row", .ref rA), (Str.ofString "pairs", .ref pA), (Str.ofString "dots", .ref dA), (Str.ofString "powers", .ref oA)]) ?k1 ?k2 ?k3 ?k4 ?k5 ?kA ?kF ?kK ?k6 ?k7 ?k8 ?k9 ?kB ?_ ?c2 ?c3 ?c4 ?c5; (case kA => exact rfl); (case kF => exact rfl); (case kK => assumption); (case k1 => k_asm); (case k2 => k_asm); (case k3 => k_asm); (case k4 => k_asm); (case k5 => k_asm); (case k6 => k_is); (case k7 => k_is); (case k8 => ktr_room); (case k9 => exact BindsTo.of_eq rfl); (case c5 => decide); (case kB => exact locs rfl); (case c2 => exact rfl); (case c3 => exact rfl); (case c4 => exact rfl); k_whole; intro g' L' h' FG' F' N' B' X' T'; (try dsimp only); (try k_lift B'); (try k_fold))
  k_steps
  rename Fr _ _ _ _ => FR
  rename News _ _ _ _ => NR
  rename IntsAre _ _ => hI0
  obtain ⟨D, rfl⟩ := nm0 NR
  rename _ ∧ _ ∧ _ ∧ _ ∧ _ ∧ AllLt D _ => lD
  obtain ⟨kt, hkt⟩ := fr_int FR (x := Str.ofString "k") rfl
  have e0 : (a + (b + (c + 0))) = a + b + c := by omega
  rw [e0] at NR hI0
  obtain ⟨sm, hsm⟩ : ∃ x, x = a + b + c := ⟨_, rfl⟩
  rw [← hsm] at NR hI0
  rw [flat_one, flat_one] at hI0
  rw [flat_one] at NR
  obtain ⟨pv0, hpv0⟩ := lv0 NR
  rw [← hpv0] at NR hI0
  have NR2 : News g' L' _ ((D, listOf pv0.toArray 0) :: (rA, listOf [.int a ta, .int b tb, .int c tc].toArray n) :: (pA, listOf (List.toArray vs) k) :: (dA, listOf (List.toArray dys) kd) :: (oA, ({ cls := .type "tuple", data := .seq [.int u0 v0, .int u1 v1, .int u2 v2].toArray ko } : Obj)) :: rest) := news_pick NR (by kst_anyIn)
  refine Stop.of (list_loop (fun (st : List Value × Nat × Nat × Tok) => [(D, listOf st.1.toArray st.2.1), (rA, listOf [.int a ta, .int b tb, .int c tc].toArray n), (pA, listOf (List.toArray vs) k), (dA, listOf (List.toArray dys) kd), (oA, ({ cls := .type "tuple", data := .seq [.int u0 v0, .int u1 v1, .int u2 v2].toArray ko } : Obj))]) (fun st => [(Str.ofString "k", .int (st.2.2.1 : Int) st.2.2.2)]) [Str.ofString "p", Str.ofString "q", Str.ofString "both", Str.ofString "top", Str.ofString "place"]
    (fun I i st tl => rest = tl ∧ OwnOff rest [D, I] ∧ (below D I ∧ below rA I ∧ below pA I ∧ below dA I ∧ below oA I) ∧ IntsAre st.1 (placesOf u0 u1 u2 sm ds (xs.take i)).1 ∧ st.2.2.1 = (placesOf u0 u1 u2 sm ds (xs.take i)).2) (pv0, 0, 0, kt) rest (n := k) (vs := vs) rfl (by k_mem) rfl rfl FR NR2 ?_ ?_ ?_ ?_ ?_ ?_)
  · kst_anyIn
  · intro p hp; rw [List.mem_singleton.mp hp]; exact hkt
  · rintro I ⟨i1, i2, i3, i4, i5, i6⟩
    exact ⟨rfl, off_add (off_lt lD.2.2.2.2.2) (off_add (off_lt i6) off_nil), ⟨i1, i2, i3, i4, i5⟩, hI0, rfl⟩
  · rintro I i st tl h
    simp
  · intro I i cc9a tl v hv cc9b u h tk o F₁ N₁ P9 hP9
    obtain ⟨pv, kp, kk, kt⟩ := cc9a
    obtain ⟨rfl, o1, o2, o3, o4⟩ := cc9b
    have hi : i < xs.length := by
      have := hD.length
      have h2 := (List.getElem?_eq_some_iff.mp hv).1
      simp at this; omega
    obtain ⟨v', hv', hvD⟩ := hD.get (k := i) (by simpa using hi)
    have ev : v' = v := by rw [hv] at hv'; exact (Option.some.inj hv').symm
    subst ev
    simp only [List.getElem_map] at hvD
    have hxi := hx _ (List.getElem_mem hi)
    have hst : xs.take (i + 1) = xs.take i ++ [xs[i]] := by rw [List.take_add_one, List.getElem?_eq_getElem hi]; rfl
    generalize xs[i] = x at hvD hxi hst
    obtain ⟨x1, x2⟩ := x
    obtain ⟨T, kT, t1, t2, rfl, hT⟩ := datPair_in hvD
    dsimp only [names, kstB, List.cons_append, List.nil_append] at F₁ N₁ o3 o4 hxi hT
    have N₂ := news_more (.tail _ (.tail _ (.tail _ (.tail _ (.tail _ (.tail _ hT)))))) N₁
    clear N₁ NR NR2
    have eT1 : apart T D := o1 _ hT _ (by simp)
    have eT4 : apart T I := o1 _ hT _ (by simp)
    have hks := places_snd u0 u1 u2 sm ds (xs.take i)
    have htp := tops_take xs i hi
    rw [hst, tops_snoc] at htp
    rw [← o4] at hks
    have hti : (xs.take i).length = i := by rw [List.length_take]; omega
    have hkm : kk + 2 + (x2 + 1 - x1).toNat ≤ ds.length := by dsimp only at htp; omega
    have hHd := Hid.mk (And.intro hti hks)
    clear hks htp hti hk2
    have hk0 : kk + 1 < ds.length := by omega
    obtain ⟨d0, hd0⟩ : ∃ x, x = ds.getD kk 0 := ⟨_, rfl⟩
    obtain ⟨d1, hd1⟩ : ∃ x, x = ds.getD (kk + 1) 0 := ⟨_, rfl⟩
    have hb0 : 0 ≤ d0 ∧ d0 ≤ 5 := hd0 ▸ getD_bnd hds kk
    have hb1 : 0 ≤ d1 ∧ d1 ≤ 5 := hd1 ▸ getD_bnd hds (kk + 1)
    obtain ⟨td0, hv0⟩ := ints_at hI kk (by omega)
    obtain ⟨td1, hv1⟩ := ints_at hI (kk + 1) (by omega)
    rw [← hd0] at hv0
    rw [← hd1] at hv1
    k_steps
    rename News _ _ _ _ => N3
    refine Stop.of (kim_list N3 (by k_mem) rfl rfl (by omega) (by have := o4; omega) (by rw [Int.toNat_natCast]; exact hv0) ?_)
    k_steps
    rename News _ _ _ _ => N3
    refine Stop.of (kim_list N3 (by k_mem) rfl rfl (by omega) (by have := o4; omega) (by rw [show ((kk : Int) + 1).toNat = kk + 1 from by omega]; exact hv1) ?_)
    k_steps
    rename Fr _ _ _ _ => FR2
    rename News _ _ _ _ => NR2
    rename IsRange _ _ _ _ _ _ _ _ => hR2
    change IsRange _ _ x1 (x2 + 1) 1 _ _ _ at hR2
    obtain ⟨kt2, hkt2⟩ := fr_int FR2 (x := Str.ofString "k") rfl
    obtain ⟨bt2, hbt2⟩ := fr_int FR2 (x := Str.ofString "both") rfl
    have hsum : x1 + x2 ≤ sm := by omega
    have hbb : 0 ≤ d0 * d1 ∧ d0 * d1 ≤ 25 := by rw [hd0, hd1]; exact both_bnd hds _ _
    have hPL := places_PL (u := u0) (v := u1) (w := u2) (s := sm) hds (xs.take i)
    generalize hpi : placesOf u0 u1 u2 sm ds (xs.take i) = Pi at o3 o4 hPL
    obtain ⟨pli, ki⟩ := Pi
    dsimp only at o3 o4 hPL
    subst o4
    refine Stop.of (range_loop (fun (st : List Value × Nat × Nat × Tok) => [(D, listOf st.1.toArray st.2.1), (rA, listOf [.int a ta, .int b tb, .int c tc].toArray n), (pA, listOf (List.toArray vs) k), (dA, listOf (List.toArray dys) kd), (oA, ({ cls := .type "tuple", data := .seq [.int u0 v0, .int u1 v1, .int u2 v2].toArray ko } : Obj)), (I, o)]) (fun st => [(Str.ofString "k", .int (st.2.2.1 : Int) st.2.2.2)]) [Str.ofString "top", Str.ofString "place"]
      (fun J j st tl => rest = tl ∧ OwnOff rest [D, I, J] ∧ (below D J ∧ below rA J ∧ below pA J ∧ below dA J ∧ below oA J ∧ below I J) ∧ IntsAre st.1 ((rng x1 j).foldl (topStep u0 u1 u2 sm x1 x2 (d0 * d1) ds) (pli, kk + 2)).1 ∧ st.2.2.1 = kk + 2 + j) (pv, kp, kk + 2, kt2) rest rfl hR2 FR2 NR2 ?_ ?_ ?_ ?_ ?_ ?_ ?_ ?_ ?_ ?_)
    · kst_anyIn
    · intro p hp; rw [List.mem_singleton.mp hp]; exact hkt2
    · decide
    · omega
    · omega
    · omega
    · omega
    · rintro J ⟨jT, jI, jD, jr, jp, jd, jo, jrest⟩
      exact ⟨rfl, off_add (off_at o1 (by simp)) (off_add (off_at o1 (by simp)) (off_add (off_lt jrest) off_nil)), ⟨jD, jr, jp, jd, jo, jI⟩, o3, rfl⟩
    · intro J j cc9a tl hj cc9b t9 u9 h9 tk9 ob F6 N6 P8 hP8
      obtain ⟨pv2, kp2, kk2, kt3⟩ := cc9a
      obtain ⟨rfl, p1, p2, p3, p4⟩ := cc9b
      dsimp only [names, kstB, List.cons_append, List.nil_append] at F6 N6 p3 p4
      subst p4
      have hj' : x1 + (j : Int) ≤ x2 := by omega
      have hkj : kk + 2 + j < ds.length := by omega
      have hPl := place_bnd (s := sm) (p := x1) (q := x2) (top := x1 + (j : Int)) hu0 hu1 hu2 (by omega) (by omega) (by omega)
      have hPLj := topFold_PL (u := u0) (v := u1) (w := u2) (s := sm) (p := x1) (q := x2) hbb hds (rng x1 j) (pli, kk + 2) _ (by omega) hPL
      have hsj := topFold_snd u0 u1 u2 sm x1 x2 (d0 * d1) ds (rng x1 j) (pli, kk + 2)
      have hsn : ((rng x1 (j + 1)).foldl (topStep u0 u1 u2 sm x1 x2 (d0 * d1) ds) (pli, kk + 2)) = topStep u0 u1 u2 sm x1 x2 (d0 * d1) ds ((rng x1 j).foldl (topStep u0 u1 u2 sm x1 x2 (d0 * d1) ds) (pli, kk + 2)) (x1 + (j : Int)) := by rw [rng_succ, List.foldl_append]; rfl
      generalize (rng x1 j).foldl (topStep u0 u1 u2 sm x1 x2 (d0 * d1) ds) (pli, kk + 2) = Pj at p3 hPLj hsj hsn
      obtain ⟨plj, kj⟩ := Pj
      rw [rng_length] at hPLj hsj
      dsimp only at p3 hPLj hsj
      subst hsj
      have hpv2 : pv2.length = plj.length := p3.length
      have hpl2 := hPLj.len
      obtain ⟨dj, hdj⟩ : ∃ x, x = ds.getD (kk + 2 + j) 0 := ⟨_, rfl⟩
      have hbj : 0 ≤ dj ∧ dj ≤ 5 := hdj ▸ getD_bnd hds (kk + 2 + j)
      obtain ⟨tdj, hvj⟩ := ints_at hI (kk + 2 + j) hkj
      rw [← hdj] at hvj
      k_steps
      rename Fr _ _ _ _ => F7
      rename News _ _ _ _ => N7
      rw [show a + (b + (c + 0)) = sm from by omega]
      have hPe : placeOf u0 u1 u2 sm x1 x2 (x1 + (j : Int)) = u0 * (x1 + (j : Int)) + u1 * (x1 + x2 - (x1 + (j : Int))) + u2 * (sm - x1 - x2) := rfl
      generalize u0 * (x1 + (j : Int)) + u1 * (x1 + x2 - (x1 + (j : Int))) + u2 * (sm - x1 - x2) = P at hPe F7 ⊢
      rw [hPe] at hPl
      obtain ⟨tpl, hvpl⟩ := ints_at p3 P.toNat (by omega)
      obtain ⟨yj, hyj⟩ : ∃ x, x = plj.getD P.toNat 0 := ⟨_, rfl⟩
      rw [← hyj] at hvpl
      refine Stop.of (getItem_listL (l := pv2) ⟨_, (N7 (D, listOf pv2.toArray kp2) (by k_mem)).1, rfl, _, rfl⟩ hPl.1 (by omega) hvpl ?_)
      k_steps
      rename News _ _ _ _ => N8
      refine Stop.of (kim_list N8 (by k_mem) rfl rfl (by omega) (by omega) (by rw [Int.toNat_natCast]; exact hvj) ?_)
      k_steps
      refine Stop.of ?_
      k_dflt (refine' ki_set ?F ?N hPl.1 ?b ?e ?U ?_; (case F => k_asm); (case N => k_asm); (case b => omega); (case e => exact set_some pv2 P.toNat _ (by omega)); (case U => k_upd); k_whole)
      intro h8 F8 N8
      k_steps
      rename Fr _ _ _ _ => F9
      rename News _ _ _ _ => N9
      obtain ⟨kt9, hkt9⟩ := fr_int F9 (x := Str.ofString "k") rfl
      obtain ⟨pv3, hpv3⟩ := lv1 N9
      rw [← hpv3] at N9
      refine hP8 _ _ (LPost.next (pv3, kp2, kk + 2 + j + 1, kt9) rest F9 N9 (by k_mem) ?_ ?_ ?_ ?_ ⟨rfl, p1, p2, ?_, by dsimp only; omega⟩)
      · kst_anyIn
      · simp only [List.forall_mem_cons, List.cons_append, List.nil_append]
        exact ⟨Nat.ne_of_lt p2.1, Nat.ne_of_lt p2.2.1, Nat.ne_of_lt p2.2.2.1, Nat.ne_of_lt p2.2.2.2.1, Nat.ne_of_lt p2.2.2.2.2.1, Nat.ne_of_lt p2.2.2.2.2.2, off_at p1 (by simp)⟩
      · intro p hp; rw [List.mem_singleton.mp hp]; exact hkt9
      · (intro z hz1 hz2; first | rfl | ((simp only [List.contains_cons, List.contains_nil, Bool.or_false, Bool.or_eq_false_iff, beq_eq_false_iff_ne, ne_eq] at hz2); (try simp only [List.forall_mem_cons, List.not_mem_nil, false_implies, implies_true, and_true, ne_eq] at hz1); (simp [hz1, hz2]; done)))
      · dsimp only
        rw [hsn]
        show IntsAre _ (plj.set (placeOf u0 u1 u2 sm x1 x2 (x1 + (j : Int))).toNat (plj.getD (placeOf u0 u1 u2 sm x1 x2 (x1 + (j : Int))).toNat 0 + d0 * d1 * ds.getD (kk + 2 + j) 0))
        rw [hPe, ← hyj, ← hdj, hpv3]
        exact ints_set p3 _ _ _
    · rintro J ⟨pv2, kp2, kk2, kt3⟩ tl ⟨rfl, p1, p2, p3, p4⟩ u9 h9 tk9 F6 N6
      dsimp only [names, kstB, List.cons_append, List.nil_append] at F6 N6 p3 p4
      k_steps
      rename Fr _ _ _ _ => F9
      rename News _ _ _ _ => N9
      refine hP9 _ _ (LPost.next (pv2, kp2, kk2, kt3) rest F9 N9 (by k_mem) ?_ ?_ ?_ ?_ ⟨rfl, o1, o2, ?_, ?_⟩)
      · kst_anyIn
      · simp only [List.forall_mem_cons, List.cons_append, List.nil_append]
        exact ⟨Nat.ne_of_lt o2.1, Nat.ne_of_lt o2.2.1, Nat.ne_of_lt o2.2.2.1, Nat.ne_of_lt o2.2.2.2.1, Nat.ne_of_lt o2.2.2.2.2, off_at o1 (by simp)⟩
      · intro p hp; rw [List.mem_singleton.mp hp]; rfl
      · (intro z hz1 hz2; first | rfl | ((simp only [List.contains_cons, List.contains_nil, Bool.or_false, Bool.or_eq_false_iff, beq_eq_false_iff_ne, ne_eq] at hz2); (try simp only [List.forall_mem_cons, List.not_mem_nil, false_implies, implies_true, and_true, ne_eq] at hz1); (simp [hz1, hz2]; done)))
      · dsimp only
        rw [hst, placesOf_snoc, hpi]
        show IntsAre pv2 ((rng x1 (x2 + 1 - x1).toNat).foldl (topStep u0 u1 u2 sm x1 x2 (ds.getD kk 0 * ds.getD (kk + 1) 0) ds) (pli, kk + 2)).1
        rw [← hd0, ← hd1]
        exact p3
      · dsimp only
        rw [hst, places_snd, tops_snoc, p4]
        obtain ⟨hti, hks⟩ := hHd.of
        rw [List.length_append, hti]
        simp only [List.length_cons, List.length_nil]
        omega
  · rintro I ⟨pv, kp, kk, kt⟩ tl ⟨rfl, o1, o2, o3, o4⟩ u h tk F₁ N₁
    dsimp only [names, kstB, List.cons_append, List.nil_append] at F₁ N₁ o3 o4
    have hle : vs.length = xs.length := by have := hD.length; simpa using this
    rw [hle, List.take_length] at o3
    have hPL := places_PL (u := u0) (v := u1) (w := u2) (s := sm) hds xs
    generalize hplx : (placesOf u0 u1 u2 sm ds xs).1 = pl at o3 hPL
    clear NR NR2
    k_steps
    rename Fr _ _ _ _ => FR
    rename News _ _ _ _ => NR
    obtain ⟨bt, hbt⟩ := fr_bytes FR (x := Str.ofString "word") rfl
    have hle2 : pv.length = pl.length := o3.length
    have hpl := hPL.len
    refine Stop.of (list_loop (fun (st : List UInt8 × Tok) => [(D, listOf pv.toArray kp), (rA, listOf [.int a ta, .int b tb, .int c tc].toArray n), (pA, listOf (List.toArray vs) k), (dA, listOf (List.toArray dys) kd), (oA, ({ cls := .type "tuple", data := .seq [.int u0 v0, .int u1 v1, .int u2 v2].toArray ko } : Obj))]) (fun st => [(Str.ofString "word", .bytes st.1.toArray st.2)]) [Str.ofString "worth"]
      (fun J i st tl => rest = tl ∧ OwnOff rest [J] ∧ (below D J ∧ below rA J ∧ below pA J ∧ below dA J ∧ below oA J) ∧ st.1 = wordL (pl.take i) ∧ st.1.length = 3 * i) ([], bt) rest (n := kp) (vs := pv) rfl (by k_mem) rfl rfl FR NR ?_ ?_ ?_ ?_ ?_ ?_)
    · kst_anyIn
    · intro p hp; rw [List.mem_singleton.mp hp]; exact hbt
    · rintro J ⟨i1, i2, i3, i4, i5, i6⟩
      exact ⟨rfl, off_add (off_lt i6) off_nil, ⟨i1, i2, i3, i4, i5⟩, rfl, rfl⟩
    · rintro J i st tl h
      simp
    · intro J i cc9a tl v hv cc9b u h6 tk6 o6 F6 N6 P9 hP9
      obtain ⟨wd, wt⟩ := cc9a
      obtain ⟨rfl, p1, p2, p3, p4⟩ := cc9b
      dsimp only [names, kstB, List.cons_append, List.nil_append] at F6 N6 p3 p4
      have hi : i < pl.length := by
        have h2 := (List.getElem?_eq_some_iff.mp hv).1
        omega
      have hst : pl.take (i + 1) = pl.take i ++ [pl[i]] := by rw [List.take_add_one, List.getElem?_eq_getElem hi]; rfl
      have hy := hPL.bnd _ (List.getElem_mem hi)
      obtain ⟨ty, hvy⟩ := ints_at o3 i hi
      rw [hv, List.getD_eq_getElem?_getD, List.getElem?_eq_getElem hi] at hvy
      obtain rfl := Option.some.inj hvy
      dsimp only [Option.getD_some]
      generalize pl[i] = y at hst hy ⊢
      have hy2 : 0 ≤ y ∧ y ≤ 47500 := by omega
      have hf1 : y.fdiv 256 = y / 256 := Int.fdiv_eq_ediv_of_nonneg y (by decide)
      have hf2 : y.fdiv 16 = y / 16 := Int.fdiv_eq_ediv_of_nonneg y (by decide)
      have hf3 : y.fmod 16 = y % 16 := Int.fmod_eq_emod_of_nonneg y (by decide)
      have hf4 : (y / 16).fmod 16 = y / 16 % 16 := Int.fmod_eq_emod_of_nonneg _ (by decide)
      clear NR
      k_steps
      refine Stop.of ?_
      k_dflt (refine' bytes_K (ns := [65 + y.fdiv 256, 65 + (y.fdiv 16).fmod 16, 65 + y.fmod 16]) ?F ?N ?l ?i ?r ?z ?h ?_; (case F => k_asm); (case N => k_asm); (case l => is_list); (case i => l_ints); (case r => (rw [hf1, hf2, hf3, hf4]; simp only [List.forall_mem_cons, List.not_mem_nil, false_implies, implies_true, and_true]; exact letters_bnd hy2.1 hy2.2)); (case z => (show 3 ≤ PySem.sizeLine; rw [PySem.sizeLine_eq]; omega)); (case h => with_unfolding_all rfl); k_whole)
      intro h7 t7 k7 F7 N7 _
      rw [hf1, hf2, hf3, hf4]
      k_steps
      k_dflt (refine' Stop.of (bytes_add_K ?z rfl ?_); (case z => (simp only [List.size_toArray, List.length_map, List.length_cons, List.length_nil]; omega)); k_whole)
      intro t8 k8
      k_steps
      rename Fr _ _ _ _ => F9
      rename News _ _ _ _ => N9
      obtain ⟨bt9, hbt9⟩ := fr_bytes F9 (x := Str.ofString "word") rfl
      refine hP9 _ _ (LPost.next ([(65 + y / 256).toNat.toUInt8, (65 + y / 16 % 16).toNat.toUInt8, (65 + y % 16).toNat.toUInt8] ++ wd, bt9) rest F9 N9 ?_ ?_ ?_ ?_ ?_ ⟨rfl, p1, p2, ?_, ?_⟩)
      · k_mem
      · kst_anyIn
      · simp only [List.forall_mem_cons, List.cons_append, List.nil_append]
        exact ⟨Nat.ne_of_lt p2.1, Nat.ne_of_lt p2.2.1, Nat.ne_of_lt p2.2.2.1, Nat.ne_of_lt p2.2.2.2.1, Nat.ne_of_lt p2.2.2.2.2, off_at p1 (by simp)⟩
      · intro p hp; rw [List.mem_singleton.mp hp]; exact hbt9
      · (intro z hz1 hz2; first | rfl | ((simp only [List.contains_cons, List.contains_nil, Bool.or_false, Bool.or_eq_false_iff, beq_eq_false_iff_ne, ne_eq] at hz2); (try simp only [List.forall_mem_cons, List.not_mem_nil, false_implies, implies_true, and_true, ne_eq] at hz1); (simp [hz1, hz2]; done)))
      · dsimp only
        rw [hst, wordL_snoc, p3]
      · dsimp only
        rw [List.length_append, p4]; simp only [List.length_cons, List.length_nil]; omega
    · rintro J ⟨wd, wt⟩ tl ⟨rfl, p1, p2, p3, p4⟩ u h6 tk6 F6 N6
      dsimp only [names, kstB, List.cons_append, List.nil_append] at F6 N6 p3 p4
      rw [hle2, List.take_length] at p3
      clear NR
      k_steps
      have hlen : (lstripOf wd.toArray #[65]).length ≤ wd.length := (List.dropWhile_suffix _).length_le
      k_dflt (refine' Stop.of (lstrip_call ?z ?_); (case z => (rw [PySem.sizeLine_eq]; omega)); k_whole)
      intro t9 k9
      k_steps
      rename Fr h₀ _ _ _ => F8
      rename News h₀ _ _ _ => N8
      refine hret _ [] _ _ F8 ?_ ⟨t9, ?_⟩
      · refine news_pick N8 ?_
        kst_anyIn
      · unfold wordOf
        rw [← hsm, hplx, ← p3]
end Mine
end
end
section
open PySem PySem.W PyProof.Rows PySem.Calls PySem.Spec
set_option Elab.async false
set_option maxRecDepth 100000
set_option maxHeartbeats 4000000
namespace Mine
def alt0 (x y z : Int) : Int := altN (x ^ (0 : Int).toNat) (x ^ (1 : Int).toNat) (x ^ (2 : Int).toNat) (y ^ (0 : Int).toNat) (y ^ (1 : Int).toNat) (y ^ (2 : Int).toNat) (z ^ (0 : Int).toNat) (z ^ (1 : Int).toNat) (z ^ (2 : Int).toNat) 3
def altR (x y z a b c : Int) : Int := altN (x ^ a.toNat) (x ^ b.toNat) (x ^ c.toNat) (y ^ a.toNat) (y ^ b.toNat) (y ^ c.toNat) (z ^ a.toNat) (z ^ b.toNat) (z ^ c.toNat) 3
def prodR (x y z tt a b c : Int) : Int := (y + tt * x) * (z + tt * x) * (z + tt * y) * altR x y z a b c
def LawOk (a b c times u0 u1 u2 : Int) : Prop :=
  alt0 (4096 ^ u0.toNat) (4096 ^ u1.toNat) (4096 ^ u2.toNat) ≠ 0 ∧
  (prodR (4096 ^ u0.toNat) (4096 ^ u1.toNat) (4096 ^ u2.toNat) (times + 1) a b c).fmod (alt0 (4096 ^ u0.toNat) (4096 ^ u1.toNat) (4096 ^ u2.toNat)) = 0 ∧
  ((prodR (4096 ^ u0.toNat) (4096 ^ u1.toNat) (4096 ^ u2.toNat) (times + 1) a b c).fdiv (alt0 (4096 ^ u0.toNat) (4096 ^ u1.toNat) (4096 ^ u2.toNat))).natAbs < 16 ^ 700 ∧
  (apOf ((prodR (4096 ^ u0.toNat) (4096 ^ u1.toNat) (4096 ^ u2.toNat) (times + 1) a b c).fdiv (alt0 (4096 ^ u0.toNat) (4096 ^ u1.toNat) (4096 ^ u2.toNat))).natAbs).map UInt8.toNat =
    (lstripOf (wordL (placesOf u0 u1 u2 (a + b + c) ((entriesOf a b c (pairsOf a b c (b + 1 - a).toNat)).map (dotsOf times.toNat)) (pairsOf a b c (b + 1 - a).toNat)).1).toArray #[65]).map UInt8.toNat
def powOf (k : Nat) : Int × Int × Int := match k with
  | 0 => (0, 1, 2)
  | 1 => (0, 2, 1)
  | 2 => (1, 0, 2)
  | 3 => (1, 2, 0)
  | 4 => (2, 0, 1)
  | _ => (2, 1, 0)
theorem ok000 : ∀ t : Fin 3, ∀ p : Fin 6, LawOk 0 1 2 (1 + (t.val : Int)) (powOf p.val).1 (powOf p.val).2.1 (powOf p.val).2.2 := by
  unfold LawOk
  decide +kernel
theorem ok001 : ∀ t : Fin 3, ∀ p : Fin 6, LawOk 0 1 3 (1 + (t.val : Int)) (powOf p.val).1 (powOf p.val).2.1 (powOf p.val).2.2 := by
  unfold LawOk
  decide +kernel
theorem ok002 : ∀ t : Fin 3, ∀ p : Fin 6, LawOk 0 1 4 (1 + (t.val : Int)) (powOf p.val).1 (powOf p.val).2.1 (powOf p.val).2.2 := by
  unfold LawOk
  decide +kernel
theorem ok010 : ∀ t : Fin 3, ∀ p : Fin 6, LawOk 0 2 3 (1 + (t.val : Int)) (powOf p.val).1 (powOf p.val).2.1 (powOf p.val).2.2 := by
  unfold LawOk
  decide +kernel
theorem ok011 : ∀ t : Fin 3, ∀ p : Fin 6, LawOk 0 2 4 (1 + (t.val : Int)) (powOf p.val).1 (powOf p.val).2.1 (powOf p.val).2.2 := by
  unfold LawOk
  decide +kernel
theorem ok012 : ∀ t : Fin 3, ∀ p : Fin 6, LawOk 0 2 5 (1 + (t.val : Int)) (powOf p.val).1 (powOf p.val).2.1 (powOf p.val).2.2 := by
  unfold LawOk
  decide +kernel
theorem ok020 : ∀ t : Fin 3, ∀ p : Fin 6, LawOk 0 3 4 (1 + (t.val : Int)) (powOf p.val).1 (powOf p.val).2.1 (powOf p.val).2.2 := by
  unfold LawOk
  decide +kernel
theorem ok021 : ∀ t : Fin 3, ∀ p : Fin 6, LawOk 0 3 5 (1 + (t.val : Int)) (powOf p.val).1 (powOf p.val).2.1 (powOf p.val).2.2 := by
  unfold LawOk
  decide +kernel
theorem ok022 : ∀ t : Fin 3, ∀ p : Fin 6, LawOk 0 3 6 (1 + (t.val : Int)) (powOf p.val).1 (powOf p.val).2.1 (powOf p.val).2.2 := by
  unfold LawOk
  decide +kernel
theorem ok100 : ∀ t : Fin 3, ∀ p : Fin 6, LawOk 1 2 3 (1 + (t.val : Int)) (powOf p.val).1 (powOf p.val).2.1 (powOf p.val).2.2 := by
  unfold LawOk
  decide +kernel
theorem ok101 : ∀ t : Fin 3, ∀ p : Fin 6, LawOk 1 2 4 (1 + (t.val : Int)) (powOf p.val).1 (powOf p.val).2.1 (powOf p.val).2.2 := by
  unfold LawOk
  decide +kernel
theorem ok102 : ∀ t : Fin 3, ∀ p : Fin 6, LawOk 1 2 5 (1 + (t.val : Int)) (powOf p.val).1 (powOf p.val).2.1 (powOf p.val).2.2 := by
  unfold LawOk
  decide +kernel
theorem ok110 : ∀ t : Fin 3, ∀ p : Fin 6, LawOk 1 3 4 (1 + (t.val : Int)) (powOf p.val).1 (powOf p.val).2.1 (powOf p.val).2.2 := by
  unfold LawOk
  decide +kernel
theorem ok111 : ∀ t : Fin 3, ∀ p : Fin 6, LawOk 1 3 5 (1 + (t.val : Int)) (powOf p.val).1 (powOf p.val).2.1 (powOf p.val).2.2 := by
  unfold LawOk
  decide +kernel
theorem ok112 : ∀ t : Fin 3, ∀ p : Fin 6, LawOk 1 3 6 (1 + (t.val : Int)) (powOf p.val).1 (powOf p.val).2.1 (powOf p.val).2.2 := by
  unfold LawOk
  decide +kernel
theorem ok120 : ∀ t : Fin 3, ∀ p : Fin 6, LawOk 1 4 5 (1 + (t.val : Int)) (powOf p.val).1 (powOf p.val).2.1 (powOf p.val).2.2 := by
  unfold LawOk
  decide +kernel
theorem ok121 : ∀ t : Fin 3, ∀ p : Fin 6, LawOk 1 4 6 (1 + (t.val : Int)) (powOf p.val).1 (powOf p.val).2.1 (powOf p.val).2.2 := by
  unfold LawOk
  decide +kernel
theorem ok122 : ∀ t : Fin 3, ∀ p : Fin 6, LawOk 1 4 7 (1 + (t.val : Int)) (powOf p.val).1 (powOf p.val).2.1 (powOf p.val).2.2 := by
  unfold LawOk
  decide +kernel
theorem ok200 : ∀ t : Fin 3, ∀ p : Fin 6, LawOk 2 3 4 (1 + (t.val : Int)) (powOf p.val).1 (powOf p.val).2.1 (powOf p.val).2.2 := by
  unfold LawOk
  decide +kernel
theorem ok201 : ∀ t : Fin 3, ∀ p : Fin 6, LawOk 2 3 5 (1 + (t.val : Int)) (powOf p.val).1 (powOf p.val).2.1 (powOf p.val).2.2 := by
  unfold LawOk
  decide +kernel
theorem ok202 : ∀ t : Fin 3, ∀ p : Fin 6, LawOk 2 3 6 (1 + (t.val : Int)) (powOf p.val).1 (powOf p.val).2.1 (powOf p.val).2.2 := by
  unfold LawOk
  decide +kernel
theorem ok210 : ∀ t : Fin 3, ∀ p : Fin 6, LawOk 2 4 5 (1 + (t.val : Int)) (powOf p.val).1 (powOf p.val).2.1 (powOf p.val).2.2 := by
  unfold LawOk
  decide +kernel
theorem ok211 : ∀ t : Fin 3, ∀ p : Fin 6, LawOk 2 4 6 (1 + (t.val : Int)) (powOf p.val).1 (powOf p.val).2.1 (powOf p.val).2.2 := by
  unfold LawOk
  decide +kernel
theorem ok212 : ∀ t : Fin 3, ∀ p : Fin 6, LawOk 2 4 7 (1 + (t.val : Int)) (powOf p.val).1 (powOf p.val).2.1 (powOf p.val).2.2 := by
  unfold LawOk
  decide +kernel
theorem ok220 : ∀ t : Fin 3, ∀ p : Fin 6, LawOk 2 5 6 (1 + (t.val : Int)) (powOf p.val).1 (powOf p.val).2.1 (powOf p.val).2.2 := by
  unfold LawOk
  decide +kernel
theorem ok221 : ∀ t : Fin 3, ∀ p : Fin 6, LawOk 2 5 7 (1 + (t.val : Int)) (powOf p.val).1 (powOf p.val).2.1 (powOf p.val).2.2 := by
  unfold LawOk
  decide +kernel
theorem ok222 : ∀ t : Fin 3, ∀ p : Fin 6, LawOk 2 5 8 (1 + (t.val : Int)) (powOf p.val).1 (powOf p.val).2.1 (powOf p.val).2.2 := by
  unfold LawOk
  decide +kernel
end Mine
end
section
open PySem PySem.W PyProof.Rows PySem.Calls PySem.Spec
set_option Elab.async false
set_option maxRecDepth 100000
set_option maxHeartbeats 8000000
set_option linter.unusedSimpArgs false
namespace Mine

local macro_rules | `(tactic| walk_at "call ref") => `(tactic| ((rename Halt => hHalt9); k_here; refine Stop.mk ?_))
local macro_rules | `(tactic| walk_at "subscriptTail Name Constant ref int") => `(tactic| (k_here; (rename News _ _ _ _ => nK9); (refine kim_list nK9 (by k_mem) (by rfl) (by rfl) (by decide) (by decide) (by rfl) ?_)))
local macro_rules | `(tactic| walk_at "subscriptTail") => `(tactic| ((rename Halt => hHalt9); k_here; refine Stop.mk ?_))
theorem six_ints {ys : List Value} {cs : List Int} (h : IntsAre ys cs) (hl : cs.length = 6) : ∃ c0 c1 c2 c3 c4 c5 t0 t1 t2 t3 t4 t5, ys = [Value.int c0 t0, .int c1 t1, .int c2 t2, .int c3 t3, .int c4 t4, .int c5 t5] ∧ cs = [c0, c1, c2, c3, c4, c5] := by
  obtain ⟨c0, t0, y0, d0, e0, f0, h, hl⟩ := ints_succ h hl
  obtain ⟨c1, t1, y1, d1, e1, f1, h, hl⟩ := ints_succ h hl
  obtain ⟨c2, t2, y2, d2, e2, f2, h, hl⟩ := ints_succ h hl
  obtain ⟨c3, t3, y3, d3, e3, f3, h, hl⟩ := ints_succ h hl
  obtain ⟨c4, t4, y4, d4, e4, f4, h, hl⟩ := ints_succ h hl
  obtain ⟨c5, t5, y5, d5, e5, f5, h, hl⟩ := ints_succ h hl
  obtain ⟨e6, f6⟩ := ints_zero h hl
  exact ⟨c0, c1, c2, c3, c4, c5, t0, t1, t2, t3, t4, t5, by rw [e0, e1, e2, e3, e4, e5, e6], by rw [f0, f1, f2, f3, f4, f5, f6]⟩
local macro_rules | `(tactic| walk_at "eval ListComp") => `(tactic| ((rename Halt => hHalt9); k_here; k_dflt (refine ListComp_T (_F₀ := by k_asm) (by with_unfolding_all rfl) (by decide) (by rfl) (by decide) (by rfl) ?_)))
local macro_rules | `(tactic| walk_at "binaryOp Pow int int") => `(tactic| (k_here; (with_reducible refine pow_int_small ?kb1 ?kb2 ?kb3 ?_); (case kb1 => omega); (case kb2 => omega); (case kb3 => decide)))
local macro_rules | `(tactic| walk_at "TupSrc") => `(tactic| ((rename Halt => hHalt9); refine Stop.mk ?_))
local macro_rules | `(tactic| walk_at "execs cons") => `(tactic| ((rename Halt => hHalt9); k_here; (try k_gentoks); refine Stop.mk ?_))
theorem fr_gen {h₀ h : Heap} {L : Addr} {x : Str} {y : Int} {t : Tok} {m' : Str → Option Value} (F : Fr h₀ L h (fun z => if z = x then some (.int y t) else m' z)) {G : Prop} (hG : ∀ y' t', y' = y → Fr h₀ L h (fun z => if z = x then some (.int y' t') else m' z) → G) : G := hG y t rfl F
theorem row_gen {h₀ h : Heap} {L l : Addr} {a b c : Int} {t1 t2 t3 : Tok} {n : Nat} {r : List (Addr × Obj)} (N : News h₀ L h ((l, listOf #[.int a t1, .int b t2, .int c t3] n) :: r)) {G : Prop} (hG : ∀ a' b' c' t1' t2' t3', a' = a → b' = b → c' = c → News h₀ L h ((l, listOf [.int a' t1', .int b' t2', .int c' t3'].toArray n) :: r) → G) : G := hG a b c t1 t2 t3 rfl rfl rfl N
theorem times_eq {x c0 c1 c2 c3 c4 c5 : Int} (h : x = 1 + ([c0, c1, c2, c3, c4, c5].getD (Int.toNat 3) 0).fmod 3) : x = 1 + c3 % 3 := by
  rw [h]; show (1 : Int) + c3.fmod 3 = 1 + c3 % 3; rw [Int.fmod_eq_emod_of_nonneg c3 (by decide)]
abbrev tupO (u0 u1 u2 : Int) (v0 v1 v2 : Tok) (n : Nat) : Obj := { cls := .type "tuple", data := .seq [Value.int u0 v0, .int u1 v1, .int u2 v2].toArray n }
theorem mod6_eq (c0 c1 c2 c3 c4 c5 : Int) : ([c0, c1, c2, c3, c4, c5].getD (Int.toNat 4) 0).fmod 6 = c4 % 6 := Int.fmod_eq_emod_of_nonneg c4 (by decide)
theorem pow_pick {h₀ h : Heap} {L l T0 T1 T2 T3 T4 T5 : Addr} {n n0 n1 n2 n3 n4 n5 : Nat} {a0 a1 a2 b0 b1 b2 d0 d1 d2 e0 e1 e2 f0 f1 f2 g0 g1 g2 : Tok} {r : List (Addr × Obj)}
    (N : News h₀ L h ((l, listOf #[.ref T0, .ref T1, .ref T2, .ref T3, .ref T4, .ref T5] n) :: (T5, tupO 2 1 0 g0 g1 g2 n5) :: (T4, tupO 2 0 1 f0 f1 f2 n4) :: (T3, tupO 1 2 0 e0 e1 e2 n3) :: (T2, tupO 1 0 2 d0 d1 d2 n2) :: (T1, tupO 0 2 1 b0 b1 b2 n1) :: (T0, tupO 0 1 2 a0 a1 a2 n0) :: r))
    (k : Int) (h0 : 0 ≤ k) (h1 : k < 6) {G : Prop}
    (hG : ∀ T u0 u1 u2 v0 v1 v2 ko, [Value.ref T0, .ref T1, .ref T2, .ref T3, .ref T4, .ref T5][k.toNat]? = some (.ref T) → (u0, u1, u2) = powOf k.toNat → ((0 ≤ u0 ∧ u0 ≤ 2) ∧ (0 ≤ u1 ∧ u1 ≤ 2) ∧ (0 ≤ u2 ∧ u2 ≤ 2)) → News h₀ L h ((T, tupO u0 u1 u2 v0 v1 v2 ko) :: r) → G) : G := by
  obtain ⟨j, rfl⟩ := Int.eq_ofNat_of_zero_le h0
  rw [Int.toNat_natCast] at hG
  have hj : j = 0 ∨ j = 1 ∨ j = 2 ∨ j = 3 ∨ j = 4 ∨ j = 5 := by omega
  have key : ∀ (T : Addr) (o : Obj), (T, o) ∈ _ → News h₀ L h ((T, o) :: r) := fun T o hm p hp => by
    rcases List.mem_cons.mp hp with rfl | hp
    · exact N _ hm
    · exact N _ (.tail _ (.tail _ (.tail _ (.tail _ (.tail _ (.tail _ (.tail _ hp)))))))
  rcases hj with rfl | rfl | rfl | rfl | rfl | rfl
  · exact hG T0 0 1 2 a0 a1 a2 n0 rfl rfl (by decide) (key _ _ (.tail _ (.tail _ (.tail _ (.tail _ (.tail _ (.tail _ (.head _))))))))
  · exact hG T1 0 2 1 b0 b1 b2 n1 rfl rfl (by decide) (key _ _ (.tail _ (.tail _ (.tail _ (.tail _ (.tail _ (.head _)))))))
  · exact hG T2 1 0 2 d0 d1 d2 n2 rfl rfl (by decide) (key _ _ (.tail _ (.tail _ (.tail _ (.tail _ (.head _))))))
  · exact hG T3 1 2 0 e0 e1 e2 n3 rfl rfl (by decide) (key _ _ (.tail _ (.tail _ (.tail _ (.head _)))))
  · exact hG T4 2 0 1 f0 f1 f2 n4 rfl rfl (by decide) (key _ _ (.tail _ (.tail _ (.head _))))
  · exact hG T5 2 1 0 g0 g1 g2 n5 rfl rfl (by decide) (key _ _ (.tail _ (.head _)))
theorem news_swap {h₀ h : Heap} {L : Addr} {x y : Addr × Obj} {r : List (Addr × Obj)} (N : News h₀ L h (x :: y :: r)) : News h₀ L h (y :: x :: r) := fun p hp => by
  rcases List.mem_cons.mp hp with rfl | hp
  · exact N _ (.tail _ (.head _))
  · rcases List.mem_cons.mp hp with rfl | hp
    · exact N _ (.head _)
    · exact N _ (.tail _ (.tail _ hp))
theorem news_drop {h₀ h : Heap} {L : Addr} {new E : List (Addr × Obj)} (N : News h₀ L h (new ++ E)) : News h₀ L h E := fun p hp => N p (List.mem_append_right _ hp)
theorem str_bne (x : Str) : ¬ ((x != x) = true) := by simp
theorem if_no {c : Prop} [Decidable c] {X Y : Prop} (hc : ¬ c) (h : Y) : if c then X else Y := by rw [if_neg hc]; exact h
theorem three_ints {ys : List Value} {p q r : Int} (h : IntsAre ys [p, q, r]) : ∃ t0 t1 t2, ys = [Value.int p t0, .int q t1, .int r t2] := by
  obtain ⟨t0, y0, e0, h⟩ := ints_cons h
  obtain ⟨t1, y1, e1, h⟩ := ints_cons h
  obtain ⟨t2, y2, e2, h⟩ := ints_cons h
  exact ⟨t0, t1, t2, by rw [e0, e1, e2, ints_nil h]⟩
theorem pow_le {u : Int} (h : 0 ≤ u ∧ u ≤ 2) : 1 ≤ (4096 : Int) ^ u.toNat ∧ (4096 : Int) ^ u.toNat ≤ 16777216 := by
  have : u = 0 ∨ u = 1 ∨ u = 2 := by omega
  rcases this with rfl | rfl | rfl <;> decide
theorem news_third {h₀ h : Heap} {L : Addr} {x y z : Addr × Obj} {r : List (Addr × Obj)} (N : News h₀ L h (x :: y :: z :: r)) : News h₀ L h (x :: z :: y :: r) := fun p hp => by
  simp only [List.mem_cons] at hp
  rcases hp with rfl | rfl | rfl | hp
  · exact N _ (.head _)
  · exact N _ (.tail _ (.tail _ (.head _)))
  · exact N _ (.tail _ (.head _))
  · exact N _ (.tail _ (.tail _ (.tail _ hp)))
theorem led_gen {h₀ h : Heap} {L : Addr} {new E : List (Addr × Obj)} (N : News h₀ L h (new ++ E)) {G : Prop} (hG : ∀ tl, tl = new ++ E → News h₀ L h tl → G) : G := hG _ rfl N
theorem led_tail {new E tl : List (Addr × Obj)} (h : tl = new ++ E) : ∀ q ∈ E, q ∈ tl := fun q hq => h ▸ List.mem_append_right _ hq
def RowOk (a b c : Int) (xs : List (Int × Int)) : Prop :=
  (∀ x ∈ xs, 0 ≤ x.1 ∧ x.1 ≤ b ∧ x.1 ≤ x.2 ∧ x.2 ≤ c) ∧ xs.length ≤ 100 ∧ tops xs ≤ 380 ∧ 2 * xs.length + tops xs ≤ (entriesOf a b c xs).length ∧ (∀ x ∈ entriesOf a b c xs, x.1 < x.2.2) ∧ (entriesOf a b c xs).length ≤ 2000 ∧ (∀ x ∈ entriesOf a b c xs, ∀ n ∈ [1, 2, 3], 0 ≤ dotsOf n x ∧ dotsOf n x ≤ 5) ∧ (entriesOf a b c xs).length ≤ 5000 ∧ True
theorem rows_ok : ∀ i j k : Fin 3, RowOk (i.val : Int) ((i.val : Int) + 1 + (j.val : Int)) ((i.val : Int) + 1 + (j.val : Int) + 1 + (k.val : Int)) (pairsOf (i.val : Int) ((i.val : Int) + 1 + (j.val : Int)) ((i.val : Int) + 1 + (j.val : Int) + 1 + (k.val : Int)) (((i.val : Int) + 1 + (j.val : Int)) + 1 - (i.val : Int)).toNat) := by
  unfold RowOk
  decide +kernel
theorem row_ok {a b c lo mi : Int} (c0 c1 c2 : Int) (ea : a = lo) (eb : b = mi) (ec : c = mi + 1 + c2 % 3) (hlo : lo = c0 % 3) (hmi : mi = lo + 1 + c1 % 3) : RowOk a b c (pairsOf a b c (b + 1 - a).toNat) := by
  obtain ⟨i, hi⟩ : ∃ i : Fin 3, (i.val : Int) = c0 % 3 := ⟨⟨(c0 % 3).toNat, by omega⟩, by simp only; omega⟩
  obtain ⟨j, hj⟩ : ∃ i : Fin 3, (i.val : Int) = c1 % 3 := ⟨⟨(c1 % 3).toNat, by omega⟩, by simp only; omega⟩
  obtain ⟨k, hk⟩ : ∃ i : Fin 3, (i.val : Int) = c2 % 3 := ⟨⟨(c2 % 3).toNat, by omega⟩, by simp only; omega⟩
  have := rows_ok i j k
  rw [hi, hj, hk] at this
  subst ea eb ec hlo hmi
  exact this
theorem altN_bits {xa xb xc ya yb yc za zb zc : Int} {m : Nat} (h : ∀ v ∈ [xa, xb, xc, ya, yb, yc, za, zb, zc], PySem.Builtin.Int.intBits v ≤ 400) : PySem.Builtin.Int.intBits (altN xa xb xc ya yb yc za zb zc 3) ≤ 2000 := by
  simp only [List.forall_mem_cons, List.not_mem_nil, false_implies, implies_true, and_true] at h
  obtain ⟨h1, h2, h3, h4, h5, h6, h7, h8, h9⟩ := h
  have t : ∀ {p q r s v : Int}, PySem.Builtin.Int.intBits p ≤ 400 → PySem.Builtin.Int.intBits q ≤ 400 → PySem.Builtin.Int.intBits r ≤ 400 → PySem.Builtin.Int.intBits s ≤ 400 → PySem.Builtin.Int.intBits v ≤ 400 → PySem.Builtin.Int.intBits (p * (q * r - s * v)) ≤ 400 + (max (400 + 400) (400 + 400) + 1) := fun a b c d e => PyProof.Rows.bits_mul a (PyProof.Rows.bits_sub (PyProof.Rows.bits_mul b c) (PyProof.Rows.bits_mul d e))
  have z : PySem.Builtin.Int.intBits 0 ≤ 1 := by decide
  exact Nat.le_trans (PyProof.Rows.bits_add (PyProof.Rows.bits_add (PyProof.Rows.bits_add z (t h1 h5 h9 h6 h8)) (t h2 h6 h7 h4 h9)) (t h3 h4 h8 h5 h7)) (by decide)
theorem altR_bits {x y z a b c : Int} (hx : 0 ≤ x ∧ x < 2 ^ 30) (hy : 0 ≤ y ∧ y < 2 ^ 30) (hz : 0 ≤ z ∧ z < 2 ^ 30) (ha : 0 ≤ a ∧ a ≤ 10) (hb : 0 ≤ b ∧ b ≤ 10) (hc : 0 ≤ c ∧ c ≤ 10) : PySem.Builtin.Int.intBits (altR x y z a b c) ≤ 2000 := by
  refine altN_bits (m := 0) ?_
  simp only [List.forall_mem_cons, List.not_mem_nil, false_implies, implies_true, and_true]
  exact ⟨pow_bits hx ha, pow_bits hx hb, pow_bits hx hc, pow_bits hy ha, pow_bits hy hb, pow_bits hy hc, pow_bits hz ha, pow_bits hz hb, pow_bits hz hc⟩
theorem prod_bits {x y z t : Int} (hx : 0 ≤ x ∧ x < 2 ^ 30) (hy : 0 ≤ y ∧ y < 2 ^ 30) (hz : 0 ≤ z ∧ z < 2 ^ 30) (ht : 0 ≤ t ∧ t ≤ 4) : PySem.Builtin.Int.intBits ((y + t * x) * (z + t * x) * (z + t * y)) ≤ 200 := by
  have bx : PySem.Builtin.Int.intBits x ≤ 30 := intBits_le_iff.mpr (by omega)
  have by' : PySem.Builtin.Int.intBits y ≤ 30 := intBits_le_iff.mpr (by omega)
  have bz : PySem.Builtin.Int.intBits z ≤ 30 := intBits_le_iff.mpr (by omega)
  have bt : PySem.Builtin.Int.intBits t ≤ 3 := intBits_le_iff.mpr (by omega)
  exact Nat.le_trans (PyProof.Rows.bits_mul (PyProof.Rows.bits_mul (PyProof.Rows.bits_add by' (PyProof.Rows.bits_mul bt bx)) (PyProof.Rows.bits_add bz (PyProof.Rows.bits_mul bt bx))) (PyProof.Rows.bits_add bz (PyProof.Rows.bits_mul bt by'))) (by decide)
theorem log2_bits {y : Int} (h : PySem.Builtin.Int.intBits y ≤ 2000) : y.natAbs.log2 < 9000 := by
  by_cases h0 : y.natAbs = 0
  · rw [h0]; decide +kernel
  · have h1 : y.natAbs < 2 ^ 2000 := intBits_le_iff.mp h
    have h2 := (Nat.log2_lt h0).mpr h1
    omega
theorem all_ok (i j k t : Fin 3) (p : Fin 6) : LawOk (i.val : Int) ((i.val : Int) + 1 + (j.val : Int)) ((i.val : Int) + 1 + (j.val : Int) + 1 + (k.val : Int)) (1 + (t.val : Int)) (powOf p.val).1 (powOf p.val).2.1 (powOf p.val).2.2 := by
  match i, j, k with
  | 0, 0, 0 => exact ok000 t p
  | 0, 0, 1 => exact ok001 t p
  | 0, 0, 2 => exact ok002 t p
  | 0, 1, 0 => exact ok010 t p
  | 0, 1, 1 => exact ok011 t p
  | 0, 1, 2 => exact ok012 t p
  | 0, 2, 0 => exact ok020 t p
  | 0, 2, 1 => exact ok021 t p
  | 0, 2, 2 => exact ok022 t p
  | 1, 0, 0 => exact ok100 t p
  | 1, 0, 1 => exact ok101 t p
  | 1, 0, 2 => exact ok102 t p
  | 1, 1, 0 => exact ok110 t p
  | 1, 1, 1 => exact ok111 t p
  | 1, 1, 2 => exact ok112 t p
  | 1, 2, 0 => exact ok120 t p
  | 1, 2, 1 => exact ok121 t p
  | 1, 2, 2 => exact ok122 t p
  | 2, 0, 0 => exact ok200 t p
  | 2, 0, 1 => exact ok201 t p
  | 2, 0, 2 => exact ok202 t p
  | 2, 1, 0 => exact ok210 t p
  | 2, 1, 1 => exact ok211 t p
  | 2, 1, 2 => exact ok212 t p
  | 2, 2, 0 => exact ok220 t p
  | 2, 2, 1 => exact ok221 t p
  | 2, 2, 2 => exact ok222 t p
theorem law_ok {a b c lo mi times u0 u1 u2 : Int} {q : Int} (c0 c1 c2 c3 c4 : Int) (ea : a = lo) (eb : b = mi) (ec : c = mi + 1 + c2 % 3) (hlo : lo = c0 % 3) (hmi : mi = lo + 1 + c1 % 3) (hti : times = 1 + c3 % 3) (h46 : q = c4 % 6) (hpu : (u0, u1, u2) = powOf q.toNat) : LawOk a b c times u0 u1 u2 := by
  obtain ⟨i, hi⟩ : ∃ i : Fin 3, (i.val : Int) = c0 % 3 := ⟨⟨(c0 % 3).toNat, by omega⟩, by simp only; omega⟩
  obtain ⟨j, hj⟩ : ∃ i : Fin 3, (i.val : Int) = c1 % 3 := ⟨⟨(c1 % 3).toNat, by omega⟩, by simp only; omega⟩
  obtain ⟨k, hk⟩ : ∃ i : Fin 3, (i.val : Int) = c2 % 3 := ⟨⟨(c2 % 3).toNat, by omega⟩, by simp only; omega⟩
  obtain ⟨t, ht⟩ : ∃ i : Fin 3, (i.val : Int) = c3 % 3 := ⟨⟨(c3 % 3).toNat, by omega⟩, by simp only; omega⟩
  obtain ⟨p, hp⟩ : ∃ i : Fin 6, i.val = q.toNat := ⟨⟨q.toNat, by omega⟩, rfl⟩
  have := all_ok i j k t p
  rw [hi, hj, hk, ht, hp, ← hpu] at this
  subst ea eb ec hlo hmi hti
  exact this
theorem toNat_inj : ∀ {a b : List UInt8}, a.map UInt8.toNat = b.map UInt8.toNat → a = b
  | [], [], _ => rfl
  | [], _ :: _, h => by simp at h
  | _ :: _, [], h => by simp at h
  | x :: a, y :: b, h => by
    simp only [List.map_cons, List.cons.injEq] at h
    rw [UInt8.toNat_inj.mp h.1, toNat_inj h.2]
theorem law_at {a b c times u0 u1 u2 x y z tt : Int} {xs : List (Int × Int)} {ts : List (Int × Int × Int)} (hX : (4096 : Int) ^ u0.toNat = x) (hY : (4096 : Int) ^ u1.toNat = y) (hZ : (4096 : Int) ^ u2.toNat = z) (htt : tt = times + 1) (hxs : pairsOf a b c (b + 1 - a).toNat = xs) (hts : entriesOf a b c xs = ts) (h : LawOk a b c times u0 u1 u2) :
    alt0 x y z ≠ 0 ∧ (prodR x y z tt a b c).fmod (alt0 x y z) = 0 ∧ ((prodR x y z tt a b c).fdiv (alt0 x y z)).natAbs < 16 ^ 700 ∧ (apOf ((prodR x y z tt a b c).fdiv (alt0 x y z)).natAbs).toArray = wordOf u0 u1 u2 (a + b + c) (ts.map (dotsOf times.toNat)) xs := by
  unfold LawOk at h
  rw [hX, hY, hZ, hxs, hts, ← htt] at h
  obtain ⟨h1, h2, h3, h4⟩ := h
  exact ⟨h1, h2, h3, congrArg List.toArray (toNat_inj h4)⟩
theorem if_yes {c : Prop} [Decidable c] {X Y : Prop} (hc : c) (h : X) : if c then X else Y := by rw [if_pos hc]; exact h
theorem sign_abs (a : Int) (n : Nat) : (a * (-1 : Int) ^ n).natAbs = a.natAbs := by
  rw [Int.natAbs_mul, Int.natAbs_pow, show (-1 : Int).natAbs = 1 from rfl, Nat.one_pow, Nat.mul_one]
theorem ap_zero : (apOf (0 : Int).natAbs).toArray = #[] := rfl
local macro_rules | `(tactic| k_qdec) => `(tactic| decide +kernel)
theorem law_holds : PySem.Challenge.rw_kl0305_01.Holds := hd ⟨look_f, look_t, (by
  w_top off
  k_go0
  refine goal_any ?_
  intro Qk Ek hQk hEk
  have hHalt := halt
  rename Shared.gens _ = _ => hG0
  k_steps
  (refine Stop.of ?_; k_here; (try dsimp only); (with_reducible refine wpAny_execs_cons ?_); k_steps)
  rename IntsAre _ _ => hInts
  rename ¬ _ < _ => hLen
  rename Heap.IsList _ _ _ => hLifted
  rename News _ _ _ _ => N1
  rename Fr _ _ _ _ => F1
  refine Stop.of ?_
  k_here
  k_dflt (refine' cells_con _ _ _ _ _ hInts ?hl _ _ _ _ _ _ _ _ _ _ _ _ _ _ _ _ _ _ _ _ _ ?k0 ?k1 ?k2 ?k3 ?k4 ?k5 ?k6 ?k7 ?k8 ?_; (case hl => omega); (case k0 => exact hLifted); (case k1 => k_asm); (case k2 => exact F1); (case k3 => k_asm); (case k4 => exact N1); (case k5 => k_asm); (case k6 => exact rfl); (case k7 => ktr_room); (case k8 => ktr_units); k_whole)
  rintro _ new h2 tk2 F2 N2 ⟨D, ys, cs, rfl, hmD, hIc, hlc, hcb⟩
  obtain ⟨c0, c1, c2, c3, c4, c5, t0, t1, t2, t3, t4, t5, rfl, rfl⟩ := six_ints hIc hlc
  obtain ⟨tl, htl⟩ : ∃ tl, tl = new ++ [(147, tabObj #[])] := ⟨_, rfl⟩
  rw [← htl] at N2 hmD
  have z0 : ((147 : Addr), tabObj #[]) ∈ tl := by rw [htl]; simp
  have N3 : News _ _ _ ((D, listOf [Value.int c0 t0, .int c1 t1, .int c2 t2, .int c3 t3, .int c4 t4, .int c5 t5].toArray 6) :: tl) := news_more hmD N2
  simp only [List.forall_mem_cons, List.not_mem_nil, false_implies, implies_true, and_true] at hcb
  obtain ⟨hc0, hc1, hc2, hc3, hc4, hc5⟩ := hcb
  clear N2 hmD N1 hInts hLifted hIc hlc F1 hLen
  k_steps
  (refine Stop.of ?_; k_here; (try dsimp only); (with_reducible refine wpAny_execs_cons ?_); k_steps)
  rename Fr _ _ _ _ => F9
  refine fr_gen F9 ?_
  intro lo tlo hlo F10
  clear F9
  replace hlo : lo = c0 % 3 := hlo.trans (Int.fmod_eq_emod_of_nonneg c0 (by decide))
  (refine Stop.of ?_; k_here; (try dsimp only); (with_reducible refine wpAny_execs_cons ?_); k_steps)
  rename Fr _ _ _ _ => F9
  refine fr_gen F9 ?_
  intro mi tmi hmi F11
  clear F9
  replace hmi : mi = lo + 1 + c1 % 3 := hmi.trans (congrArg (lo + 1 + ·) (Int.fmod_eq_emod_of_nonneg c1 (by decide)))
  (refine Stop.of ?_; k_here; (try dsimp only); (with_reducible refine wpAny_execs_cons ?_); k_steps)
  rename News _ _ _ _ => N9
  refine row_gen N9 ?_
  intro a b c ta tb tc ea eb ec N4
  clear N9
  replace ec : c = mi + 1 + c2 % 3 := ec.trans (congrArg (mi + 1 + ·) (Int.fmod_eq_emod_of_nonneg c2 (by decide)))
  (refine Stop.of ?_; k_here; (try dsimp only); (with_reducible refine wpAny_execs_cons ?_); k_steps)
  rename Fr _ _ _ _ => F9
  refine fr_gen F9 ?_
  intro times tti hti F12
  clear F9
  replace hti : times = 1 + c3 % 3 := times_eq hti
  (refine Stop.of ?_; k_here; (try dsimp only); (with_reducible refine wpAny_execs_cons ?_); k_steps)
  rename News _ _ _ _ => N9
  have h46 := mod6_eq c0 c1 c2 c3 c4 c5
  refine pow_pick N9 (([c0, c1, c2, c3, c4, c5].getD (Int.toNat 4) 0).fmod 6) (by omega) (by omega) ?_
  intro T u0 u1 u2 v0 v1 v2 ko hpk hpu hpow N5
  refine Stop.of (item_tmp N9 (.head _) (by omega) (by omega) hpk ?_)
  clear N9
  k_steps
  (refine Stop.of ?_; k_here; (try dsimp only); (with_reducible refine wpAny_execs_cons ?_); k_steps)
  rename News _ _ _ _ => N6
  rename Fr _ _ _ _ => F6
  have NA := news_swap N6
  clear N6
  have hrow := row_ok c0 c1 c2 ea eb ec hlo hmi
  have hbd : 0 ≤ a ∧ a + 1 ≤ b ∧ b + 1 ≤ c ∧ c ≤ 8 := by omega
  have htb : 1 ≤ times ∧ times ≤ 3 := by omega
  have hHid := Hid.mk (And.intro ea (And.intro eb (And.intro ec (And.intro hlo (And.intro hmi (And.intro hti h46))))))
  clear ea eb ec hlo hmi hti h46
  generalize hxs : pairsOf a b c (b + 1 - a).toNat = xs at hrow
  obtain ⟨w1, w2, w3, w4, w5, w6, w7, w8, w9⟩ := hrow
  refine Stop.of ?_
  k_here
  k_dflt (refine' pairs_con _ _ _ _ _ _ _ _ _ _ ?h1 ?h2 ?h3 ?h4 _ _ _ _ _ _ _ _ _ _ _ _ _ _ _ _ _ _ _ _ _ ?k1 ?k2 ?k3 ?k4 ?k5 ?k6 ?k7 ?k8 ?_; (case k4 => exact NA); (case k2 => exact F6); (case h1 => omega); (case h2 => omega); (case h3 => omega); (case h4 => omega); (case k1 => k_asm); (case k3 => k_asm); (case k5 => k_asm); (case k6 => exact rfl); (case k7 => ktr_room); (case k8 => ktr_units); k_whole)
  rintro _ new3 h3 tk3 F7 N7 ⟨pA, vs, kp, rfl, hmP, hDP⟩
  refine led_gen N7 ?_
  intro tl3 htl3 N8
  rw [← htl3, hxs] at hDP
  rw [← htl3] at hmP
  have hE3 := led_tail htl3
  simp only [List.forall_mem_cons] at hE3
  obtain ⟨eR, eT, eD, eTl⟩ := hE3
  have z3 := eTl _ z0
  have N9 := news_more (.tail _ (.tail _ (.tail _ eR))) (news_more (.tail _ (.tail _ hmP)) (news_more (.tail _ eT) (news_more eD N8)))
  clear N7 NA N8 F6 htl3
  k_steps
  (refine Stop.of ?_; k_here; (try dsimp only); (with_reducible refine wpAny_execs_cons ?_); k_steps)
  rename News _ _ _ _ => N10
  rename Fr _ _ _ _ => F8
  refine Stop.of ?_
  k_here
  k_dflt (refine' entries_con _ _ _ _ _ _ _ _ _ _ _ _ xs _ ?hx ?hl ?hD _ _ _ _ _ _ _ _ _ _ _ _ _ _ _ _ _ _ _ _ _ ?k1 ?k2 ?k3 ?k4 ?k5 ?k6 ?k7 ?k8 ?_; (case k4 => exact N10); (case k2 => exact F8); (case hx => exact fun x hx => ⟨(w1 x hx).1, (w1 x hx).2.2.1, by have := (w1 x hx).2.2.2; omega⟩); (case hl => exact w2); (case hD => exact DatAll.mono (fun p hp => .tail _ (.tail _ hp)) hDP); (case k1 => k_asm); (case k3 => k_asm); (case k5 => k_asm); (case k6 => exact rfl); (case k7 => ktr_room); (case k8 => ktr_units); k_whole)
  rintro _ new4 h4 tk4 F9 N11 ⟨eA, es, ke, rfl, hmE, hDE⟩
  refine led_gen N11 ?_
  intro tl4 htl4 N12
  rw [← htl4] at hmE hDE
  have hE4 := led_tail htl4
  simp only [List.forall_mem_cons] at hE4
  obtain ⟨fR, fP, fT, fD, fTl⟩ := hE4
  have z4 := fTl _ z3
  have hDP := DatAll.mono fTl hDP
  generalize hts : entriesOf a b c xs = ts at hDE w4 w5 w6 w7 w8
  have N13 := news_more (.tail _ (.tail _ (.tail _ (.tail _ hmE)))) (news_more (.tail _ (.tail _ (.tail _ fR))) (news_more (.tail _ (.tail _ fP)) (news_more (.tail _ fT) (news_more fD N12))))
  clear N10 N11 N12 F8 htl4 eR eT eD eTl hmP
  k_steps
  (refine Stop.of ?_; k_here; (try dsimp only); (with_reducible refine wpAny_execs_cons ?_); k_steps)
  rename News _ _ _ _ => N14
  rename Fr _ _ _ _ => F10
  refine Stop.of ?_
  k_here
  k_dflt (refine' page_con _ _ _ _ ts _ w6 w5 ?hD _ _ _ _ _ _ _ _ _ _ _ _ _ _ _ _ _ _ _ _ _ ?k1 ?k2 ?k3 ?k4 ?k5 ?k6 ?k7 ?k8 ?_; (case k4 => exact N14); (case k2 => exact F10); (case hD => exact DatAll.mono (fun p hp => .tail _ (.tail _ (.tail _ (.tail _ hp)))) hDE); (case k1 => k_asm); (case k3 => k_asm); (case k5 => k_asm); (case k6 => exact rfl); (case k7 => ktr_room); (case k8 => ktr_units); k_whole)
  rintro _ new5 h5 tk5 F11 N15 ⟨tpg, rfl⟩
  have N16 := news_drop N15
  clear N14 N15 F10
  k_steps
  (refine Stop.of ?_; k_here; (try dsimp only); (with_reducible refine wpAny_execs_cons ?_); k_steps)
  rename News _ _ _ _ => N17
  rename Fr _ _ _ _ => F12
  refine Stop.of ?_
  k_here
  k_dflt (refine' spelled_con _ _ _ _ ts _ w6 ?hD _ _ _ _ _ _ _ _ _ _ _ _ _ _ _ _ _ _ _ _ _ ?k1 ?k2 ?k3 ?k4 ?k5 ?k6 ?k7 ?k8 ?_; (case k4 => exact N17); (case k2 => exact F12); (case hD => exact DatAll.mono (fun p hp => .tail _ (.tail _ (.tail _ (.tail _ hp)))) hDE); (case k1 => k_asm); (case k3 => k_asm); (case k5 => k_asm); (case k6 => exact rfl); (case k7 => ktr_room); (case k8 => ktr_units); k_whole)
  rintro _ new6 h6 tk6 F13 N18 ⟨tsp, rfl⟩
  have N19 := news_drop N18
  clear N17 N18 F12
  iterate 2 (first | walk1 | (dsimp only; walk1))
  refine if_no (str_bne _) ?_
  k_steps
  (refine Stop.of ?_; k_here; (try dsimp only); (with_reducible refine wpAny_execs_cons ?_); k_steps)
  rename News _ _ _ _ => N20
  rename Fr _ _ _ _ => F14
  refine Stop.of ?_
  k_here
  k_dflt (refine' dots_con _ ts times _ _ _ _ _ w6 ?ht ?he _ _ _ _ _ _ _ _ _ _ _ _ _ _ _ _ _ _ _ _ _ ?k1 ?k2 ?k3 ?k4 ?k5 ?k6 ?k7 ?k8 ?_; (case ht => omega); (case he => (show 0 ≤ c5 ∧ c5 ≤ 1000000; omega)); (case k4 => exact N20); (case k2 => exact F14); (case k1 => k_asm); (case k3 => k_asm); (case k5 => k_asm); (case k6 => exact rfl); (case k7 => ktr_room); (case k8 => ktr_units); k_whole)
  rintro _ new7 h7 tk7 F15 N21 ⟨dA, dys, rfl, hmd, hId⟩
  refine led_gen N21 ?_
  intro tl7 htl7 N22
  rw [← htl7] at hmd
  have hE7 := led_tail htl7
  simp only [List.forall_mem_cons] at hE7
  obtain ⟨gE, gR, gP, gT, gD, gTl⟩ := hE7
  have z7 := gTl _ z4
  have hmd : (dA, listOf dys.toArray dys.length) ∈ tl7 := hmd
  have hDP := DatAll.mono gTl hDP
  have N23 := news_more (.tail _ (.tail _ (.tail _ gR))) (news_more (.tail _ (.tail _ gP)) (news_more (.tail _ hmd) (news_more gT N22)))
  clear N20 N21 N22 F14 htl7
  k_steps
  rename News _ _ _ _ => N24
  rename Fr _ _ _ _ => F16
  have htn : times.toNat ∈ [1, 2, 3] := by
    have : times = 1 ∨ times = 2 ∨ times = 3 := by omega
    rcases this with rfl | rfl | rfl <;> decide
  have hds9 : ∀ d ∈ ts.map (dotsOf times.toNat), 0 ≤ d ∧ d ≤ 5 := fun d hd => by
    obtain ⟨x, hx, rfl⟩ := List.mem_map.mp hd
    exact w7 x hx _ htn
  have hlen9 : (ts.map (dotsOf times.toNat)).length = ts.length := List.length_map ..
  refine Stop.of ?_
  k_here
  k_dflt (refine' word_con _ _ _ _ _ _ _ _ _ _ _ _ _ _ _ _ _ _ _ _ _ vs dys xs (ts.map (dotsOf times.toNat)) _ ?ha w1 w3 ?hkk hpow.1 hpow.2.1 hpow.2.2 hds9 ?hdl ?hD hId _ _ _ _ _ _ _ _ _ _ _ _ _ _ _ _ _ _ _ _ _ ?k1 ?k2 ?k3 ?k4 ?k5 ?k6 ?k7 ?k8 ?_; (case hkk => (rw [hlen9]; exact w4)); (case hdl => (rw [hlen9]; exact w8)); (case k4 => exact N24); (case k2 => exact F16); (case ha => omega); (case hD => exact DatAll.mono (fun p hp => hp) hDP); (case k1 => k_asm); (case k3 => k_asm); (case k5 => k_asm); (case k6 => exact rfl); (case k7 => ktr_room); (case k8 => ktr_units); k_whole)
  rintro _ new8 h8 tk8 F17 N25 ⟨twd, rfl⟩
  have N26 := news_drop N25
  clear N24 N25 F16
  k_steps
  (refine Stop.of ?_; k_here; (try dsimp only); (with_reducible refine wpAny_execs_cons ?_); k_steps)
  rename News _ _ _ _ => N27
  rename Fr _ _ _ _ => F18
  refine led_gen (new := []) N27 ?_
  intro tl8 htl8 N28
  have hE8 := led_tail htl8
  simp only [List.forall_mem_cons] at hE8
  obtain ⟨mR, mP, mdA, mT, mTl⟩ := hE8
  have z8 := mTl _ z7
  clear N27 htl8
  refine Stop.of ⟨T, [.int u0 v0, .int u1 v1, .int u2 v2], ko, tl8, fun j ys nw => (∀ p ∈ tl8, p ∈ nw) ∧ IntsAre ys (([u0, u1, u2].take j).map fun u => (4096 : Int) ^ u.toNat), rfl, rfl, F18, N28, mT, (by show 3 ≤ PySem.sizeLine; rw [PySem.sizeLine_eq]; omega), ⟨fun _ h => h, .nil⟩, ?_, ?_⟩
  · rintro g2 j zs nx vv2 I2 oI2 C2 oC2 D2 m₂ h2 tk2 E2 hv2 ⟨b0, b1⟩ hNs2 hm2 F₅ N₅ off5 ⟨ne1, ne2, ne3⟩
    obtain ⟨e, te, rfl, he, hst2⟩ : ∃ e te, vv2 = .int e te ∧ (0 ≤ e ∧ e ≤ 2) ∧ [u0, u1, u2].take (j + 1) = [u0, u1, u2].take j ++ [e] := by
      rcases j with _ | _ | _ | j
      · exact ⟨u0, v0, (Option.some.inj hv2).symm, hpow.1, rfl⟩
      · exact ⟨u1, v1, (Option.some.inj hv2).symm, hpow.2.1, rfl⟩
      · exact ⟨u2, v2, (Option.some.inj hv2).symm, hpow.2.2, rfl⟩
      · cases hv2
    clear N28 F18
    k_steps
    rename Fr _ _ _ _ => FR6
    rename News _ _ _ _ => NR6
    refine LCg.CompEnd.intro FR6 NR6 nx ?_ off5 ?_ ⟨b0, ?_⟩
    · exact fun p hp => hp
    · exact b0 _ mT
    · rw [hst2, List.map_append]
      exact IntsAre.append b1 (.cons _ _ .nil)
  · rintro g2 zs nx ⟨b0, b1⟩ D2 h2 tk2 F₅ N₅ off2
    obtain ⟨tx, ty, tz, rfl⟩ := three_ints b1
    have N30 := news_more (.tail _ (.tail _ (b0 _ mR))) (news_more (.tail _ (b0 _ (mTl _ gD))) N₅)
    have N31 : News _ _ _ ((_, listOf [Value.int a ta, .int b tb, .int c tc].toArray 0) :: (D, listOf [Value.int c0 t0, .int c1 t1, .int c2 t2, .int c3 t3, .int c4 t4, .int c5 t5].toArray 6) :: (D2, listOf [Value.int (4096 ^ u0.toNat) tx, .int (4096 ^ u1.toNat) ty, .int (4096 ^ u2.toNat) tz].toArray 3) :: nx) := N30
    clear N28 F18 N₅ N30
    have hx9 := pow_le hpow.1
    have hy9 := pow_le hpow.2.1
    have hz9 := pow_le hpow.2.2
    generalize hX : (4096 : Int) ^ u0.toNat = x at N31 hx9
    generalize hY : (4096 : Int) ^ u1.toNat = y at N31 hy9
    generalize hZ : (4096 : Int) ^ u2.toNat = z at N31 hz9
    k_steps
    (refine Stop.of ?_; k_here; (try dsimp only); (with_reducible refine wpAny_execs_cons ?_); k_steps)
    rename Fr _ _ _ _ => F19
    refine fr_gen F19 ?_
    intro tt ttt htt F20
    clear F19
    have htt9 : 2 ≤ tt ∧ tt ≤ 4 := by omega
    (refine Stop.of ?_; k_here; (try dsimp only); (with_reducible refine wpAny_execs_cons ?_); k_steps)
    rename News _ _ _ _ => N32
    rename Fr _ _ _ _ => F21
    have N33 := N32
    refine Stop.of ?_
    k_here
    k_dflt (refine' alt_con _ _ _ x y z a b c _ _ _ _ _ _ _ _ _ ?ha ?hb ?hc ?hx ?hy ?hz _ _ _ _ _ _ _ _ _ _ _ _ _ _ _ _ _ _ _ _ _ ?k1 ?k2 ?k3 ?k4 ?k5 ?k6 ?k7 ?k8 ?_; (case k4 => exact N33); (case k2 => exact F21); (case ha => omega); (case hb => omega); (case hc => omega); (case hx => omega); (case hy => omega); (case hz => omega); (case k1 => k_asm); (case k3 => k_asm); (case k5 => k_asm); (case k6 => exact rfl); (case k7 => ktr_room); (case k8 => ktr_units); k_whole)
    rintro _ new9 h9 tk9 F22 N34 ⟨tA, rfl⟩
    have N35 := news_drop N34
    clear N32 N33 N34 F21
    have hbA := altR_bits (x := x) (y := y) (z := z) (a := a) (b := b) (c := c) (by omega) (by omega) (by omega) (by omega) (by omega) (by omega)
    have hbQ := prod_bits (x := x) (y := y) (z := z) (t := tt) (by omega) (by omega) (by omega) (by omega)
    have hPR : prodR x y z tt a b c = (y + tt * x) * (z + tt * x) * (z + tt * y) * altR x y z a b c := rfl
    k_steps
    refine mul_int ?_ (hm := PyProof.Rows.mulOk_of_bits hbQ hbA (by decide))
    k_steps
    rename Fr _ _ _ _ => F23
    refine fr_gen F23 ?_
    intro pr tpr hpr F24
    clear F23
    have hpr : pr = prodR x y z tt a b c := hpr
    have hbP : PySem.Builtin.Int.intBits pr ≤ 200 + 2000 := by rw [hpr, hPR]; exact PyProof.Rows.bits_mul hbQ hbA
    (refine Stop.of ?_; k_here; (try dsimp only); (with_reducible refine wpAny_execs_cons ?_); k_steps)
    rename News _ _ _ _ => N36
    rename Fr _ _ _ _ => F25
    have N37 := news_swap N36
    refine Stop.of ?_
    k_here
    k_dflt (refine' alt_con _ _ _ x y z 0 1 2 _ _ _ _ _ _ _ _ _ (by decide) (by decide) (by decide) ?hx ?hy ?hz _ _ _ _ _ _ _ _ _ _ _ _ _ _ _ _ _ _ _ _ _ ?k1 ?k2 ?k3 ?k4 ?k5 ?k6 ?k7 ?k8 ?_; (case k4 => exact N37); (case k2 => exact F25); (case hx => omega); (case hy => omega); (case hz => omega); (case k1 => k_asm); (case k3 => k_asm); (case k5 => k_asm); (case k6 => exact rfl); (case k7 => ktr_room); (case k8 => ktr_units); k_whole)
    rintro _ new10 h10 tk10 F26 N38 ⟨tB, rfl⟩
    have N39 := news_drop N38
    clear N36 N37 N38 F25
    k_steps
    have hb0 := altR_bits (x := x) (y := y) (z := z) (a := 0) (b := 1) (c := 2) (by omega) (by omega) (by omega) (by decide) (by decide) (by decide)
    obtain ⟨ea, eb, ec, hlo, hmi, hti, h46⟩ := hHid.of
    have hlaw := law_ok c0 c1 c2 c3 c4 ea eb ec hlo hmi hti h46 hpu
    have hlaw := law_at hX hY hZ htt hxs hts hlaw
    obtain ⟨hL1, hL2, hL3, hL4⟩ := hlaw
    rw [← hpr] at hL2 hL3 hL4
    rename News _ _ _ _ => N40
    rename Fr _ _ _ _ => F27
    refine divmod_N F27 N40 hL1 ?_ (hp := .inl (PyProof.noPylong_of_log2 (log2_bits hb0)))
    intro h11 F28 N41
    clear N40 F27
    change News _ _ _ ((_, ({ cls := .type "tuple", data := .seq #[.int (pr.fdiv (alt0 x y z)) _, .int (pr.fmod (alt0 x y z)) _] } : Obj)) :: _) at N41
    rw [hL2] at N41
    generalize pr.fdiv (alt0 x y z) = wh at N41 hL3 hL4
    k_steps
    (refine Stop.of ?_; k_here; (try dsimp only); (with_reducible refine wpAny_execs_cons ?_); k_steps)
    rename News _ _ _ _ => N44
    rename Fr _ _ _ _ => F30
    refine Stop.of ?_
    k_here
    k_dflt (refine' ap_con _ 0 _ _ (Nat.pow_pos (by decide)) _ _ _ _ _ _ _ _ _ _ _ _ _ _ _ _ _ _ _ _ _ ?k1 ?k2 ?k3 ?k4 ?k5 ?k6 ?k7 ?k8 ?_; (case k4 => exact N44); (case k2 => exact F30); (case k1 => k_asm); (case k3 => k_asm); (case k5 => k_asm); (case k6 => exact rfl); (case k7 => ktr_room); (case k8 => ktr_units); k_whole)
    rintro _ new12 h12 tk12 F31 N45 ⟨tc9, rfl⟩
    have N46 := news_drop N45
    clear N44 N45 F30
    rw [ap_zero]
    iterate 3 (first | walk1 | (dsimp only; walk1))
    refine if_yes rfl ?_
    have hq5 : 0 ≤ ([c0, c1, c2, c3, c4, c5].getD (Int.toNat 5) 0) ∧ ([c0, c1, c2, c3, c4, c5].getD (Int.toNat 5) 0) ≤ 3000 := hc5
    have hbW : PySem.Builtin.Int.intBits wh ≤ 2800 := intBits_le_iff.mpr (Nat.lt_of_lt_of_eq hL3 (by rw [show (16 : Nat) = 2 ^ 4 from rfl, ← Nat.pow_mul]))
    have hbM : PySem.Builtin.Int.intBits ((-1 : Int) ^ c5.toNat) ≤ 4000 := Nat.le_trans (intBits_pow_le (m := 1) (by decide) _) (by omega)
    k_steps
    change wpAny _ _ (binaryOp _ (Value.int wh _) (Value.int ((-1) ^ c5.toNat) _)) _ _ _
    refine mul_int ?_ (hm := PyProof.Rows.mulOk_of_bits hbW hbM (by decide))
    k_steps
    rename News _ _ _ _ => N47
    rename Fr _ _ _ _ => F32
    have habs : (wh * (-1 : Int) ^ c5.toNat).natAbs = wh.natAbs := sign_abs wh c5.toNat
    refine Stop.of ?_
    k_here
    k_dflt (refine' ap_con _ (wh * (-1 : Int) ^ c5.toNat) _ _ (by rw [habs]; exact hL3) _ _ _ _ _ _ _ _ _ _ _ _ _ _ _ _ _ _ _ _ _ ?k1 ?k2 ?k3 ?k4 ?k5 ?k6 ?k7 ?k8 ?_; (case k4 => exact N47); (case k2 => exact F32); (case k1 => k_asm); (case k3 => k_asm); (case k5 => k_asm); (case k6 => exact rfl); (case k7 => ktr_room); (case k8 => ktr_units); k_whole)
    rintro _ new13 h13 tk13 F33 N48 ⟨tc10, rfl⟩
    have N49 := news_drop N48
    clear N47 N48 F32
    rw [habs, hL4]
    iterate 2 (first | walk1 | (dsimp only; walk1))
    rw [beq_self_eq_true]
    have z9 := b0 _ z8
    have N50 := news_more (q := ((147 : Addr), tabObj #[])) (by repeat (first | exact z9 | apply List.Mem.tail)) N49
    refine hQk _ _ ?_
    try dsimp only
    refine And.intro ?_ (And.intro (GrownAt.of N50 (.head _)) True.intro)
    exact goodW_bool F33 hG0 (fun cls => end_none _ cls) (end_post _))⟩
end Mine
end

theorem PySem.Challenge.cw_kl0305_01_holds : PySem.Challenge.rw_kl0305_01.Holds :=
  Mine.law_holds
