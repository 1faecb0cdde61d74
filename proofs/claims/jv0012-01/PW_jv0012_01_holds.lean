import PyProof.Rows.All
import Wide.All
import OpenK.AllK
import Wide.FinOn
import Lean
import PySem.Challenge.RW_jv0012_01
set_option Elab.async false
set_option maxRecDepth 100000
set_option linter.all false
set_option linter.unusedVariables false
set_option compiler.extract_closed false
set_option genSizeOfSpec false
set_option genInjectivity false
set_option genSizeOf false
section
open PySem PySem.W PyProof.Rows
set_option maxHeartbeats 8000000
namespace Mine
open_top hd for PySem.Challenge.rw_jv0012_01
end Mine
end
section
namespace Mine
open PySem PySem.W PySem.Spec PySem.Calls PyProof.Rows

abbrev PG : Program := PySem.Challenge.rw_jv0012_01.row.prog

def Cx (w : World) (d u : Nat) (A : Around) (h : Heap) (own : List (Addr × Obj)) : Prop :=
  ∃ (dp un : Nat) (gd : Option (List Code)) (cn : PySem.Str) (cs : Scope) (a : Addr) (ccd : Value) (cl : List (PySem.Str × Addr)) (outer : List Env) (A₀ : Around) (base h₀ : Heap) (L : Addr) (m : PySem.Str → Option Value)
    (p : Program) (loose : List PySem.Str) (mean : ExcName → Option Value) (mg mb : PySem.Str → Option Value),
    A = ktrTop dp un gd cn cs L a ccd cl outer ∧ Below A₀ base outer h₀ ∧ Fr h₀ L h m ∧ (hd.heap_39 w.params).In h₀ ∧ Top p loose mean mg mb h₀ ∧ cs.kind = .function ∧ dp + d ≤ 900 ∧ un + u ≤ 9000 ∧ News h₀ L h own

theorem Fr.stay {h₀ h h' : Heap} {L : Addr} {m : PySem.Str → Option Value} (F : Fr h₀ L h m) (k : h.StaysIn h') : Fr h₀ L h' m := by
  obtain ⟨⟨oL, es, ep, hL, hr⟩, kp, ab⟩ := F
  exact ⟨⟨oL, es, ep, k _ _ hL, hr⟩, fun b o e => k _ _ (kp _ _ e), ab⟩
theorem News.stay {h₀ h h' : Heap} {L : Addr} {news : List (Addr × Obj)} (N : News h₀ L h news) (k : h.StaysIn h') : News h₀ L h' news :=
  fun p hp => ⟨k _ _ (N p hp).1, (N p hp).2⟩
theorem StaysIn.refl {h : Heap} : h.StaysIn h := fun _ _ e => e
theorem StaysIn.trans {a b c : Heap} (x : a.StaysIn b) (y : b.StaysIn c) : a.StaysIn c := fun _ _ e => y _ _ (x _ _ e)

theorem Cx.of {w : World} {d u : Nat} {h : Heap} {dp un : Nat} {gd : Option (List Code)} {cn : PySem.Str} {cs : Scope} {a : Addr} {ccd : Value} {cl : List (PySem.Str × Addr)} {outer : List Env} {A₀ : Around} {base h₀ : Heap} {L : Addr} {m : PySem.Str → Option Value}
    {p : Program} {loose : List PySem.Str} {mean : ExcName → Option Value} {mg mb : PySem.Str → Option Value} {own news : List (Addr × Obj)}
    (B : Below A₀ base outer h₀) (F : Fr h₀ L h m) (X : (hd.heap_39 w.params).In h₀) (T : Top p loose mean mg mb h₀) (hk : cs.kind = .function) (hd : dp + d ≤ 900) (hu : un + u ≤ 9000) (N : News h₀ L h news) (hs : ∀ q ∈ own, q ∈ news) :
    Cx w d u (ktrTop dp un gd cn cs L a ccd cl outer) h own :=
  ⟨dp, un, gd, cn, cs, a, ccd, cl, outer, A₀, base, h₀, L, m, p, loose, mean, mg, mb, rfl, B, F, X, T, hk, hd, hu, fun q hq => N q (hs q hq)⟩

theorem enter {w : World} {d u : Nat} {A : Around} {s : Shared} {own : List (Addr × Obj)} {R : Result → Shared → Prop} {name qual : PySem.Str} {params : Arguments} {body : List Stmt} {scope : Scope} {dV kV doc pm cdv ct oc : Value} {an od : Option Addr} {osl : Array (Option Value)} {f : Addr} {args : Args} {binds : List (PySem.Str × Value)}
    (C : Cx w (d + 1) u A s.heap own)
    (ho : (hd.heap_39 w.params).lookup f = some ⟨oc, od, .func (fnOf name qual params body scope dV kV doc pm an cdv ct), osl⟩) (hcd : codeIn (hd.heap_39 w.params) cdv qual = true)
    (hbind : BindsTo s (fnOf name qual params body scope dV kV doc pm an cdv ct) args binds) (hloc : ∀ y ∈ binds, scope.names.lookup y.1 = some .local)
    (hco : scope.isCoroutine = false) (hgen : scope.isGenerator = false) (hk : scope.kind = .function)
    (hcell : ∀ x ∈ scope.names, x.2 ≠ .cell)
    (h : ∀ (dp un : Nat) (gd : Option (List Code)) (cn : PySem.Str) (cs : Scope) (a : Addr) (ccd : Value) (cl : List (PySem.Str × Addr)) (outer : List Env) (base g h₁ : Heap) (L L' : Addr)
      (p : Program) (loose : List PySem.Str) (mean : ExcName → Option Value) (mg mb : PySem.Str → Option Value),
      dp + (d + 1) ≤ 900 → un + u ≤ 9000 → Fr g L' h₁ (fun y => binds.reverse.lookup y) → News g L' h₁ own → Below (ktrTop dp un gd cn cs L a ccd cl outer) base (envX cn cs L a ccd cl :: outer) g → (hd.heap_39 w.params).In g → Top p loose mean mg mb g →
      (∀ b o, s.heap.get? b = some o → b ∉ own.map (·.1) → g.get? b = some o) → (∀ b o, g.get? b = some o → s.heap.get? b = some o) → (∀ q ∈ own, s.heap.get? q.1 = some q.2) →
      wpAny (model PG w) ((ktrTop dp un gd cn cs L a ccd cl outer).deeper (envOf qual scope L' f cdv)) (execs body (envOf qual scope L' f cdv))
        (fun fl s' => R (.ok (.ret (match fl with | .ret v => v | _ => .none))) s')
        (fun e s' => wpAny (model PG w) ((ktrTop dp un gd cn cs L a ccd cl outer).deeper (envOf qual scope L' f cdv)) (leaving (envOf qual scope L' f cdv) e) (fun _ s'' => R (.error e) s'') (fun e' s'' => R (.error e') s'') s')
        { s with heap := h₁, toks := s.toks + binds.length }) : codeAny (model PG w) A (.call (.ref f) args) R s := by
  obtain ⟨dp, un, gd, cn, cs, a, ccd, cl, outer, A₀, base, h₀, L, m, p, loose, mean, mg, mb, rfl, B, F, X₀, T, hke, hd, hu, N⟩ := C
  obtain ⟨FG, BG, st, _⟩ := groundX (R := R) (A := ktrTop dp un gd cn cs L a ccd cl outer) (env := envX cn cs L a ccd cl) B F N rfl rfl hke
  have hroom : (ktrTop dp un gd cn cs L a ccd cl outer).depth < recursionLimit := Nat.lt_of_le_of_lt (Nat.le_trans (Nat.le_add_right _ _) hd) (by decide)
  have X := X₀.keeps F.keep
  refine codeAny_call_def (fd := fnOf name qual params body scope dV kV doc pm an cdv ct) (body := body) (binds := binds) hroom (X _ _ ho) rfl (T.nolimit.keeps F.keep) (codeRec_of X hcd) rfl hbind hcell hloc (fun h₁ hns hk₁ => ?_) hco hgen hk
  refine h dp un gd cn cs a ccd cl outer base _ h₁ L s.heap.objs.size p loose mean mg mb hd hu ⟨hns, fun b o e => hk₁ b o (of_hideAll _ e), Nat.le_of_eq (hideAll_size _ _)⟩
    (fun p hp => ⟨hk₁ _ _ (N p hp).1, Nat.ne_of_lt (Heap.lt_size (N p hp).1), hideAll_none _ (List.mem_map_of_mem hp)⟩) BG (X₀.keeps st) (T.keeps st) (fun b o e n => hideAll_get _ e n) (fun b o e => of_hideAll _ e) (fun q hq => (N q hq).1)
theorem pj2 {a0 a1 a2 : Prop} (h : a0 ∧ a1 ∧ a2) : a1 := h.2.1
theorem pj3 {a0 a1 a2 a3 : Prop} (h : a0 ∧ a1 ∧ a2 ∧ a3) : a2 := h.2.2.1
theorem pj4 {a0 a1 a2 a3 a4 : Prop} (h : a0 ∧ a1 ∧ a2 ∧ a3 ∧ a4) : a3 := h.2.2.2.1
theorem pj5 {a0 a1 a2 a3 a4 a5 : Prop} (h : a0 ∧ a1 ∧ a2 ∧ a3 ∧ a4 ∧ a5) : a4 := h.2.2.2.2.1
theorem pj6 {a0 a1 a2 a3 a4 a5 a6 : Prop} (h : a0 ∧ a1 ∧ a2 ∧ a3 ∧ a4 ∧ a5 ∧ a6) : a5 := h.2.2.2.2.2.1
theorem pj7 {a0 a1 a2 a3 a4 a5 a6 a7 : Prop} (h : a0 ∧ a1 ∧ a2 ∧ a3 ∧ a4 ∧ a5 ∧ a6 ∧ a7) : a6 := h.2.2.2.2.2.2.1
theorem pj8 {a0 a1 a2 a3 a4 a5 a6 a7 a8 : Prop} (h : a0 ∧ a1 ∧ a2 ∧ a3 ∧ a4 ∧ a5 ∧ a6 ∧ a7 ∧ a8) : a7 := h.2.2.2.2.2.2.2.1
theorem pj9 {a0 a1 a2 a3 a4 a5 a6 a7 a8 a9 : Prop} (h : a0 ∧ a1 ∧ a2 ∧ a3 ∧ a4 ∧ a5 ∧ a6 ∧ a7 ∧ a8 ∧ a9) : a8 := h.2.2.2.2.2.2.2.2.1
theorem pj10 {a0 a1 a2 a3 a4 a5 a6 a7 a8 a9 a10 : Prop} (h : a0 ∧ a1 ∧ a2 ∧ a3 ∧ a4 ∧ a5 ∧ a6 ∧ a7 ∧ a8 ∧ a9 ∧ a10) : a9 := h.2.2.2.2.2.2.2.2.2.1
theorem pj11 {a0 a1 a2 a3 a4 a5 a6 a7 a8 a9 a10 a11 : Prop} (h : a0 ∧ a1 ∧ a2 ∧ a3 ∧ a4 ∧ a5 ∧ a6 ∧ a7 ∧ a8 ∧ a9 ∧ a10 ∧ a11) : a10 := h.2.2.2.2.2.2.2.2.2.2.1
theorem pj12 {a0 a1 a2 a3 a4 a5 a6 a7 a8 a9 a10 a11 a12 : Prop} (h : a0 ∧ a1 ∧ a2 ∧ a3 ∧ a4 ∧ a5 ∧ a6 ∧ a7 ∧ a8 ∧ a9 ∧ a10 ∧ a11 ∧ a12) : a11 := h.2.2.2.2.2.2.2.2.2.2.2.1
theorem pj13 {a0 a1 a2 a3 a4 a5 a6 a7 a8 a9 a10 a11 a12 a13 : Prop} (h : a0 ∧ a1 ∧ a2 ∧ a3 ∧ a4 ∧ a5 ∧ a6 ∧ a7 ∧ a8 ∧ a9 ∧ a10 ∧ a11 ∧ a12 ∧ a13) : a12 := h.2.2.2.2.2.2.2.2.2.2.2.2.1
theorem pj14 {a0 a1 a2 a3 a4 a5 a6 a7 a8 a9 a10 a11 a12 a13 a14 : Prop} (h : a0 ∧ a1 ∧ a2 ∧ a3 ∧ a4 ∧ a5 ∧ a6 ∧ a7 ∧ a8 ∧ a9 ∧ a10 ∧ a11 ∧ a12 ∧ a13 ∧ a14) : a13 := h.2.2.2.2.2.2.2.2.2.2.2.2.2.1
theorem pj15 {a0 a1 a2 a3 a4 a5 a6 a7 a8 a9 a10 a11 a12 a13 a14 a15 : Prop} (h : a0 ∧ a1 ∧ a2 ∧ a3 ∧ a4 ∧ a5 ∧ a6 ∧ a7 ∧ a8 ∧ a9 ∧ a10 ∧ a11 ∧ a12 ∧ a13 ∧ a14 ∧ a15) : a14 := h.2.2.2.2.2.2.2.2.2.2.2.2.2.2.1
theorem pj16 {a0 a1 a2 a3 a4 a5 a6 a7 a8 a9 a10 a11 a12 a13 a14 a15 a16 : Prop} (h : a0 ∧ a1 ∧ a2 ∧ a3 ∧ a4 ∧ a5 ∧ a6 ∧ a7 ∧ a8 ∧ a9 ∧ a10 ∧ a11 ∧ a12 ∧ a13 ∧ a14 ∧ a15 ∧ a16) : a15 := h.2.2.2.2.2.2.2.2.2.2.2.2.2.2.2.1
theorem pj17 {a0 a1 a2 a3 a4 a5 a6 a7 a8 a9 a10 a11 a12 a13 a14 a15 a16 a17 : Prop} (h : a0 ∧ a1 ∧ a2 ∧ a3 ∧ a4 ∧ a5 ∧ a6 ∧ a7 ∧ a8 ∧ a9 ∧ a10 ∧ a11 ∧ a12 ∧ a13 ∧ a14 ∧ a15 ∧ a16 ∧ a17) : a16 := h.2.2.2.2.2.2.2.2.2.2.2.2.2.2.2.2.1
theorem pj18 {a0 a1 a2 a3 a4 a5 a6 a7 a8 a9 a10 a11 a12 a13 a14 a15 a16 a17 a18 : Prop} (h : a0 ∧ a1 ∧ a2 ∧ a3 ∧ a4 ∧ a5 ∧ a6 ∧ a7 ∧ a8 ∧ a9 ∧ a10 ∧ a11 ∧ a12 ∧ a13 ∧ a14 ∧ a15 ∧ a16 ∧ a17 ∧ a18) : a17 := h.2.2.2.2.2.2.2.2.2.2.2.2.2.2.2.2.2.1
theorem pj19 {a0 a1 a2 a3 a4 a5 a6 a7 a8 a9 a10 a11 a12 a13 a14 a15 a16 a17 a18 a19 : Prop} (h : a0 ∧ a1 ∧ a2 ∧ a3 ∧ a4 ∧ a5 ∧ a6 ∧ a7 ∧ a8 ∧ a9 ∧ a10 ∧ a11 ∧ a12 ∧ a13 ∧ a14 ∧ a15 ∧ a16 ∧ a17 ∧ a18 ∧ a19) : a18 := h.2.2.2.2.2.2.2.2.2.2.2.2.2.2.2.2.2.2.1
theorem pj20 {a0 a1 a2 a3 a4 a5 a6 a7 a8 a9 a10 a11 a12 a13 a14 a15 a16 a17 a18 a19 a20 : Prop} (h : a0 ∧ a1 ∧ a2 ∧ a3 ∧ a4 ∧ a5 ∧ a6 ∧ a7 ∧ a8 ∧ a9 ∧ a10 ∧ a11 ∧ a12 ∧ a13 ∧ a14 ∧ a15 ∧ a16 ∧ a17 ∧ a18 ∧ a19 ∧ a20) : a19 := h.2.2.2.2.2.2.2.2.2.2.2.2.2.2.2.2.2.2.2.1
theorem pj21 {a0 a1 a2 a3 a4 a5 a6 a7 a8 a9 a10 a11 a12 a13 a14 a15 a16 a17 a18 a19 a20 a21 : Prop} (h : a0 ∧ a1 ∧ a2 ∧ a3 ∧ a4 ∧ a5 ∧ a6 ∧ a7 ∧ a8 ∧ a9 ∧ a10 ∧ a11 ∧ a12 ∧ a13 ∧ a14 ∧ a15 ∧ a16 ∧ a17 ∧ a18 ∧ a19 ∧ a20 ∧ a21) : a20 := h.2.2.2.2.2.2.2.2.2.2.2.2.2.2.2.2.2.2.2.2.1
theorem pj22 {a0 a1 a2 a3 a4 a5 a6 a7 a8 a9 a10 a11 a12 a13 a14 a15 a16 a17 a18 a19 a20 a21 a22 : Prop} (h : a0 ∧ a1 ∧ a2 ∧ a3 ∧ a4 ∧ a5 ∧ a6 ∧ a7 ∧ a8 ∧ a9 ∧ a10 ∧ a11 ∧ a12 ∧ a13 ∧ a14 ∧ a15 ∧ a16 ∧ a17 ∧ a18 ∧ a19 ∧ a20 ∧ a21 ∧ a22) : a21 := h.2.2.2.2.2.2.2.2.2.2.2.2.2.2.2.2.2.2.2.2.2.1
theorem pj23 {a0 a1 a2 a3 a4 a5 a6 a7 a8 a9 a10 a11 a12 a13 a14 a15 a16 a17 a18 a19 a20 a21 a22 a23 : Prop} (h : a0 ∧ a1 ∧ a2 ∧ a3 ∧ a4 ∧ a5 ∧ a6 ∧ a7 ∧ a8 ∧ a9 ∧ a10 ∧ a11 ∧ a12 ∧ a13 ∧ a14 ∧ a15 ∧ a16 ∧ a17 ∧ a18 ∧ a19 ∧ a20 ∧ a21 ∧ a22 ∧ a23) : a22 := h.2.2.2.2.2.2.2.2.2.2.2.2.2.2.2.2.2.2.2.2.2.2.1
theorem pj24 {a0 a1 a2 a3 a4 a5 a6 a7 a8 a9 a10 a11 a12 a13 a14 a15 a16 a17 a18 a19 a20 a21 a22 a23 a24 : Prop} (h : a0 ∧ a1 ∧ a2 ∧ a3 ∧ a4 ∧ a5 ∧ a6 ∧ a7 ∧ a8 ∧ a9 ∧ a10 ∧ a11 ∧ a12 ∧ a13 ∧ a14 ∧ a15 ∧ a16 ∧ a17 ∧ a18 ∧ a19 ∧ a20 ∧ a21 ∧ a22 ∧ a23 ∧ a24) : a23 := h.2.2.2.2.2.2.2.2.2.2.2.2.2.2.2.2.2.2.2.2.2.2.2.1
theorem pj25 {a0 a1 a2 a3 a4 a5 a6 a7 a8 a9 a10 a11 a12 a13 a14 a15 a16 a17 a18 a19 a20 a21 a22 a23 a24 a25 : Prop} (h : a0 ∧ a1 ∧ a2 ∧ a3 ∧ a4 ∧ a5 ∧ a6 ∧ a7 ∧ a8 ∧ a9 ∧ a10 ∧ a11 ∧ a12 ∧ a13 ∧ a14 ∧ a15 ∧ a16 ∧ a17 ∧ a18 ∧ a19 ∧ a20 ∧ a21 ∧ a22 ∧ a23 ∧ a24 ∧ a25) : a24 := h.2.2.2.2.2.2.2.2.2.2.2.2.2.2.2.2.2.2.2.2.2.2.2.2.1
theorem pj26 {a0 a1 a2 a3 a4 a5 a6 a7 a8 a9 a10 a11 a12 a13 a14 a15 a16 a17 a18 a19 a20 a21 a22 a23 a24 a25 a26 : Prop} (h : a0 ∧ a1 ∧ a2 ∧ a3 ∧ a4 ∧ a5 ∧ a6 ∧ a7 ∧ a8 ∧ a9 ∧ a10 ∧ a11 ∧ a12 ∧ a13 ∧ a14 ∧ a15 ∧ a16 ∧ a17 ∧ a18 ∧ a19 ∧ a20 ∧ a21 ∧ a22 ∧ a23 ∧ a24 ∧ a25 ∧ a26) : a25 := h.2.2.2.2.2.2.2.2.2.2.2.2.2.2.2.2.2.2.2.2.2.2.2.2.2.1
theorem room0 {a b c k : Nat} (h : a + b ≤ k) (e : c ≤ b) : a + c ≤ k := Nat.le_trans (Nat.add_le_add_left e a) h
theorem room1 {a b c j k : Nat} (h : a + b ≤ k) (e : j + c ≤ b) : a + j + c ≤ k := Nat.add_assoc a j c ▸ Nat.le_trans (Nat.add_le_add_left e a) h
theorem roomU {a b c k k' : Nat} (h : a + b ≤ k) (e : c ≤ b ∧ k ≤ k') : a + c ≤ k' := Nat.le_trans (Nat.le_trans (Nat.add_le_add_left e.1 a) h) e.2
theorem leN {a b c : Nat} (h : a ≤ b) (e : b ≤ c) : a ≤ c := Nat.le_trans h e
theorem eqN {a b c : Nat} (h : a = b) (e : b ≤ c) : a ≤ c := h ▸ e
theorem leN3 {a b c d k : Nat} (h1 : a ≤ b) (h2 : b < c) (h3 : c ≤ d) (e : d ≤ k) : a ≤ k := Nat.le_trans h1 (Nat.le_trans (Nat.le_of_lt h2) (Nat.le_trans h3 e))
theorem lt1 {a : Nat} : a < a + 1 := Nat.lt_succ_self a
theorem lt2 {a : Nat} : a < a + 1 + 1 := Nat.lt_succ_of_lt (Nat.lt_succ_self a)
theorem lt3 {a : Nat} : a < a + 1 + 1 + 1 := Nat.lt_succ_of_lt lt2
theorem lt4 {a : Nat} : a < a + 1 + 1 + 1 + 1 := Nat.lt_succ_of_lt lt3
theorem up1 {a b : Nat} (h : a < b) : a < b + 1 := Nat.lt_succ_of_lt h
theorem up2 {a b : Nat} (h : a < b) : a < b + 1 + 1 := up1 (up1 h)
theorem up3 {a b : Nat} (h : a < b) : a < b + 1 + 1 + 1 := up1 (up2 h)
theorem up4 {a b : Nat} (h : a < b) : a < b + 1 + 1 + 1 + 1 := up1 (up3 h)
theorem leI {a b c : Int} (h : a ≤ b) (e : b ≤ c) : a ≤ c := Int.le_trans h e
theorem ltI {a b c : Int} (h : a < b) (e : b ≤ c) : a < c := Int.lt_of_lt_of_le h e
theorem geI {a b c : Int} (h : b ≤ a) (e : c ≤ b) : c ≤ a := Int.le_trans e h
theorem addgeI {k v b c : Int} (h : b ≤ v) (e : c ≤ k + b) : c ≤ k + v := Int.le_trans e (Int.add_le_add_left h k)
theorem addltI {k v b c : Int} (h : v < b) (e : k + b ≤ c) : k + v < c := Int.lt_of_lt_of_le (Int.add_lt_add_left h k) e
theorem addleI {k v b c : Int} (h : v < b) (e : k + b ≤ c + 1) : k + v ≤ c := Int.le_of_lt_add_one (addltI h e)
theorem pgeI {a k b c : Int} (h : b ≤ a) (e : c ≤ b + k) : c ≤ a + k := Int.le_trans e (Int.add_le_add_right h k)
theorem pge2I {a k j b c : Int} (h : b ≤ a) (e : c ≤ b + k + j) : c ≤ a + k + j := Int.le_trans e (Int.add_le_add_right (Int.add_le_add_right h k) j)
theorem pleI {a k b c : Int} (h : a ≤ b) (e : b + k ≤ c) : a + k ≤ c := Int.le_trans (Int.add_le_add_right h k) e
theorem self2I {a k j m : Int} (e : k + j ≤ m) : a + k + j ≤ a + m := by rw [Int.add_assoc]; exact Int.add_le_add_left e a
theorem self1I {a k m : Int} (e : k ≤ m) : a + k ≤ a + m := Int.add_le_add_left e a
theorem self0I {a m : Int} (e : 0 ≤ m) : a ≤ a + m := Int.le_add_of_nonneg_right e
theorem ge2I {a a1 k b c : Int} (h : a1 + k ≤ a) (h1 : b ≤ a1) (e : c ≤ b + k) : c ≤ a := Int.le_trans (pgeI h1 e) h
theorem ge2pI {a a1 k j b c : Int} (h : a1 + k ≤ a) (h1 : b ≤ a1) (e : c ≤ b + k + j) : c ≤ a + j := Int.le_trans (pge2I h1 e) (Int.add_le_add_right h j)
theorem tnA {k v b : Int} {N : Nat} (h : v < b) (e : k + b ≤ (N : Int) + 1) : (k + v - 0).toNat ≤ N := by
  rw [Int.sub_zero]
  exact Int.toNat_le.mpr (Int.le_of_lt_add_one (addltI h e))
theorem tnB {v b : Int} {N : Nat} (h : v < b) (e : b ≤ (N : Int) + 1) : (v - 0).toNat ≤ N := by
  rw [Int.sub_zero]
  exact Int.toNat_le.mpr (Int.le_of_lt_add_one (ltI h e))
theorem lenA {n : Nat} {k v b : Int} {N : Nat} (hl : n = (k + v - 0).toNat) (h : v < b) (e : k + b ≤ (N : Int) + 1) : n ≤ N := hl ▸ tnA h e
theorem lenB {n : Nat} {v b : Int} {N : Nat} (hl : n = (v - 0).toNat) (h : v < b) (e : b ≤ (N : Int) + 1) : n ≤ N := hl ▸ tnB h e
theorem sizeB {m n : Nat} {v b : Int} {N : Nat} (hm : m = n) (hl : n = (v - 0).toNat) (h : v < b) (e : b ≤ (N : Int) + 1) : m ≤ N := hm ▸ lenB hl h e
theorem lenP {n : Nat} {k v b : Int} (hl : n = (k + v - 0).toNat) (h : b ≤ v) (e : 0 < k + b) : 0 < n := by
  rw [hl, Int.sub_zero]
  exact Int.lt_toNat.mpr (Int.lt_of_lt_of_le e (Int.add_le_add_left h k))
theorem bdA {lo c k v b M : Int} (h : v < b) (e : 0 ≤ c ∧ k + b ≤ ((k + b - 1).toNat : Int) + 1 ∧ lo + c * (k + b - 1).toNat ≤ M) : lo + c * ((k + v - 0).toNat : Int) ≤ M :=
  Int.le_trans (Int.add_le_add_left (Int.mul_le_mul_of_nonneg_left (Int.ofNat_le.mpr (tnA h e.2.1)) e.1) lo) e.2.2
theorem bdB {a j c v b A M : Int} (h : v < b) (ha : a ≤ A) (e : 0 ≤ c ∧ b ≤ ((b - 1).toNat : Int) + 1 ∧ A + j + c * (b - 1).toNat ≤ M) : a + j + c * ((v - 0).toNat : Int) ≤ M :=
  Int.le_trans (Int.add_le_add (Int.add_le_add_right ha j) (Int.mul_le_mul_of_nonneg_left (Int.ofNat_le.mpr (tnB h e.2.1)) e.1)) e.2.2
theorem bdC {a lo c k v b M : Int} (ha : a ≤ lo + c * ((k + v - 0).toNat : Int)) (h : v < b) (e : 0 ≤ c ∧ k + b ≤ ((k + b - 1).toNat : Int) + 1 ∧ lo + c * (k + b - 1).toNat ≤ M) : a ≤ M := Int.le_trans ha (bdA h e)
theorem bdD {a lo c k v b j c' k' v' b' M : Int} (ha : a ≤ lo + c * ((k + v - 0).toNat : Int)) (h : v < b) (h' : v' < b') (e : 0 ≤ c ∧ k + b ≤ ((k + b - 1).toNat : Int) + 1) (e' : 0 ≤ c' ∧ k' + b' ≤ ((k' + b' - 1).toNat : Int) + 1 ∧ lo + c * (k + b - 1).toNat + j + c' * (k' + b' - 1).toNat ≤ M) :
    a + j + c' * ((k' + v' - 0).toNat : Int) ≤ M :=
  Int.le_trans (Int.add_le_add_right (Int.add_le_add_right (bdC ha h ⟨e.1, e.2, Int.le_refl _⟩) j) _) (bdA h' e')
theorem bdE {x a lo c k v b j c' k' v' b' M : Int} (hx : x ≤ a + j + c' * ((k' + v' - 0).toNat : Int)) (ha : a ≤ lo + c * ((k + v - 0).toNat : Int)) (h : v < b) (h' : v' < b') (e : 0 ≤ c ∧ k + b ≤ ((k + b - 1).toNat : Int) + 1) (e' : 0 ≤ c' ∧ k' + b' ≤ ((k' + b' - 1).toNat : Int) + 1 ∧ lo + c * (k + b - 1).toNat + j + c' * (k' + b' - 1).toNat ≤ M) : x ≤ M :=
  Int.le_trans hx (bdD ha h h' e e')
theorem bdF {x a lo c k v b j c' k' v' b' M i : Int} (hx : x ≤ a + j + c' * ((k' + v' - 0).toNat : Int)) (ha : a ≤ lo + c * ((k + v - 0).toNat : Int)) (h : v < b) (h' : v' < b') (e : 0 ≤ c ∧ k + b ≤ ((k + b - 1).toNat : Int) + 1) (e' : 0 ≤ c' ∧ k' + b' ≤ ((k' + b' - 1).toNat : Int) + 1 ∧ lo + c * (k + b - 1).toNat + j + c' * (k' + b' - 1).toNat ≤ M - i) : x + i ≤ M :=
  Int.add_le_of_le_sub_right (bdE hx ha h h' e e')
theorem ordS {n : Nat} (h : 186 < n) : 186 < n + 1 ∧ 186 < n + 1 + 1 ∧ 186 < n + 1 + 1 + 1 ∧ 186 < n + 1 + 1 + 1 + 1 ∧ n + 1 < n + 1 + 1 ∧ n + 1 < n + 1 + 1 + 1 ∧ n + 1 < n + 1 + 1 + 1 + 1 ∧ n + 1 + 1 < n + 1 + 1 + 1 ∧ n + 1 + 1 < n + 1 + 1 + 1 + 1 ∧ n + 1 + 1 + 1 < n + 1 + 1 + 1 + 1 ∧ True :=
  ⟨up1 h, up2 h, up3 h, up4 h, lt1, lt2, lt3, lt1, lt2, lt1, True.intro⟩
theorem natPos {n : Nat} (h : 0 < n) : (0 : Int) < (n : Int) := Int.ofNat_lt.mpr h
theorem posNat {n : Nat} (h : (0 : Int) < (n : Int)) : 0 < n := Int.ofNat_lt.mp h
theorem natLe {n k : Nat} {c : Int} (h : n ≤ k) (e : (k : Int) ≤ c) : (n : Int) ≤ c := Int.le_trans (Int.ofNat_le.mpr h) e
theorem szlit {n : Nat} (h : Nat.ble n 16777216 = true) : n ≤ sizeLine := by rw [sizeLine_eq]; exact Nat.le_of_ble_eq_true h
theorem eq0 {n : Nat} (h : ¬ (0 : Int) < (n : Int)) : n = 0 := Nat.eq_zero_of_not_pos (fun q => h (natPos q))
theorem subM {a b c : Nat} (h : a + b ≤ c) : b ≤ c := Nat.le_trans (Nat.le_add_left _ _) h
theorem g1 {a c k N M : Nat} (h : a ≤ c ∧ c ≤ a + k) (ha : a ≤ N) (e : N + k ≤ M) : c ≤ M := Nat.le_trans h.2 (Nat.le_trans (Nat.add_le_add_right ha k) e)
theorem g2 {a b c k j N M : Nat} (h : b ≤ c ∧ c ≤ b + k) (h' : a ≤ b ∧ b ≤ a + j) (ha : a ≤ N) (e : N + j + k ≤ M) : c ≤ M := g1 h (g1 h' ha (Nat.le_refl _)) e
theorem g3 {a b c d k j i N M : Nat} (h : c ≤ d ∧ d ≤ c + k) (h' : b ≤ c ∧ c ≤ b + j) (h'' : a ≤ b ∧ b ≤ a + i) (ha : a ≤ N) (e : N + i + j + k ≤ M) : d ≤ M := g1 h (g2 h' h'' ha (Nat.le_refl _)) e
theorem g4 {a b c d f k j i l N M : Nat} (h : d ≤ f ∧ f ≤ d + l) (h1 : c ≤ d ∧ d ≤ c + k) (h' : b ≤ c ∧ c ≤ b + j) (h'' : a ≤ b ∧ b ≤ a + i) (ha : a ≤ N) (e : N + i + j + k + l ≤ M) : f ≤ M := g1 h (g3 h1 h' h'' ha (Nat.le_refl _)) e
theorem q1 {a c k N M : Nat} (h : c = a + k) (ha : a ≤ N) (e : N + k ≤ M) : c ≤ M := h ▸ Nat.le_trans (Nat.add_le_add_right ha k) e
theorem q2 {a b c k j N M : Nat} (h : c = b + k) (h' : b = a + j) (ha : a ≤ N) (e : N + j + k ≤ M) : c ≤ M := q1 h (q1 h' ha (Nat.le_refl _)) e
theorem q3 {a b c d k j i N M : Nat} (h : d = c + k) (h' : c = b + j) (h'' : b = a + i) (ha : a ≤ N) (e : N + i + j + k ≤ M) : d ≤ M := q1 h (q2 h' h'' ha (Nat.le_refl _)) e
theorem q4 {a b c d f k j i l N M : Nat} (h : f = d + l) (h1 : d = c + k) (h' : c = b + j) (h'' : b = a + i) (ha : a ≤ N) (e : N + i + j + k + l ≤ M) : f ≤ M := q1 h (q3 h1 h' h'' ha (Nat.le_refl _)) e
theorem w1 {a k x M : Nat} (ha : a ≤ x) (e : x + k ≤ M) : a + k ≤ M := Nat.le_trans (Nat.add_le_add_right ha k) e
theorem w1e {a k x M : Nat} (ha : a = x) (e : x + k ≤ M) : a + k ≤ M := ha ▸ e
theorem w2 {a k b x y M : Nat} (ha : a ≤ x) (hb : b ≤ y) (e : x + k + y ≤ M) : a + k + b ≤ M := Nat.le_trans (Nat.add_le_add (Nat.add_le_add_right ha k) hb) e
theorem w2e {a k b x y M : Nat} (ha : a = x) (hb : b ≤ y) (e : x + k + y ≤ M) : a + k + b ≤ M := w2 (Nat.le_of_eq ha) hb e
theorem w3 {a k b c x y z M : Nat} (ha : a ≤ x) (hb : b ≤ y) (hc : c ≤ z) (e : x + k + y + z ≤ M) : a + k + b + c ≤ M := Nat.le_trans (Nat.add_le_add (Nat.add_le_add (Nat.add_le_add_right ha k) hb) hc) e
theorem w3e {a k b c x y z M : Nat} (ha : a = x) (hb : b ≤ y) (hc : c ≤ z) (e : x + k + y + z ≤ M) : a + k + b + c ≤ M := w3 (Nat.le_of_eq ha) hb hc e
theorem tq1 {a b y M : Nat} (hb : b ≤ y) (e : a + y ≤ M) : a + b ≤ M := Nat.le_trans (Nat.add_le_add_left hb a) e
theorem tq2 {a b c y z M : Nat} (hb : b ≤ y) (hc : c ≤ z) (e : a + y + z ≤ M) : a + b + c ≤ M := Nat.le_trans (Nat.add_le_add (Nat.add_le_add_left hb a) hc) e
theorem self02I {a k j : Int} (e : 0 ≤ k + j) : a ≤ a + k + j := by rw [Int.add_assoc]; exact self0I e
theorem subgeI {k v b c : Int} (h : v < b) (e : c + b ≤ k) : c ≤ k - v := Int.le_sub_right_of_add_le (Int.le_trans (Int.add_le_add_left (Int.le_of_lt h) c) e)
theorem sumE {i k N : Nat} (e : i + (k + 1) = N) : i + 1 + k = N := by rw [Nat.add_assoc, Nat.add_comm 1]; exact e
theorem sumL {i k N : Nat} (e : i + (k + 1) = N) : i < N := e ▸ Nat.lt_add_of_pos_right (Nat.succ_pos k)
theorem stepB {lo c at1 at2 : Int} {i : Nat} (h : at1 ≤ lo + c * (i : Int)) (b : at2 ≤ at1 + c) : at2 ≤ lo + c * ((i + 1 : Nat) : Int) := by
  rw [Int.natCast_add, Int.mul_add]
  show at2 ≤ lo + (c * (i : Int) + c * 1)
  rw [Int.mul_one, ← Int.add_assoc]
  exact Int.le_trans b (Int.add_le_add_right h c)
theorem mul0 {lo c : Int} : lo ≤ lo + c * ((0 : Nat) : Int) := by
  show lo ≤ lo + c * 0
  rw [Int.mul_zero, Int.add_zero]
  exact Int.le_refl _
theorem mulUp {lo c at1 M : Int} {i N : Nat} (hc : 0 ≤ c) (h : at1 ≤ lo + c * (i : Int)) (hi : i < N) (hB : lo + c * (N : Int) ≤ M) : at1 ≤ M :=
  Int.le_trans h (Int.le_trans (Int.add_le_add_left (Int.mul_le_mul_of_nonneg_left (Int.ofNat_le.mpr (Nat.le_of_lt hi)) hc) lo) hB)
theorem smLt {a b c : Nat} (h : a + b < c) (e : 0 < b) : a + 1 < c := Nat.lt_of_le_of_lt (Nat.add_le_add_left e a) h
theorem smLt0 {a b c : Nat} (h : a + b < c) : a < c := Nat.lt_of_le_of_lt (Nat.le_add_right a b) h
theorem smLt2 {a b c : Nat} (h : a + b < c) (e : 2 ≤ b) : a + 1 + 1 < c := Nat.lt_of_le_of_lt (Nat.add_le_add_left e a) h
theorem ltLe {a b c : Int} (h : a < b) (e : b ≤ c + 1) : a ≤ c := Int.le_of_lt_add_one (Int.lt_of_lt_of_le h e)
theorem dropI {a k b : Int} (h : a + k ≤ b) (e : 0 ≤ k) : a ≤ b := Int.le_trans (self0I e) h
theorem upI {x a k c m : Int} (h : x ≤ a + k + c) (e : k + c ≤ m) : x ≤ a + m := Int.le_trans h (by rw [Int.add_assoc]; exact Int.add_le_add_left e a)
theorem hbI {x a k c A M : Int} {i n : Nat} (h : x ≤ a + k + c * (i : Int)) (ha : a ≤ A) (hi : i < n) (e : 0 ≤ c ∧ A + k + c * (n : Int) ≤ M) : x ≤ M :=
  mulUp e.1 (Int.le_trans h (Int.add_le_add_right (Int.add_le_add_right ha k) _)) hi e.2
end Mine
end
local macro_rules | `(tactic| kpa_ne) => `(tactic| with_reducible first | assumption | (refine' And.left ?_; rotate_left; (iterate 28 first | done | assumption | (refine' And.right ?_; rotate_left)); done))
local macro_rules | `(tactic| k_ne) => `(tactic| (refine PySem.W.neN ?_; (try dsimp only); first | assumption | exact Nat.ne_of_lt (by kpa_ne) | exact Nat.ne_of_gt (by kpa_ne)))
section
namespace Mine
open PySem PySem.W PySem.Spec PySem.Calls PyProof.Rows
noncomputable abbrev tup2 (x y : Int) (t1 t2 : Tok) (c : Nat) : Obj := { cls := .type "tuple", data := .seq #[.int x t1, .int y t2] c }
noncomputable abbrev tup3 (x y z : Int) (t1 t2 t3 : Tok) (c : Nat) : Obj := { cls := .type "tuple", data := .seq #[.int x t1, .int y t2, .int z t3] c }
noncomputable abbrev PP : Int := 115792089237316195423570985008687907853269984665640564039457584007908834671663
noncomputable abbrev NN : Int := 115792089237316195423570985008687907852837564279074904382605163141518161494337

def Sz (n : Nat) (x : Int) : Prop := x.natAbs < 2 ^ n
theorem Sz.mono {n k : Nat} {x : Int} (h : Sz n x) (hk : n ≤ k) : Sz k x := Nat.lt_of_lt_of_le h (Nat.pow_le_pow_right (by decide) hk)
theorem Sz.mul {n k : Nat} {x y : Int} (h : Sz n x) (h' : Sz k y) : Sz (n + k) (x * y) := by
  unfold Sz at *
  rw [Int.natAbs_mul, Nat.pow_add]
  exact Nat.mul_lt_mul'' h h'
theorem Sz.add {n k : Nat} {x y : Int} (h : Sz n x) (h' : Sz k y) : Sz (n + k + 1) (x + y) := by
  unfold Sz at *
  have h1 : x.natAbs < 2 ^ (n + k) := Nat.lt_of_lt_of_le h (Nat.pow_le_pow_right (by decide) (Nat.le_add_right _ _))
  have h2 : y.natAbs < 2 ^ (n + k) := Nat.lt_of_lt_of_le h' (Nat.pow_le_pow_right (by decide) (Nat.le_add_left _ _))
  rw [Nat.pow_succ, Nat.mul_two]
  exact Nat.lt_of_le_of_lt (Int.natAbs_add_le x y) (Nat.add_lt_add h1 h2)
theorem Sz.sub {n k : Nat} {x y : Int} (h : Sz n x) (h' : Sz k y) : Sz (n + k + 1) (x - y) := by
  rw [Int.sub_eq_add_neg]
  exact Sz.add h (by unfold Sz at *; rw [Int.natAbs_neg]; exact h')
theorem Sz.pow2 {n : Nat} {x : Int} (h : Sz n x) : Sz (n + n) (x ^ 2) := by
  have e : x ^ 2 = x * x := by rw [Int.pow_succ, Int.pow_succ, Int.pow_zero, Int.one_mul]
  rw [e]; exact h.mul h
theorem Sz.pow3 {n : Nat} {x : Int} (h : Sz n x) : Sz (n + n + n) (x ^ 3) := by
  have e : x ^ 3 = x ^ 2 * x := by rw [Int.pow_succ]
  rw [e]; exact h.pow2.mul h
theorem Sz.pow4 {n : Nat} {x : Int} (h : Sz n x) : Sz (n + n + n + n) (x ^ 4) := by
  have e : x ^ 4 = x ^ 3 * x := by rw [Int.pow_succ]
  rw [e]; exact h.pow3.mul h
theorem Sz.of_lt {n : Nat} {x : Int} (h0 : 0 ≤ x) (h : x < 2 ^ n) : Sz n x := by
  unfold Sz
  have e : ((2 : Int) ^ n) = ((2 ^ n : Nat) : Int) := by rw [Int.natCast_pow]; rfl
  rw [e] at h
  exact Int.ofNat_lt.mp (by rw [Int.natAbs_of_nonneg h0]; exact h)
theorem Sz.of_le {n : Nat} {x y : Int} (h0 : 0 ≤ x) (h : x ≤ y) (hy : Sz n y) : Sz n x :=
  Nat.lt_of_le_of_lt (Int.ofNat_le.mp (by rw [Int.natAbs_of_nonneg h0, Int.natAbs_of_nonneg (Int.le_trans h0 h)]; exact h)) hy
theorem Sz.of_neg {n : Nat} {x : Int} (h : Sz n (-x)) : Sz n x := by unfold Sz at *; rw [Int.natAbs_neg] at h; exact h
theorem sz0 : Sz 1 0 := by unfold Sz; decide
theorem sz1 : Sz 1 1 := by unfold Sz; decide
theorem sz2 : Sz 2 2 := by unfold Sz; decide
theorem sz3 : Sz 2 3 := by unfold Sz; decide
theorem sz4 : Sz 3 4 := by unfold Sz; decide
theorem sz8 : Sz 4 8 := by unfold Sz; decide
theorem szP {x : Int} (h0 : 0 ≤ x) (h : x < PP) : Sz 256 x := Sz.of_lt h0 (Int.lt_trans h (by decide))
theorem szN {x : Int} (h0 : 0 ≤ x) (h : x < NN) : Sz 256 x := Sz.of_lt h0 (Int.lt_trans h (by decide))
theorem szPP : Sz 256 PP := by unfold Sz; decide
theorem szNN : Sz 256 NN := by unfold Sz; decide
theorem Sz.bits {n : Nat} {x : Int} (h : Sz n x) (hn : n ≤ 1000000) : Builtin.Int.intBits x ≤ 2 ^ 20 :=
  intBits_le_iff.mpr (Nat.lt_of_lt_of_le h (Nat.pow_le_pow_right (by decide) (Nat.le_trans hn (by decide))))
theorem mulOk {n k : Nat} {x y : Int} (h : Sz n x) (h' : Sz k y) (hn : n ≤ 1000000) (hk : k ≤ 1000000) : IntMulOk x y := IntMulOk.of_bits (h.bits hn) (h'.bits hk)

theorem Fr.named {h₀ h : Heap} {L : Addr} {m : PySem.Str → Option Value} (F : Fr h₀ L h m) (kv : List (PySem.Str × Value)) (e : ∀ p ∈ kv, m p.1 = some p.2) : Fr h₀ L h (fun y => (kv.lookup y).or (m y)) := by
  have q : (fun y => (kv.lookup y).or (m y)) = m := by
    funext y
    induction kv with
    | nil => rfl
    | cons p r ih =>
      rw [List.lookup_cons]
      by_cases hy : (y == p.1) = true
      · have hy' : y = p.1 := by simpa using hy
        rw [hy, hy']
        exact (e p (List.mem_cons_self ..)).symm
      · rw [Bool.not_eq_true] at hy
        rw [hy]
        exact ih fun p' hp' => e p' (List.mem_cons_of_mem _ hp')
  rw [q]
  exact F
theorem end_fresh {H g h' : Heap} {L' D : Addr} {o : Obj} {own news : List (Addr × Obj)} (hs : ∀ b o, H.get? b = some o → b ∉ own.map (·.1) → g.get? b = some o) (N : News g L' h' news) (hm : (D, o) ∈ news) (hne : D ∉ own.map (·.1)) : H.get? D = none := by
  cases q : H.get? D with
  | none => rfl
  | some o' =>
    have h1 := (N _ hm).2.2
    rw [hs _ _ q hne] at h1
    cases h1
theorem end_stays {H g h' : Heap} {L' : Addr} {m : PySem.Str → Option Value} {own news : List (Addr × Obj)} (hs : ∀ b o, H.get? b = some o → b ∉ own.map (·.1) → g.get? b = some o) (ho : ∀ q ∈ own, H.get? q.1 = some q.2) (F : Fr g L' h' m) (N : News g L' h' news) (hsub : ∀ q ∈ own, q ∈ news) : H.StaysIn h' := by
  intro b o e
  by_cases hb : b ∈ own.map (·.1)
  · obtain ⟨q, hq, rfl⟩ := List.mem_map.mp hb
    rw [ho q hq] at e
    cases e
    exact (N q (hsub q hq)).1
  · exact F.keep _ _ (hs _ _ e hb)
theorem News.fresh_cons {h₀ h h' : Heap} {L D : Addr} {m : PySem.Str → Option Value} {o : Obj} {news : List (Addr × Obj)} (F : Fr h₀ L h m) (N : News h₀ L h news) (st : h.StaysIn h') (hD : h'.get? D = some o) (fr : h.get? D = none) : News h₀ L h' ((D, o) :: news) := by
  intro p hp
  rcases List.mem_cons.mp hp with rfl | hp
  · refine ⟨hD, fun e => ?_, ?_⟩
    · obtain ⟨⟨oL, es, ep, hL, hr⟩, kp, ab⟩ := F
      have e' : D = L := e
      rw [e', hL] at fr
      cases fr
    · cases q : h₀.get? D with
      | none => rfl
      | some o' => rw [F.keep _ _ q] at fr; cases fr
  · exact ⟨st _ _ (N p hp).1, (N p hp).2⟩
theorem News.ne_fresh {h₀ h : Heap} {L D a : Addr} {o : Obj} {news : List (Addr × Obj)} (N : News h₀ L h news) (hm : (a, o) ∈ news) (fr : h.get? D = none) : D ≠ a := by
  intro e
  have e' := (N _ hm).1
  rw [← e, fr] at e'
  cases e'
section
variable {prog : Program} {w : World} {A : Around} {E : Value → Shared → Prop} {s : Shared} {a b : Int} {t u : Tok} {Q : Value → Shared → Prop}
theorem mulS {n k : Nat} (h : Sz n a) (h' : Sz k b) (hn : n ≤ 1000000) (hk : k ≤ 1000000) (q : ∀ t' k', Q (.int (a * b) t') { s with toks := k' }) : wpAny (model prog w) A (binaryOp .Mult (.int a t) (.int b u)) Q E s := PyProof.Rows.mul_int (q _ _) (mulOk h h' hn hk)
theorem powS {n : Nat} {k : Nat} (h : Sz n a) (hn : n ≤ 10000) (hk : k ≤ 1000) (q : Q (.int (a ^ k) s.toks) { s with toks := s.toks + 1 }) : wpAny (model prog w) A (binaryOp .Pow (.int a t) (.int (k : Int) u)) Q E s := by
  refine PyProof.Rows.pow_int (Int.natCast_nonneg _) ?_ (by rw [Int.toNat_natCast]; exact q)
  have hb : Builtin.Int.intBits a ≤ 10000 := intBits_le_iff.mpr (Nat.lt_of_lt_of_le h (Nat.pow_le_pow_right (by decide) hn))
  have : Builtin.Int.intBits a * k ≤ 10000 * 1000 := Nat.mul_le_mul hb hk
  have e : ((Builtin.Int.intBits a : Nat) : Int) * (k : Int) = ((Builtin.Int.intBits a * k : Nat) : Int) := (Int.natCast_mul _ _).symm
  rw [e]
  exact Int.le_trans (Int.ofNat_le.mpr this) (by decide)
theorem pow2S {n : Nat} (h : Sz n a) (hn : n ≤ 10000) (q : ∀ t' k', Q (.int (a ^ 2) t') { s with toks := k' }) : wpAny (model prog w) A (binaryOp .Pow (.int a t) (.int 2 u)) Q E s := powS (k := 2) h hn (by decide) (q _ _)
theorem pow3S {n : Nat} (h : Sz n a) (hn : n ≤ 10000) (q : ∀ t' k', Q (.int (a ^ 3) t') { s with toks := k' }) : wpAny (model prog w) A (binaryOp .Pow (.int a t) (.int 3 u)) Q E s := powS (k := 3) h hn (by decide) (q _ _)
theorem pow4S {n : Nat} (h : Sz n a) (hn : n ≤ 10000) (q : ∀ t' k', Q (.int (a ^ 4) t') { s with toks := k' }) : wpAny (model prog w) A (binaryOp .Pow (.int a t) (.int 4 u)) Q E s := powS (k := 4) h hn (by decide) (q _ _)
theorem fmod_emod {a b : Int} (hb : 0 < b) : a.fmod b = a % b := Int.fmod_eq_emod_of_nonneg a (Int.le_of_lt hb)
theorem modP (q : ∀ v t' k', v = a % PP → Sz 256 v → Q (.int v t') { s with toks := k' }) : wpAny (model prog w) A (binaryOp .Mod (.int a t) (.int PP u)) Q E s := by
  refine PyProof.Rows.mod_int' (by decide) ?_
  rw [fmod_emod (by decide)]
  exact q _ _ _ rfl (szP (Int.emod_nonneg _ (by decide)) (Int.emod_lt_of_pos _ (by decide)))
theorem modN (q : ∀ v t' k', v = a % NN → 0 ≤ v → v < NN → Q (.int v t') { s with toks := k' }) : wpAny (model prog w) A (binaryOp .Mod (.int a t) (.int NN u)) Q E s := by
  refine PyProof.Rows.mod_int' (by decide) ?_
  rw [fmod_emod (by decide)]
  exact q _ _ _ rfl (Int.emod_nonneg _ (by decide)) (Int.emod_lt_of_pos _ (by decide))
theorem modG (hb : 0 < b) (q : ∀ v t' k', v = a % b → 0 ≤ v → v < b → Q (.int v t') { s with toks := k' }) : wpAny (model prog w) A (binaryOp .Mod (.int a t) (.int b u)) Q E s := by
  refine PyProof.Rows.mod_int' (Int.ne_of_gt hb) ?_
  rw [fmod_emod hb]
  exact q _ _ _ rfl (Int.emod_nonneg _ (Int.ne_of_gt hb)) (Int.emod_lt_of_pos _ hb)
theorem divG {n : Nat} (hb : 0 < b) (hs : Sz n b) (hn : n ≤ 9000) (q : ∀ v t' k', v = a / b → Q (.int v t') { s with toks := k' }) : wpAny (model prog w) A (binaryOp .FloorDiv (.int a t) (.int b u)) Q E s := by
  refine PyProof.Rows.floordiv_int (Int.ne_of_gt hb) ?_ (.inl (PyProof.noPylong_of_log2 ?_))
  · rw [Int.fdiv_eq_ediv_of_nonneg a (Int.le_of_lt hb)]
    exact q _ _ _ rfl
  · exact (Nat.log2_lt (Int.natAbs_ne_zero.mpr (Int.ne_of_gt hb))).mpr (Nat.lt_of_lt_of_le hs (Nat.pow_le_pow_right (by decide) hn))
theorem addS (q : ∀ t' k', Q (.int (a + b) t') { s with toks := k' }) : wpAny (model prog w) A (binaryOp .Add (.int a t) (.int b u)) Q E s := PyProof.Rows.add_int (q _ _)
theorem subS (q : ∀ t' k', Q (.int (a - b) t') { s with toks := k' }) : wpAny (model prog w) A (binaryOp .Sub (.int a t) (.int b u)) Q E s := PyProof.Rows.sub_int (q _ _)
end
end Mine
end
section
set_option maxHeartbeats 4000000
namespace Mine
open PySem PySem.W PySem.Spec PySem.Calls PyProof.Rows
theorem off_InvI : True := by
  w_top off
  exact True.intro

noncomputable def ivLk : Nat → Int → Int → Int → Int → Int
  | 0, lm, _, _, _ => lm
  | k + 1, lm, low, hm, high => if 1 < low then ivLk k (hm - lm * (high / low)) (high - low * (high / low)) lm low else lm
noncomputable def ivL (lm low hm high : Int) : Int := ivLk low.toNat lm low hm high
noncomputable def ivF (a n : Int) : Int := if a = 0 then 0 else ivL 1 (a % n) 0 n % n
theorem nsub_Inv {news : List (Addr × Obj)} : ∀ q ∈ ([] : List (Addr × Obj)), q ∈ news := fun _ h => nomatch h
theorem ivLk_stop {lm low hm high : Int} (h : ¬ 1 < low) : ∀ k, ivLk k lm low hm high = lm
  | 0 => rfl
  | _ + 1 => if_neg h
theorem iv_less {low high : Int} (h : 1 < low) : (high - low * (high / low)).toNat < low.toNat := by
  have h0 : (0 : Int) < low := Int.lt_trans (by decide) h
  have h1 := Int.emod_lt_of_pos high h0
  rw [Int.emod_def] at h1
  exact (Int.toNat_lt_toNat h0).mpr h1
theorem ivLk_more (k : Nat) : ∀ {lm low hm high : Int} {j : Nat}, low.toNat ≤ k → low.toNat ≤ j → ivLk k lm low hm high = ivLk j lm low hm high := by
  induction k with
  | zero =>
    intro lm low hm high j h _
    have hl : ¬ 1 < low := fun q => absurd h (Nat.not_le_of_lt (Nat.lt_of_le_of_lt (Nat.zero_le _) (iv_less (high := 0) q)))
    rw [ivLk_stop hl, ivLk_stop hl]
  | succ k ih =>
    intro lm low hm high j h hj
    by_cases hl : 1 < low
    · cases j with
      | zero => exact absurd hj (Nat.not_le_of_lt (Nat.lt_of_le_of_lt (Nat.zero_le _) (iv_less (high := 0) hl)))
      | succ j => exact (if_pos hl).trans ((ih (Nat.le_of_lt_succ (Nat.lt_of_lt_of_le (iv_less hl) h)) (Nat.le_of_lt_succ (Nat.lt_of_lt_of_le (iv_less hl) hj))).trans (if_pos hl).symm)
    · rw [ivLk_stop hl, ivLk_stop hl]
theorem ivL_stop {lm low hm high : Int} (h : ¬ 1 < low) : ivL lm low hm high = lm := ivLk_stop h _
theorem ivL_turn {lm low hm high : Int} (h : 1 < low) : ivL lm low hm high = ivL (hm - lm * (high / low)) (high - low * (high / low)) lm low :=
  (ivLk_more low.toNat (Nat.le_refl _) (Nat.le_succ _)).trans ((if_pos h).trans (ivLk_more low.toNat (Nat.le_of_lt (iv_less h)) (Nat.le_refl _)))

theorem ivF_of {a n lm low hm high : Int} (ha : a ≠ 0) (hR : ivL lm low hm high = ivL 1 (a % n) 0 n) (hl : ¬ 1 < low) : ivF a n = lm % n := by
  unfold ivF
  rw [if_neg ha, ← hR, ivL_stop hl]
def IvI (lm low hm high n : Int) : Prop :=
  0 ≤ low ∧ low < high ∧ high ≤ n ∧ ((0 ≤ lm ∧ hm ≤ 0 ∧ lm * high - hm * low = n) ∨ (lm ≤ 0 ∧ 0 ≤ hm ∧ hm * low - lm * high = n))
theorem iv_pos {low high : Int} (h0 : 0 ≤ low) (h1 : low < high) : 0 < high := Int.lt_of_le_of_lt h0 h1
theorem iv_le {a b n : Int} (e : a - b = n) (h : b ≤ 0) : a ≤ n := e ▸ Int.le_sub_left_of_add_le (by rw [Int.add_comm]; exact Int.add_le_of_le_sub_left (by rw [Int.sub_self]; exact h))
theorem iv_mul {a b : Int} (h : 0 ≤ a) (hb : 0 < b) : a ≤ a * b := by
  have h5 : a * 1 ≤ a * b := Int.mul_le_mul_of_nonneg_left hb h
  rwa [Int.mul_one] at h5
theorem iv_neg {a b : Int} (h : a ≤ 0) (hb : 0 ≤ b) : a * b ≤ 0 := by
  have h6 : 0 ≤ (-a) * b := Int.mul_nonneg (Int.neg_nonneg_of_nonpos h) hb
  rw [Int.neg_mul] at h6
  exact Int.nonpos_of_neg_nonneg h6
theorem IvI.lm_sz {lm low hm high n : Int} (h : IvI lm low hm high n) (hn : Sz 256 n) : Sz 256 lm := by
  obtain ⟨h0, h1, h2, h3⟩ := h
  have hp := iv_pos h0 h1
  rcases h3 with ⟨a, b, e⟩ | ⟨a, b, e⟩
  · exact Sz.of_le a (Int.le_trans (iv_mul a hp) (iv_le e (iv_neg b h0))) hn
  · have a' := Int.neg_nonneg_of_nonpos a
    refine Sz.of_neg (Sz.of_le a' (Int.le_trans (iv_mul a' hp) (iv_le (b := -(hm * low)) ?_ (Int.neg_nonpos_of_nonneg (Int.mul_nonneg b h0)))) hn)
    rw [Int.neg_mul, Int.sub_neg, Int.add_comm, ← e]
    exact (Int.sub_eq_add_neg).symm
theorem sub_subX (a b c : Int) : a - c - (b - c) = a - b := by rw [Int.sub_sub, Int.add_comm c, Int.sub_add_cancel]
theorem iv_pos1 {x : Int} (h : 1 < x) : 0 < x := Int.lt_trans (by decide) h
theorem iv_ring1 {lm hm high low r n : Int} (e : lm * high - hm * low = n) : lm * (high - low * r) - (hm - lm * r) * low = n := by
  rw [← e, Int.mul_sub, Int.sub_mul, Int.mul_comm low r, ← Int.mul_assoc]
  exact sub_subX _ _ _
theorem iv_ring2 {lm hm high low r n : Int} (e : hm * low - lm * high = n) : (hm - lm * r) * low - lm * (high - low * r) = n := by
  rw [← e, Int.mul_sub, Int.sub_mul, Int.mul_comm low r, ← Int.mul_assoc]
  exact sub_subX _ _ _
theorem IvI.turn {lm low hm high n : Int} (h : IvI lm low hm high n) (hl : 1 < low) : IvI (hm - lm * (high / low)) (high - low * (high / low)) lm low n := by
  obtain ⟨h0, h1, h2, h3⟩ := h
  have hl0 : 0 < low := Int.lt_trans (by decide) hl
  have e1 := Int.emod_nonneg high (Int.ne_of_gt hl0)
  have e2 := Int.emod_lt_of_pos high hl0
  rw [Int.emod_def] at e1 e2
  have hr : 0 ≤ high / low := Int.ediv_nonneg (Int.le_of_lt (iv_pos h0 h1)) h0
  generalize high / low = r at *
  refine ⟨e1, e2, Int.le_trans (Int.le_of_lt h1) h2, ?_⟩
  rcases h3 with ⟨a, b, e⟩ | ⟨a, b, e⟩
  · exact .inr ⟨Int.sub_nonpos_of_le (Int.le_trans b (Int.mul_nonneg a hr)), a, iv_ring1 e⟩
  · exact .inl ⟨Int.sub_nonneg_of_le (Int.le_trans (iv_neg a hr) b), a, iv_ring2 e⟩
theorem IvI.start {a n : Int} (hn : 1 < n) (h0 : 0 ≤ a) (h1 : a < n) : IvI 1 a 0 n n := ⟨h0, h1, Int.le_refl _, .inl ⟨by decide, by decide, by rw [Int.one_mul, Int.zero_mul, Int.sub_zero]⟩⟩
theorem IvI.r_sz {lm low hm high n : Int} (h : IvI lm low hm high n) (_hl : 1 < low) (hn : Sz 256 n) : Sz 256 (high / low) := by
  obtain ⟨h0, h1, h2, _⟩ := h
  have hp := Int.le_of_lt (iv_pos h0 h1)
  exact Sz.of_le (Int.ediv_nonneg hp h0) (Int.le_trans (Int.ediv_le_self _ hp) h2) hn
theorem IvI.low_sz {lm low hm high n : Int} (h : IvI lm low hm high n) (hn : Sz 256 n) : Sz 256 low :=
  Sz.of_le h.1 (Int.le_trans (Int.le_of_lt h.2.1) h.2.2.1) hn

def ivJ (n : Int) (R : Int) (k : Nat) (m : PySem.Str → Option Value) (_ : List (Addr × Obj)) : Prop :=
  ∃ lm low hm high t1 t2 t3 t4 tn, (∀ p ∈ [(PySem.Str.ofString "lm", Value.int lm t1), (PySem.Str.ofString "low", Value.int low t2), (PySem.Str.ofString "hm", Value.int hm t3), (PySem.Str.ofString "high", Value.int high t4), (PySem.Str.ofString "n", Value.int n tn)], m p.1 = some p.2) ∧
    IvI lm low hm high n ∧ k = low.toNat ∧ ivL lm low hm high = R
theorem named5 {m : PySem.Str → Option Value} {a b c d e : PySem.Str × Value} (h1 : m a.1 = some a.2) (h2 : m b.1 = some b.2) (h3 : m c.1 = some c.2) (h4 : m d.1 = some d.2) (h5 : m e.1 = some e.2) : ∀ p ∈ [a, b, c, d, e], m p.1 = some p.2 := by
  intro p hp
  simp only [List.mem_cons, List.not_mem_nil, or_false] at hp
  rcases hp with rfl | rfl | rfl | rfl | rfl <;> assumption
def IvEnd (h₀ : Heap) (L : Addr) (s : Shared) (n R : Int) (k : Nat) : Flow → Shared → Prop := WhileStep h₀ L s (ivJ n R) k
theorem inv_loop {prog : Program} {w : World} {A : Around} {E : Value → Shared → Prop} {Q : Flow → Shared → Prop} {s : Shared} {env : Env} {h₀ : Heap} {L : Addr} {test : PySem.Expr} {body : List Stmt} {pos : Pos} {m : PySem.Str → Option Value} {news : List (Addr × Obj)}
    {n lm low hm high : Int} {t1 t2 t3 t4 tn : Tok}
    (F : Fr h₀ L s.heap m) (N : News h₀ L s.heap news) 
    (h1 : m (PySem.Str.ofString "lm") = some (.int lm t1)) (h2 : m (PySem.Str.ofString "low") = some (.int low t2)) (h3 : m (PySem.Str.ofString "hm") = some (.int hm t3)) (h4 : m (PySem.Str.ofString "high") = some (.int high t4)) (h5 : m (PySem.Str.ofString "n") = some (.int n tn))
    (hI : IvI lm low hm high n)
    (turn : ∀ (lm' low' hm' high' : Int) (t1 t2 t3 t4 tn : Tok) (m₁ : PySem.Str → Option Value) (h : Heap) (tk : Nat), Fr h₀ L h (fun y => (List.lookup y [(PySem.Str.ofString "lm", Value.int lm' t1), (PySem.Str.ofString "low", Value.int low' t2), (PySem.Str.ofString "hm", Value.int hm' t3), (PySem.Str.ofString "high", Value.int high' t4), (PySem.Str.ofString "n", Value.int n tn)]).or (m₁ y)) → News h₀ L h [] →
      IvI lm' low' hm' high' n → ivL lm' low' hm' high' = ivL lm low hm high →
      wpAny (model prog w) A (isTrue test env (eval test env)) (fun b s₂ =>
        if b = true then wpAny (model prog w) A (execs body env) (IvEnd h₀ L s n (ivL lm low hm high) low'.toNat) E s₂ else Q .next s₂) E { s with heap := h, toks := tk })
    (hE : PassesOwn (model prog w) A env E) :
    wpAny (model prog w) A (exec (.While test body [] pos) env) Q E s := by
  refine While_inv (ivJ n (ivL lm low hm high)) (n₀ := low.toNat) F N ⟨lm, low, hm, high, t1, t2, t3, t4, tn, named5 h1 h2 h3 h4 h5, hI, rfl, rfl⟩ ?_ hE
  rintro k m₁ news₁ h₁ tk₁ F₁ N₁ ⟨lm', low', hm', high', t1, t2, t3, t4, tn, hm₁, hI', rfl, e⟩
  exact turn lm' low' hm' high' t1 t2 t3 t4 tn m₁ h₁ tk₁ (Fr.named F₁ _ hm₁) (fun p hp => nomatch hp) hI' e
theorem iv_end {h₀ h' : Heap} {L : Addr} {s : Shared} {n R : Int} {k tk : Nat} {m : PySem.Str → Option Value} {lm low hm high : Int} {t1 t2 t3 t4 tn : Tok}
    (F : Fr h₀ L h' m) (h1 : m (PySem.Str.ofString "lm") = some (.int lm t1)) (h2 : m (PySem.Str.ofString "low") = some (.int low t2)) (h3 : m (PySem.Str.ofString "hm") = some (.int hm t3)) (h4 : m (PySem.Str.ofString "high") = some (.int high t4)) (h5 : m (PySem.Str.ofString "n") = some (.int n tn))
    (hI : IvI lm low hm high n) (hk : low.toNat < k) (hR : ivL lm low hm high = R) : IvEnd h₀ L s n R k .next { s with heap := h', toks := tk } :=
  WhileStep.intro F News.nil hk ⟨lm, low, hm, high, t1, t2, t3, t4, tn, named5 h1 h2 h3 h4 h5, hI, rfl, hR⟩

theorem kk : (hd.heap_39 = hd.heap_39) ∧ PySem.Challenge.rw_jv0012_01 = PySem.Challenge.rw_jv0012_01 := by
  k_fill
  exact ⟨rfl, rfl⟩
theorem inv_ {w : World} {A : Around} {s : Shared} {Q E : Value → Shared → Prop} {a n : Int} {ta tn : Tok}
   (C : Cx w 1 8 A s.heap []) (hn : 1 < n) (hn' : Sz 256 n)
   (hQ : ∀ t h' k, s.heap.StaysIn h' → Q (.int (ivF a n) t) { s with heap := h', toks := k }) :
   wpAny (model PG w) A (call (.ref 95) [.int a ta, .int n tn]) Q E s := by
  refine wpAny_call ?_
  refine enter (binds := [(PySem.Str.ofString "a", .int a ta), (PySem.Str.ofString "n", .int n tn)]) C (by k_is) (by k_is) (BindsTo.of_eq rfl) (locs rfl) rfl rfl rfl (by decide) ?_
  intro dp un gd cn cs b ccd cl outer base g h₁ L L' p loose mean mg mb hd hu F' N' B' X' T' hs hg ho
  k_fold
  repeat' (first
    | (k_unfold; (try dsimp only))
    | (k_end; wrow_close)
    | with_reducible ((with_reducible refine' divG (n := 256) ?hz_p ?hz_a ?hz_c ?_); (case hz_p => first | exact iv_pos1 (by assumption) | omega); (case hz_a => repeat' (first | assumption | exact IvI.lm_sz (by assumption) (by assumption) | exact IvI.low_sz (by assumption) (by assumption))); (case hz_c => decide); intro v _ _ hv; (try dsimp only); (have hv' := IvI.r_sz (by assumption) (by assumption) (by assumption)); rw [← hv] at hv')
    | ((with_reducible refine' divG (n := 256) ?hz_p ?hz_a ?hz_c ?_); (case hz_p => first | exact iv_pos1 (by assumption) | omega); (case hz_a => repeat' (first | assumption | exact IvI.lm_sz (by assumption) (by assumption) | exact IvI.low_sz (by assumption) (by assumption))); (case hz_c => decide); intro v _ _ hv; (try dsimp only); (have hv' := IvI.r_sz (by assumption) (by assumption) (by assumption)); rw [← hv] at hv')
    | with_reducible ((with_reducible refine' modG ?hz_p ?_); (case hz_p => first | exact iv_pos1 (by assumption) | omega); intro _ _ _ _ _ _; (try dsimp only))
    | ((with_reducible refine' modG ?hz_p ?_); (case hz_p => first | exact iv_pos1 (by assumption) | omega); intro _ _ _ _ _ _; (try dsimp only))
    | with_reducible ((with_reducible refine subS ?_); intro _ _; (try dsimp only))
    | ((with_reducible refine subS ?_); intro _ _; (try dsimp only))
    | with_reducible ((with_reducible refine' mulS (n := 256) (k := 256) ?hz_a ?hz_b ?hz_c ?hz_d ?_); (case hz_a => repeat' (first | assumption | exact IvI.lm_sz (by assumption) (by assumption) | exact IvI.low_sz (by assumption) (by assumption))); (case hz_b => repeat' (first | assumption | exact IvI.lm_sz (by assumption) (by assumption) | exact IvI.low_sz (by assumption) (by assumption))); (case hz_c => decide); (case hz_d => decide); intro _ _; (try dsimp only))
    | ((with_reducible refine' mulS (n := 256) (k := 256) ?hz_a ?hz_b ?hz_c ?hz_d ?_); (case hz_a => repeat' (first | assumption | exact IvI.lm_sz (by assumption) (by assumption) | exact IvI.low_sz (by assumption) (by assumption))); (case hz_b => repeat' (first | assumption | exact IvI.lm_sz (by assumption) (by assumption) | exact IvI.low_sz (by assumption) (by assumption))); (case hz_c => decide); (case hz_d => decide); intro _ _; (try dsimp only))
    | with_reducible ((with_reducible show wpAny _ _ (exec (Stmt.While _ _ _ _) _) _ _ _); ( (refine' inv_loop ?hz_F ?hz_N ?hz_h1 ?hz_h2 ?hz_h3 ?hz_h4 ?hz_h5 ?hz_hI ?_ ?hz_hE); (case hz_F => k_asm); (case hz_N => k_asm); (case hz_h1 => exact rfl); (case hz_h2 => exact rfl); (case hz_h3 => exact rfl); (case hz_h4 => exact rfl); (case hz_h5 => exact rfl); (case hz_hI => exact IvI.start (by assumption) (by assumption) (by assumption)); (case hz_hE => passes_own); intro lm' low' hm' high' _ _ _ _ _ _ _ _ F' N' hI' hR'; (try k_sweep)))
    | ((with_reducible show wpAny _ _ (exec (Stmt.While _ _ _ _) _) _ _ _); ( (refine' inv_loop ?hz_F ?hz_N ?hz_h1 ?hz_h2 ?hz_h3 ?hz_h4 ?hz_h5 ?hz_hI ?_ ?hz_hE); (case hz_F => k_asm); (case hz_N => k_asm); (case hz_h1 => exact rfl); (case hz_h2 => exact rfl); (case hz_h3 => exact rfl); (case hz_h4 => exact rfl); (case hz_h5 => exact rfl); (case hz_hI => exact IvI.start (by assumption) (by assumption) (by assumption)); (case hz_hE => passes_own); intro lm' low' hm' high' _ _ _ _ _ _ _ _ F' N' hI' hR'; (try k_sweep)))
    | walk1
    | (dsimp only; walk1)
    | (leave1; walk_say "STEP leave1"; try dsimp only)
    | fail "no step")
  all_goals (try clear hd hu B' X' T' C)
  · have e : ivF a n = 0 := by unfold ivF; rw [if_pos (by assumption)]
    rw [e] at hQ
    exact hQ _ _ _ (end_stays hs ho F' N' (fun q hq => hq))
  · rename Fr _ _ _ _ => F9
    rename IvI _ _ _ _ _ => hI
    rename ivL _ _ _ _ = ivL _ _ _ _ => hR
    rename (1 : Int) < _ => hl
    rename _ = _ / _ => hv
    subst hv
    have hI2 := hI.turn hl
    dsimp only
    refine iv_end F9 rfl rfl rfl rfl rfl hI2 ?_ ((ivL_turn hl).symm.trans hR)
    exact iv_less hl
  · rename Fr _ _ _ _ => F9
    rename News _ _ _ _ => N9
    rename IvI _ _ _ _ _ => hI
    rename ivL _ _ _ _ = ivL _ _ _ _ => hR
    rename ¬ ((1 : Int) < _) => hl
    rename _ = a % n => hv
    subst hv
    rename _ = _ % n => hv
    have e := ivF_of (by assumption) hR hl
    rw [e, ← hv] at hQ
    (try dsimp only)
    exact hQ _ _ _ (end_stays hs ho F9 N9 (fun q hq => hq))
end Mine
end
section
set_option maxHeartbeats 4000000
namespace Mine
open PySem PySem.W PySem.Spec PySem.Calls PyProof.Rows
theorem off_JacI : True := by
  w_top off
  exact True.intro

noncomputable abbrev I3 := Int × Int × Int
noncomputable abbrev tupJ (r : I3) (t1 t2 t3 : Tok) (c : Nat) : Obj := tup3 r.1 r.2.1 r.2.2 t1 t2 t3 c
def Sz3 (r : I3) : Prop := Sz 256 r.1 ∧ Sz 256 r.2.1 ∧ Sz 256 r.2.2
def NewOr (own : List (Addr × Obj)) (H : Heap) (D : Addr) : Prop := H.get? D = none ∨ D ∈ own.map (·.1)
theorem nsub_Jac {news : List (Addr × Obj)} : ∀ q ∈ ([] : List (Addr × Obj)), q ∈ news := fun _ h => nomatch h
theorem News.newOr {h₀ h h' : Heap} {L D : Addr} {m : PySem.Str → Option Value} {o : Obj} {own news : List (Addr × Obj)} (F : Fr h₀ L h m) (N : News h₀ L h news) (st : h.StaysIn h') (hD : h'.get? D = some o) (fr : NewOr own h D) (hs : ∀ q ∈ own, q ∈ news) : News h₀ L h' ((D, o) :: news) := by
  rcases fr with fr | fr
  · exact News.fresh_cons F N st hD fr
  · obtain ⟨q, hq, e⟩ := List.mem_map.mp fr
    intro p hp
    rcases List.mem_cons.mp hp with rfl | hp
    · have := N q (hs q hq)
      have e' : q.1 = D := e
      rw [e'] at this
      exact ⟨hD, this.2⟩
    · exact ⟨st _ _ (N p hp).1, (N p hp).2⟩

noncomputable def jdF (p : I3) : I3 :=
  if p.2.1 = 0 then (0, 0, 0) else
    let ysq := p.2.1 ^ 2 % PP
    let S := 4 * p.1 * ysq % PP
    let M := (3 * p.1 ^ 2 + 0 * p.2.2 ^ 4) % PP
    let nx := (M ^ 2 - 2 * S) % PP
    let ny := (M * (S - nx) - 8 * ysq ^ 2) % PP
    (nx, ny, 2 * p.2.1 * p.2.2 % PP)
noncomputable def jaF (p q : I3) : I3 :=
  if p.2.1 = 0 then q else if q.2.1 = 0 then p else
    let U1 := p.1 * q.2.2 ^ 2 % PP
    let U2 := q.1 * p.2.2 ^ 2 % PP
    let S1 := p.2.1 * q.2.2 ^ 3 % PP
    let S2 := q.2.1 * p.2.2 ^ 3 % PP
    if U1 = U2 then (if S1 ≠ S2 then (0, 0, 1) else jdF p) else
      let H := U2 - U1
      let R := S2 - S1
      let H2 := H * H % PP
      let H3 := H * H2 % PP
      let U1H2 := U1 * H2 % PP
      let nx := (R ^ 2 - H3 - 2 * U1H2) % PP
      let ny := (R * (U1H2 - nx) - S1 * H3) % PP
      (nx, ny, H * p.2.2 * q.2.2 % PP)
theorem szMod (x : Int) : Sz 256 (x % PP) := szP (Int.emod_nonneg _ (by decide)) (Int.emod_lt_of_pos _ (by decide))
theorem sz0' : Sz 256 0 := by unfold Sz; decide
theorem sz1' : Sz 256 1 := by unfold Sz; decide
theorem jdF_sz (p : I3) : Sz3 (jdF p) := by
  unfold jdF Sz3
  split
  · exact ⟨sz0', sz0', sz0'⟩
  · exact ⟨szMod _, szMod _, szMod _⟩
theorem jaF_sz {p q : I3} (hp : Sz3 p) (hq : Sz3 q) : Sz3 (jaF p q) := by
  unfold jaF
  split
  · exact hq
  · split
    · exact hp
    · dsimp only
      split
      · split
        · exact ⟨sz0', sz0', sz1'⟩
        · exact jdF_sz p
      · exact ⟨szMod _, szMod _, szMod _⟩

theorem kk2 : (hd.heap_39 = hd.heap_39) ∧ PySem.Challenge.rw_jv0012_01 = PySem.Challenge.rw_jv0012_01 := by
  k_fill
  exact ⟨rfl, rfl⟩
theorem not_mem_lt {D a : Nat} {o : Obj} (h : a < D) : D ∉ [((a : Addr), o)].map (·.1) := by
  intro hm
  rw [List.map_cons, List.map_nil, List.mem_singleton] at hm
  have e : D = a := hm
  exact Nat.ne_of_gt h e
theorem jdbl {w : World} {A : Around} {s : Shared} {Q E : Value → Shared → Prop} {p : Addr} {r : I3} {t1 t2 t3 : Tok} {c : Nat}
   (C : Cx w 1 8 A s.heap [(p, tupJ r t1 t2 t3 c)]) (hr : Sz3 r)
   (hQ : ∀ D t1 t2 t3 c h' k, s.heap.StaysIn h' → h'.get? D = some (tupJ (jdF r) t1 t2 t3 c) → s.heap.get? D = none → Q (.ref D) { s with heap := h', toks := k }) :
   wpAny (model PG w) A (call (.ref 109) [.ref p]) Q E s := by
  obtain ⟨x, y, z⟩ := r
  obtain ⟨hx, hy, hz⟩ := hr
  dsimp only [tupJ] at C hx hy hz
  refine wpAny_call ?_
  refine enter (binds := [(PySem.Str.ofString "p", .ref p)]) C (by k_is) (by k_is) (BindsTo.of_eq rfl) (locs rfl) rfl rfl rfl (by decide) ?_
  intro dp un gd cn cs a ccd cl outer base g h₁ L L' p' loose mean mg mb hd hu F' N' B' X' T' hs hg ho
  k_fold
  repeat' (first
    | (k_unfold; (try dsimp only))
    | (k_end; wrow_close)
    | with_reducible ((with_reducible refine' modP ?_); intro _ _ _ _ _; (try dsimp only))
    | ((with_reducible refine' modP ?_); intro _ _ _ _ _; (try dsimp only))
    | with_reducible ((with_reducible refine subS ?_); intro _ _; (try dsimp only))
    | ((with_reducible refine subS ?_); intro _ _; (try dsimp only))
    | with_reducible ((with_reducible refine addS ?_); intro _ _; (try dsimp only))
    | ((with_reducible refine addS ?_); intro _ _; (try dsimp only))
    | with_reducible (first | ((with_reducible refine' pow2S ?hz_a ?hz_c ?_); (case hz_a => repeat' (first | assumption | exact sz0 | exact sz1 | exact sz2 | exact sz3 | exact sz4 | exact sz8 | apply Sz.mul | apply Sz.add | apply Sz.sub | apply Sz.pow2 | apply Sz.pow3 | apply Sz.pow4)); (case hz_c => decide)) | ((with_reducible refine' pow3S ?hz_a ?hz_c ?_); (case hz_a => repeat' (first | assumption | exact sz0 | exact sz1 | exact sz2 | exact sz3 | exact sz4 | exact sz8 | apply Sz.mul | apply Sz.add | apply Sz.sub | apply Sz.pow2 | apply Sz.pow3 | apply Sz.pow4)); (case hz_c => decide)) | ((with_reducible refine' pow4S ?hz_a ?hz_c ?_); (case hz_a => repeat' (first | assumption | exact sz0 | exact sz1 | exact sz2 | exact sz3 | exact sz4 | exact sz8 | apply Sz.mul | apply Sz.add | apply Sz.sub | apply Sz.pow2 | apply Sz.pow3 | apply Sz.pow4)); (case hz_c => decide))); intro _ _; (try dsimp only)
    | (first | ((with_reducible refine' pow2S ?hz_a ?hz_c ?_); (case hz_a => repeat' (first | assumption | exact sz0 | exact sz1 | exact sz2 | exact sz3 | exact sz4 | exact sz8 | apply Sz.mul | apply Sz.add | apply Sz.sub | apply Sz.pow2 | apply Sz.pow3 | apply Sz.pow4)); (case hz_c => decide)) | ((with_reducible refine' pow3S ?hz_a ?hz_c ?_); (case hz_a => repeat' (first | assumption | exact sz0 | exact sz1 | exact sz2 | exact sz3 | exact sz4 | exact sz8 | apply Sz.mul | apply Sz.add | apply Sz.sub | apply Sz.pow2 | apply Sz.pow3 | apply Sz.pow4)); (case hz_c => decide)) | ((with_reducible refine' pow4S ?hz_a ?hz_c ?_); (case hz_a => repeat' (first | assumption | exact sz0 | exact sz1 | exact sz2 | exact sz3 | exact sz4 | exact sz8 | apply Sz.mul | apply Sz.add | apply Sz.sub | apply Sz.pow2 | apply Sz.pow3 | apply Sz.pow4)); (case hz_c => decide))); intro _ _; (try dsimp only)
    | with_reducible ((with_reducible refine' mulS ?hz_a ?hz_b ?hz_c ?hz_d ?_); (case hz_a => repeat' (first | assumption | exact sz0 | exact sz1 | exact sz2 | exact sz3 | exact sz4 | exact sz8 | apply Sz.mul | apply Sz.add | apply Sz.sub | apply Sz.pow2 | apply Sz.pow3 | apply Sz.pow4)); (case hz_b => repeat' (first | assumption | exact sz0 | exact sz1 | exact sz2 | exact sz3 | exact sz4 | exact sz8 | apply Sz.mul | apply Sz.add | apply Sz.sub | apply Sz.pow2 | apply Sz.pow3 | apply Sz.pow4)); (case hz_c => decide); (case hz_d => decide); intro _ _; (try dsimp only))
    | ((with_reducible refine' mulS ?hz_a ?hz_b ?hz_c ?hz_d ?_); (case hz_a => repeat' (first | assumption | exact sz0 | exact sz1 | exact sz2 | exact sz3 | exact sz4 | exact sz8 | apply Sz.mul | apply Sz.add | apply Sz.sub | apply Sz.pow2 | apply Sz.pow3 | apply Sz.pow4)); (case hz_b => repeat' (first | assumption | exact sz0 | exact sz1 | exact sz2 | exact sz3 | exact sz4 | exact sz8 | apply Sz.mul | apply Sz.add | apply Sz.sub | apply Sz.pow2 | apply Sz.pow3 | apply Sz.pow4)); (case hz_c => decide); (case hz_d => decide); intro _ _; (try dsimp only))
    | walk1
    | (dsimp only; walk1)
    | (leave1; walk_say "STEP leave1"; try dsimp only)
    | fail "no step")
  all_goals clear hd hu B' X' T' C
  · rename Fr _ _ _ _ => F9
    rename News _ _ _ _ => N9
    have st := end_stays hs ho F9 N9 (fun q hq => List.mem_cons_of_mem _ hq)
    have fr := end_fresh hs N9 (List.mem_cons_self ..) (not_mem_lt (by assumption))
    have e := (N9 _ (List.mem_cons_self ..)).1
    clear F9 N9
    subst_vars
    unfold jdF at hQ
    rw [if_neg (by assumption)] at hQ
    dsimp only at e ⊢
    exact hQ _ _ _ _ _ _ _ st e fr
  · rename Fr _ _ _ _ => F9
    rename News _ _ _ _ => N9
    have st := end_stays hs ho F9 N9 (fun q hq => List.mem_cons_of_mem _ hq)
    have fr := end_fresh hs N9 (List.mem_cons_self ..) (not_mem_lt (by assumption))
    have e := (N9 _ (List.mem_cons_self ..)).1
    clear F9 N9
    unfold jdF at hQ
    rw [if_pos (by assumption)] at hQ
    dsimp only at e ⊢
    exact hQ _ _ _ _ _ _ _ st e fr

theorem not_mem_lt2 {D a b : Nat} {o o' : Obj} (h : a < D) (h' : b < D) : D ∉ [((a : Addr), o), ((b : Addr), o')].map (·.1) := by
  intro hm
  rw [List.map_cons, List.map_cons, List.map_nil, List.mem_cons, List.mem_singleton] at hm
  rcases hm with e | e
  · have e' : D = a := e
    exact Nat.ne_of_gt h e'
  · have e' : D = b := e
    exact Nat.ne_of_gt h' e'
theorem NewOr.trans1 {own : List (Addr × Obj)} {H g h' : Heap} {L' D : Addr} {o : Obj} {news : List (Addr × Obj)} (hs : ∀ b o, H.get? b = some o → b ∉ own.map (·.1) → g.get? b = some o) (N : News g L' h' news) (hm : (D, o) ∈ news) : NewOr own H D := by
  cases q : H.get? D with
  | none => exact .inl q
  | some o' =>
    refine .inr (Classical.byContradiction fun hn => ?_)
    have h1 := (N _ hm).2.2
    rw [hs _ _ q hn] at h1
    cases h1
theorem jadd {w : World} {A : Around} {s : Shared} {Q E : Value → Shared → Prop} {p q : Addr} {r r' : I3} {t1 t2 t3 t1' t2' t3' : Tok} {c c' : Nat}
   (C : Cx w 2 20 A s.heap [(p, tupJ r t1 t2 t3 c), (q, tupJ r' t1' t2' t3' c')]) (hr : Sz3 r) (hr' : Sz3 r')
   (hQ : ∀ D u1 u2 u3 k1 h' k, s.heap.StaysIn h' → h'.get? D = some (tupJ (jaF r r') u1 u2 u3 k1) → NewOr [(p, tupJ r t1 t2 t3 c), (q, tupJ r' t1' t2' t3' c')] s.heap D → Q (.ref D) { s with heap := h', toks := k }) :
   wpAny (model PG w) A (call (.ref 116) [.ref p, .ref q]) Q E s := by
  obtain ⟨x, y, z⟩ := r
  obtain ⟨x', y', z'⟩ := r'
  obtain ⟨hx, hy, hz⟩ := hr
  obtain ⟨hx', hy', hz'⟩ := hr'
  dsimp only [tupJ] at C hx hy hz hx' hy' hz' hQ
  refine wpAny_call ?_
  refine enter (binds := [(PySem.Str.ofString "p", .ref p), (PySem.Str.ofString "q", .ref q)]) C (by k_is) (by k_is) (BindsTo.of_eq rfl) (locs rfl) rfl rfl rfl (by decide) ?_
  intro dp un gd cn cs a ccd cl outer base g h₁ L L' p' loose mean mg mb hd hu F' N' B' X' T' hs hg ho
  k_fold
  repeat' (first
    | (k_unfold; (try dsimp only))
    | (k_end; wrow_close)
    | with_reducible ( (with_reducible show wpAny _ _ (call (Value.ref 109) [Value.ref _]) _ _ _); (refine' jdbl (r := (_, _, _)) (Cx.of ?hz_B ?hz_F ?hz_X ?hz_T ?hz_K ?hz_d ?hz_u ?hz_N ?hz_S) ?hz_z ?_); (case hz_B => k_asm); (case hz_F => k_asm); (case hz_X => k_asm); (case hz_T => k_asm); (case hz_K => first | exact rfl | assumption); (case hz_N => k_asm); (case hz_d => dsimp only; first | exact room1 (by assumption) (by decide) | omega); (case hz_u => dsimp only; first | exact room1 (by assumption) (by decide) | omega); (case hz_S => (intro q hq; rw [List.mem_singleton] at hq; subst hq; k_mem)); (case hz_z => exact ⟨by assumption, by assumption, by assumption⟩); intro D' _ _ _ _ h' _ st' hD' fr'; (have F' := Fr.stay (by k_asm) st'); (have N' := News.fresh_cons (by k_asm) (by k_asm) st' hD' fr'); (try dsimp only); (try k_fold))
    | ( (with_reducible show wpAny _ _ (call (Value.ref 109) [Value.ref _]) _ _ _); (refine' jdbl (r := (_, _, _)) (Cx.of ?hz_B ?hz_F ?hz_X ?hz_T ?hz_K ?hz_d ?hz_u ?hz_N ?hz_S) ?hz_z ?_); (case hz_B => k_asm); (case hz_F => k_asm); (case hz_X => k_asm); (case hz_T => k_asm); (case hz_K => first | exact rfl | assumption); (case hz_N => k_asm); (case hz_d => dsimp only; first | exact room1 (by assumption) (by decide) | omega); (case hz_u => dsimp only; first | exact room1 (by assumption) (by decide) | omega); (case hz_S => (intro q hq; rw [List.mem_singleton] at hq; subst hq; k_mem)); (case hz_z => exact ⟨by assumption, by assumption, by assumption⟩); intro D' _ _ _ _ h' _ st' hD' fr'; (have F' := Fr.stay (by k_asm) st'); (have N' := News.fresh_cons (by k_asm) (by k_asm) st' hD' fr'); (try dsimp only); (try k_fold))
    | with_reducible ((with_reducible refine' modP ?_); intro _ _ _ _ _; (try dsimp only))
    | ((with_reducible refine' modP ?_); intro _ _ _ _ _; (try dsimp only))
    | with_reducible ((with_reducible refine subS ?_); intro _ _; (try dsimp only))
    | ((with_reducible refine subS ?_); intro _ _; (try dsimp only))
    | with_reducible ((with_reducible refine addS ?_); intro _ _; (try dsimp only))
    | ((with_reducible refine addS ?_); intro _ _; (try dsimp only))
    | with_reducible (first | ((with_reducible refine' pow2S ?hz_a ?hz_c ?_); (case hz_a => repeat' (first | assumption | exact sz0 | exact sz1 | exact sz2 | exact sz3 | exact sz4 | exact sz8 | apply Sz.mul | apply Sz.add | apply Sz.sub | apply Sz.pow2 | apply Sz.pow3 | apply Sz.pow4)); (case hz_c => decide)) | ((with_reducible refine' pow3S ?hz_a ?hz_c ?_); (case hz_a => repeat' (first | assumption | exact sz0 | exact sz1 | exact sz2 | exact sz3 | exact sz4 | exact sz8 | apply Sz.mul | apply Sz.add | apply Sz.sub | apply Sz.pow2 | apply Sz.pow3 | apply Sz.pow4)); (case hz_c => decide)) | ((with_reducible refine' pow4S ?hz_a ?hz_c ?_); (case hz_a => repeat' (first | assumption | exact sz0 | exact sz1 | exact sz2 | exact sz3 | exact sz4 | exact sz8 | apply Sz.mul | apply Sz.add | apply Sz.sub | apply Sz.pow2 | apply Sz.pow3 | apply Sz.pow4)); (case hz_c => decide))); intro _ _; (try dsimp only)
    | (first | ((with_reducible refine' pow2S ?hz_a ?hz_c ?_); (case hz_a => repeat' (first | assumption | exact sz0 | exact sz1 | exact sz2 | exact sz3 | exact sz4 | exact sz8 | apply Sz.mul | apply Sz.add | apply Sz.sub | apply Sz.pow2 | apply Sz.pow3 | apply Sz.pow4)); (case hz_c => decide)) | ((with_reducible refine' pow3S ?hz_a ?hz_c ?_); (case hz_a => repeat' (first | assumption | exact sz0 | exact sz1 | exact sz2 | exact sz3 | exact sz4 | exact sz8 | apply Sz.mul | apply Sz.add | apply Sz.sub | apply Sz.pow2 | apply Sz.pow3 | apply Sz.pow4)); (case hz_c => decide)) | ((with_reducible refine' pow4S ?hz_a ?hz_c ?_); (case hz_a => repeat' (first | assumption | exact sz0 | exact sz1 | exact sz2 | exact sz3 | exact sz4 | exact sz8 | apply Sz.mul | apply Sz.add | apply Sz.sub | apply Sz.pow2 | apply Sz.pow3 | apply Sz.pow4)); (case hz_c => decide))); intro _ _; (try dsimp only)
    | with_reducible ((with_reducible refine' mulS ?hz_a ?hz_b ?hz_c ?hz_d ?_); (case hz_a => repeat' (first | assumption | exact sz0 | exact sz1 | exact sz2 | exact sz3 | exact sz4 | exact sz8 | apply Sz.mul | apply Sz.add | apply Sz.sub | apply Sz.pow2 | apply Sz.pow3 | apply Sz.pow4)); (case hz_b => repeat' (first | assumption | exact sz0 | exact sz1 | exact sz2 | exact sz3 | exact sz4 | exact sz8 | apply Sz.mul | apply Sz.add | apply Sz.sub | apply Sz.pow2 | apply Sz.pow3 | apply Sz.pow4)); (case hz_c => decide); (case hz_d => decide); intro _ _; (try dsimp only))
    | ((with_reducible refine' mulS ?hz_a ?hz_b ?hz_c ?hz_d ?_); (case hz_a => repeat' (first | assumption | exact sz0 | exact sz1 | exact sz2 | exact sz3 | exact sz4 | exact sz8 | apply Sz.mul | apply Sz.add | apply Sz.sub | apply Sz.pow2 | apply Sz.pow3 | apply Sz.pow4)); (case hz_b => repeat' (first | assumption | exact sz0 | exact sz1 | exact sz2 | exact sz3 | exact sz4 | exact sz8 | apply Sz.mul | apply Sz.add | apply Sz.sub | apply Sz.pow2 | apply Sz.pow3 | apply Sz.pow4)); (case hz_c => decide); (case hz_d => decide); intro _ _; (try dsimp only))
    | walk1
    | (dsimp only; walk1)
    | (leave1; walk_say "STEP leave1"; try dsimp only)
    | fail "no step")
  all_goals clear hd hu B' X' T' C
  all_goals (rename Fr _ _ _ _ => F9; rename News _ _ _ _ => N9)
  · have st := end_stays hs ho F9 N9 (fun q hq => List.mem_cons_of_mem _ hq)
    have e := N9 _ (List.mem_cons_self ..)
    have fr := NewOr.trans1 hs N9 (List.mem_cons_self ..)
    replace e := e.1
    clear F9 N9
    subst_vars
    unfold jaF at hQ
    rw [if_neg (by assumption), if_neg (by assumption)] at hQ
    dsimp only at hQ
    rw [if_pos (by assumption), if_pos (by assumption)] at hQ
    dsimp only at e ⊢
    exact hQ _ _ _ _ _ _ _ st e fr
  · have st := end_stays hs ho F9 N9 (fun q hq => List.mem_cons_of_mem _ hq)
    have e := N9 _ (List.mem_cons_self ..)
    have fr := NewOr.trans1 hs N9 (List.mem_cons_self ..)
    replace e := e.1
    rename _ = (_ : Int) => h9
    have h9' := not_not_intro h9
    clear F9 N9 h9
    subst_vars
    unfold jaF at hQ
    rw [if_neg (by assumption), if_neg (by assumption)] at hQ
    dsimp only at hQ
    rw [if_pos (by assumption), if_neg (by assumption)] at hQ
    dsimp only at e ⊢
    exact hQ _ _ _ _ _ _ _ st e fr
  · have st := end_stays hs ho F9 N9 (fun q hq => List.mem_cons_of_mem _ hq)
    have e := N9 _ (List.mem_cons_self ..)
    have fr := NewOr.trans1 hs N9 (List.mem_cons_self ..)
    replace e := e.1
    clear F9 N9
    subst_vars
    unfold jaF at hQ
    rw [if_neg (by assumption), if_neg (by assumption)] at hQ
    dsimp only at hQ
    rw [if_neg (by assumption)] at hQ
    dsimp only at e ⊢
    exact hQ _ _ _ _ _ _ _ st e fr
  · have st := end_stays hs ho F9 N9 (fun q hq => hq)
    have e := (N9 _ (List.mem_cons_self ..)).1
    unfold jaF at hQ
    rw [if_neg (by assumption), if_pos (by assumption)] at hQ
    dsimp only at e ⊢
    exact hQ _ _ _ _ _ _ _ st e (.inr (List.mem_cons_self ..))
  · have st := end_stays hs ho F9 N9 (fun q hq => hq)
    have e := (N9 _ (List.mem_cons_of_mem _ (List.mem_cons_self ..))).1
    unfold jaF at hQ
    rw [if_pos (by assumption)] at hQ
    dsimp only at e ⊢
    exact hQ _ _ _ _ _ _ _ st e (.inr (List.mem_cons_of_mem _ (List.mem_cons_self ..)))
end Mine
end
section
set_option maxHeartbeats 4000000
namespace Mine
open PySem PySem.W PySem.Spec PySem.Calls PyProof.Rows
theorem off_Jac2I : True := by
  w_top off
  exact True.intro

noncomputable def fjF (p : I3) : Int × Int := (p.1 * ivF p.2.2 PP ^ 2 % PP, p.2.1 * ivF p.2.2 PP ^ 3 % PP)
theorem nsub_Jac2 {news : List (Addr × Obj)} : ∀ q ∈ ([] : List (Addr × Obj)), q ∈ news := fun _ h => nomatch h
theorem roomA {a d k : Nat} (h : a + (d + 3 + 1) ≤ k) : a + 1 + (d + 3) ≤ k := by rw [Nat.add_assoc a, Nat.add_comm 1]; exact h
theorem roomB {a d k c : Nat} (h : a + (d + 3 + 1) ≤ k) (e : 1 + c ≤ 4) : a + 1 + c ≤ k := room1 h (Nat.le_trans e (by rw [Nat.add_assoc]; exact Nat.le_add_left _ _))
theorem roomC {a d k : Nat} (h : a + (20 * (d + 1) + 40) ≤ k) : a + 3 + (20 * d + 40) ≤ k :=
  room1 h (by rw [Nat.mul_succ, Nat.add_comm 3, Nat.add_assoc, Nat.add_assoc]; exact Nat.add_le_add_left (by decide) _)
theorem roomE {a d k c : Nat} (h : a + (20 * (d + 1) + 40) ≤ k) (e : 3 + c ≤ 40) : a + 3 + c ≤ k := room1 h (Nat.le_trans e (Nat.le_add_left _ _))
theorem mod2X {n : Int} (h0 : n % 2 ≠ 0) (h1 : n % 2 ≠ 1) : False := (Int.emod_two_eq n).elim h0 h1
theorem rangeX {a b : Int} (h0 : a < b) (h1 : b ≤ a) : False := Int.lt_irrefl _ (Int.lt_of_lt_of_le h0 h1)
theorem ivF_range {a n : Int} (hn : 0 < n) : 0 ≤ ivF a n ∧ ivF a n < n := by
  unfold ivF
  split
  · exact ⟨Int.le_refl _, hn⟩
  · exact ⟨Int.emod_nonneg _ (Int.ne_of_gt hn), Int.emod_lt_of_pos _ hn⟩
theorem ivF_szP {a : Int} : Sz 256 (ivF a PP) := szP (ivF_range (by decide)).1 (ivF_range (by decide)).2
theorem fjF_sz (p : I3) : Sz 256 (fjF p).1 ∧ Sz 256 (fjF p).2 := ⟨szMod _, szMod _⟩
noncomputable def jmF : Nat → I3 → Int → I3
  | 0, _, _ => (0, 0, 1)
  | d + 1, a, n =>
    if a.2.1 = 0 ∨ n = 0 then (0, 0, 1) else if n = 1 then a else
      if n % 2 = 0 then jdF (jmF d a (n / 2)) else jaF (jdF (jmF d a (n / 2))) a
theorem jmF_zero {d : Nat} {a : I3} {n : Int} (h : a.2.1 = 0 ∨ n = 0) : jmF (d + 1) a n = (0, 0, 1) := by rw [jmF, if_pos h]
theorem jmF_one {d : Nat} {a : I3} {n : Int} (h : a.2.1 ≠ 0) (h1 : n = 1) : jmF (d + 1) a n = a := by subst h1; exact (if_neg (fun q => q.elim h (by decide))).trans (if_pos rfl)
theorem jmF_even {d : Nat} {a : I3} {n : Int} (h : a.2.1 ≠ 0) (h0 : n ≠ 0) (h1 : n ≠ 1) (h2 : n % 2 = 0) : jmF (d + 1) a n = jdF (jmF d a (n / 2)) := by rw [jmF, if_neg (fun q => q.elim h h0), if_neg h1, if_pos h2]
theorem jmF_odd {d : Nat} {a : I3} {n : Int} (h : a.2.1 ≠ 0) (h0 : n ≠ 0) (h1 : n ≠ 1) (h2 : n % 2 ≠ 0) : jmF (d + 1) a n = jaF (jdF (jmF d a (n / 2))) a := by rw [jmF, if_neg (fun q => q.elim h h0), if_neg h1, if_neg h2]
theorem jmF_sz {a : I3} (h : Sz3 a) : ∀ (d : Nat) (n : Int), Sz3 (jmF d a n)
  | 0, _ => ⟨sz0', sz0', sz1'⟩
  | d + 1, n => by
    unfold jmF
    split
    · exact ⟨sz0', sz0', sz1'⟩
    · split
      · exact h
      · split
        · exact jdF_sz _
        · exact jaF_sz (jdF_sz _) h

theorem kk3 : (hd.heap_39 = hd.heap_39) ∧ PySem.Challenge.rw_jv0012_01 = PySem.Challenge.rw_jv0012_01 := by
  k_fill
  exact ⟨rfl, rfl⟩
theorem fromjac {w : World} {A : Around} {s : Shared} {Q E : Value → Shared → Prop} {p : Addr} {r : I3} {t1 t2 t3 : Tok} {c : Nat}
   (C : Cx w 2 20 A s.heap [(p, tupJ r t1 t2 t3 c)]) (hr : Sz3 r)
   (hQ : ∀ D t1 t2 c h' k, s.heap.StaysIn h' → h'.get? D = some (tup2 (fjF r).1 (fjF r).2 t1 t2 c) → s.heap.get? D = none → Q (.ref D) { s with heap := h', toks := k }) :
   wpAny (model PG w) A (call (.ref 123) [.ref p]) Q E s := by
  obtain ⟨x, y, z⟩ := r
  obtain ⟨hx, hy, hz⟩ := hr
  dsimp only [tupJ] at C hx hy hz
  refine wpAny_call ?_
  refine enter (binds := [(PySem.Str.ofString "p", .ref p)]) C (by k_is) (by k_is) (BindsTo.of_eq rfl) (locs rfl) rfl rfl rfl (by decide) ?_
  intro dp un gd cn cs a ccd cl outer base g h₁ L L' p' loose mean mg mb hd hu F' N' B' X' T' hs hg ho
  k_fold
  repeat' (first
    | (k_unfold; (try dsimp only))
    | (k_end; wrow_close)
    | with_reducible ( (with_reducible show wpAny _ _ (call (Value.ref 95) [Value.int _ _, Value.int _ _]) _ _ _); (refine' inv_ (Cx.of ?hz_B ?hz_F ?hz_X ?hz_T ?hz_K ?hz_d ?hz_u ?hz_N ?hz_S) ?hz_n ?hz_z ?_); (case hz_B => k_asm); (case hz_F => k_asm); (case hz_X => k_asm); (case hz_T => k_asm); (case hz_K => first | exact rfl | assumption); (case hz_N => k_asm); (case hz_d => dsimp only; first | exact room1 (by assumption) (by decide) | exact roomA (by assumption) | exact roomB (by assumption) (by decide) | omega); (case hz_u => dsimp only; first | exact room1 (by assumption) (by decide) | exact roomC (by assumption) | exact roomE (by assumption) (by decide) | omega); (case hz_S => exact nsub_Jac2); (case hz_n => decide); (case hz_z => first | exact szPP | exact szNN); intro _ h' _ st'; (have F' := Fr.stay (by k_asm) st'); (have N' := News.stay (by k_asm) st'); (try dsimp only); (try k_fold))
    | ( (with_reducible show wpAny _ _ (call (Value.ref 95) [Value.int _ _, Value.int _ _]) _ _ _); (refine' inv_ (Cx.of ?hz_B ?hz_F ?hz_X ?hz_T ?hz_K ?hz_d ?hz_u ?hz_N ?hz_S) ?hz_n ?hz_z ?_); (case hz_B => k_asm); (case hz_F => k_asm); (case hz_X => k_asm); (case hz_T => k_asm); (case hz_K => first | exact rfl | assumption); (case hz_N => k_asm); (case hz_d => dsimp only; first | exact room1 (by assumption) (by decide) | exact roomA (by assumption) | exact roomB (by assumption) (by decide) | omega); (case hz_u => dsimp only; first | exact room1 (by assumption) (by decide) | exact roomC (by assumption) | exact roomE (by assumption) (by decide) | omega); (case hz_S => exact nsub_Jac2); (case hz_n => decide); (case hz_z => first | exact szPP | exact szNN); intro _ h' _ st'; (have F' := Fr.stay (by k_asm) st'); (have N' := News.stay (by k_asm) st'); (try dsimp only); (try k_fold))
    | with_reducible ((with_reducible refine' modP ?_); intro _ _ _ _ _; (try dsimp only))
    | ((with_reducible refine' modP ?_); intro _ _ _ _ _; (try dsimp only))
    | with_reducible (first | ((with_reducible refine' pow2S ?hz_a ?hz_c ?_); (case hz_a => repeat' (first | assumption | exact ivF_szP | exact sz0 | exact sz1 | exact sz2 | exact sz3 | exact sz4 | exact sz8 | apply Sz.mul | apply Sz.add | apply Sz.sub | apply Sz.pow2 | apply Sz.pow3 | apply Sz.pow4)); (case hz_c => decide)) | ((with_reducible refine' pow3S ?hz_a ?hz_c ?_); (case hz_a => repeat' (first | assumption | exact ivF_szP | exact sz0 | exact sz1 | exact sz2 | exact sz3 | exact sz4 | exact sz8 | apply Sz.mul | apply Sz.add | apply Sz.sub | apply Sz.pow2 | apply Sz.pow3 | apply Sz.pow4)); (case hz_c => decide)) | ((with_reducible refine' pow4S ?hz_a ?hz_c ?_); (case hz_a => repeat' (first | assumption | exact ivF_szP | exact sz0 | exact sz1 | exact sz2 | exact sz3 | exact sz4 | exact sz8 | apply Sz.mul | apply Sz.add | apply Sz.sub | apply Sz.pow2 | apply Sz.pow3 | apply Sz.pow4)); (case hz_c => decide))); intro _ _; (try dsimp only)
    | (first | ((with_reducible refine' pow2S ?hz_a ?hz_c ?_); (case hz_a => repeat' (first | assumption | exact ivF_szP | exact sz0 | exact sz1 | exact sz2 | exact sz3 | exact sz4 | exact sz8 | apply Sz.mul | apply Sz.add | apply Sz.sub | apply Sz.pow2 | apply Sz.pow3 | apply Sz.pow4)); (case hz_c => decide)) | ((with_reducible refine' pow3S ?hz_a ?hz_c ?_); (case hz_a => repeat' (first | assumption | exact ivF_szP | exact sz0 | exact sz1 | exact sz2 | exact sz3 | exact sz4 | exact sz8 | apply Sz.mul | apply Sz.add | apply Sz.sub | apply Sz.pow2 | apply Sz.pow3 | apply Sz.pow4)); (case hz_c => decide)) | ((with_reducible refine' pow4S ?hz_a ?hz_c ?_); (case hz_a => repeat' (first | assumption | exact ivF_szP | exact sz0 | exact sz1 | exact sz2 | exact sz3 | exact sz4 | exact sz8 | apply Sz.mul | apply Sz.add | apply Sz.sub | apply Sz.pow2 | apply Sz.pow3 | apply Sz.pow4)); (case hz_c => decide))); intro _ _; (try dsimp only)
    | with_reducible ((with_reducible refine' mulS ?hz_a ?hz_b ?hz_c ?hz_d ?_); (case hz_a => repeat' (first | assumption | exact ivF_szP | exact sz0 | exact sz1 | exact sz2 | exact sz3 | exact sz4 | exact sz8 | apply Sz.mul | apply Sz.add | apply Sz.sub | apply Sz.pow2 | apply Sz.pow3 | apply Sz.pow4)); (case hz_b => repeat' (first | assumption | exact ivF_szP | exact sz0 | exact sz1 | exact sz2 | exact sz3 | exact sz4 | exact sz8 | apply Sz.mul | apply Sz.add | apply Sz.sub | apply Sz.pow2 | apply Sz.pow3 | apply Sz.pow4)); (case hz_c => decide); (case hz_d => decide); intro _ _; (try dsimp only))
    | ((with_reducible refine' mulS ?hz_a ?hz_b ?hz_c ?hz_d ?_); (case hz_a => repeat' (first | assumption | exact ivF_szP | exact sz0 | exact sz1 | exact sz2 | exact sz3 | exact sz4 | exact sz8 | apply Sz.mul | apply Sz.add | apply Sz.sub | apply Sz.pow2 | apply Sz.pow3 | apply Sz.pow4)); (case hz_b => repeat' (first | assumption | exact ivF_szP | exact sz0 | exact sz1 | exact sz2 | exact sz3 | exact sz4 | exact sz8 | apply Sz.mul | apply Sz.add | apply Sz.sub | apply Sz.pow2 | apply Sz.pow3 | apply Sz.pow4)); (case hz_c => decide); (case hz_d => decide); intro _ _; (try dsimp only))
    | walk1
    | (dsimp only; walk1)
    | (leave1; walk_say "STEP leave1"; try dsimp only)
    | fail "no step")
  all_goals clear hd hu B' X' T' C
  · rename Fr _ _ _ _ => F9
    rename News _ _ _ _ => N9
    have st := end_stays hs ho F9 N9 (fun q hq => List.mem_cons_of_mem _ hq)
    have fr := end_fresh hs N9 (List.mem_cons_self ..) (not_mem_lt (by assumption))
    have e := (N9 _ (List.mem_cons_self ..)).1
    clear F9 N9
    subst_vars
    dsimp only at e ⊢
    exact hQ _ _ _ _ _ _ st e fr

def JmC (w : World) (d : Nat) : Prop := ∀ {A : Around} {s : Shared} {Q E : Value → Shared → Prop} {p : Addr} {r : I3} {n : Int} {tn t1 t2 t3 : Tok} {c : Nat},
   Cx w (d + 3) (20 * d + 40) A s.heap [(p, tupJ r t1 t2 t3 c)] → Sz3 r → 0 ≤ n → n < 2 ^ d →
   (∀ D u1 u2 u3 k1 h' k, s.heap.StaysIn h' → h'.get? D = some (tupJ (jmF d r n) u1 u2 u3 k1) → NewOr [(p, tupJ r t1 t2 t3 c)] s.heap D → Q (.ref D) { s with heap := h', toks := k }) →
   wpAny (model PG w) A (call (.ref 130) [.ref p, .int n tn]) Q E s
theorem jm0 {w : World} : JmC w 0 := by
  intro A s Q E p r n tn t1 t2 t3 c C hr hn hn' hQ
  have e0 : n = 0 := Int.le_antisymm (Int.lt_add_one_iff.mp hn') hn
  subst e0
  refine wpAny_call ?_
  refine enter (binds := [(PySem.Str.ofString "a", .ref p), (PySem.Str.ofString "n", .int 0 tn)]) C (by k_is) (by k_is) (BindsTo.of_eq rfl) (locs rfl) rfl rfl rfl (by decide) ?_
  intro dp un gd cn cs a ccd cl outer base g h₁ L L' p' loose mean mg mb hd hu F' N' B' X' T' hs hg ho
  k_fold
  repeat' (first
    | (k_unfold; (try dsimp only))
    | (k_end; wrow_close)
    | with_reducible ( (with_reducible show wpAny _ _ (call (Value.ref 116) [Value.ref _, Value.ref _]) _ _ _); (refine' jadd (Cx.of ?hz_B ?hz_F ?hz_X ?hz_T ?hz_K ?hz_d ?hz_u ?hz_N ?hz_S) ?hz_z ?hz_z' ?_); (case hz_B => k_asm); (case hz_F => k_asm); (case hz_X => k_asm); (case hz_T => k_asm); (case hz_K => first | exact rfl | assumption); (case hz_N => k_asm); (case hz_d => dsimp only; first | exact room1 (by assumption) (by decide) | exact roomA (by assumption) | exact roomB (by assumption) (by decide) | omega); (case hz_u => dsimp only; first | exact room1 (by assumption) (by decide) | exact roomC (by assumption) | exact roomE (by assumption) (by decide) | omega); (case hz_S => (intro q hq; rw [List.mem_cons, List.mem_singleton] at hq; rcases hq with hq | hq <;> subst hq <;> k_mem)); (case hz_z => exact jdF_sz _); (case hz_z' => assumption); intro D' _ _ _ _ h' _ st' hD' fr'; (have F' := Fr.stay (by k_asm) st'); (have N' := News.newOr (by k_asm) (by k_asm) st' hD' fr' (by intro q hq; rw [List.mem_cons, List.mem_singleton] at hq; rcases hq with hq | hq <;> subst hq <;> k_mem)); (try dsimp only); (try k_fold))
    | ( (with_reducible show wpAny _ _ (call (Value.ref 116) [Value.ref _, Value.ref _]) _ _ _); (refine' jadd (Cx.of ?hz_B ?hz_F ?hz_X ?hz_T ?hz_K ?hz_d ?hz_u ?hz_N ?hz_S) ?hz_z ?hz_z' ?_); (case hz_B => k_asm); (case hz_F => k_asm); (case hz_X => k_asm); (case hz_T => k_asm); (case hz_K => first | exact rfl | assumption); (case hz_N => k_asm); (case hz_d => dsimp only; first | exact room1 (by assumption) (by decide) | exact roomA (by assumption) | exact roomB (by assumption) (by decide) | omega); (case hz_u => dsimp only; first | exact room1 (by assumption) (by decide) | exact roomC (by assumption) | exact roomE (by assumption) (by decide) | omega); (case hz_S => (intro q hq; rw [List.mem_cons, List.mem_singleton] at hq; rcases hq with hq | hq <;> subst hq <;> k_mem)); (case hz_z => exact jdF_sz _); (case hz_z' => assumption); intro D' _ _ _ _ h' _ st' hD' fr'; (have F' := Fr.stay (by k_asm) st'); (have N' := News.newOr (by k_asm) (by k_asm) st' hD' fr' (by intro q hq; rw [List.mem_cons, List.mem_singleton] at hq; rcases hq with hq | hq <;> subst hq <;> k_mem)); (try dsimp only); (try k_fold))
    | with_reducible ( (with_reducible show wpAny _ _ (call (Value.ref 109) [Value.ref _]) _ _ _); (refine' jdbl (Cx.of ?hz_B ?hz_F ?hz_X ?hz_T ?hz_K ?hz_d ?hz_u ?hz_N ?hz_S) ?hz_z ?_); (case hz_B => k_asm); (case hz_F => k_asm); (case hz_X => k_asm); (case hz_T => k_asm); (case hz_K => first | exact rfl | assumption); (case hz_N => k_asm); (case hz_d => dsimp only; first | exact room1 (by assumption) (by decide) | exact roomA (by assumption) | exact roomB (by assumption) (by decide) | omega); (case hz_u => dsimp only; first | exact room1 (by assumption) (by decide) | exact roomC (by assumption) | exact roomE (by assumption) (by decide) | omega); (case hz_S => (intro q hq; rw [List.mem_singleton] at hq; subst hq; k_mem)); (case hz_z => exact jmF_sz (by assumption) _ _); intro D' _ _ _ _ h' _ st' hD' fr'; (have F' := Fr.stay (by k_asm) st'); (have N' := News.fresh_cons (by k_asm) (by k_asm) st' hD' fr'); (try dsimp only); (try k_fold))
    | ( (with_reducible show wpAny _ _ (call (Value.ref 109) [Value.ref _]) _ _ _); (refine' jdbl (Cx.of ?hz_B ?hz_F ?hz_X ?hz_T ?hz_K ?hz_d ?hz_u ?hz_N ?hz_S) ?hz_z ?_); (case hz_B => k_asm); (case hz_F => k_asm); (case hz_X => k_asm); (case hz_T => k_asm); (case hz_K => first | exact rfl | assumption); (case hz_N => k_asm); (case hz_d => dsimp only; first | exact room1 (by assumption) (by decide) | exact roomA (by assumption) | exact roomB (by assumption) (by decide) | omega); (case hz_u => dsimp only; first | exact room1 (by assumption) (by decide) | exact roomC (by assumption) | exact roomE (by assumption) (by decide) | omega); (case hz_S => (intro q hq; rw [List.mem_singleton] at hq; subst hq; k_mem)); (case hz_z => exact jmF_sz (by assumption) _ _); intro D' _ _ _ _ h' _ st' hD' fr'; (have F' := Fr.stay (by k_asm) st'); (have N' := News.fresh_cons (by k_asm) (by k_asm) st' hD' fr'); (try dsimp only); (try k_fold))
    | with_reducible ( (with_reducible show wpAny _ _ (call (Value.ref 95) [Value.int _ _, Value.int _ _]) _ _ _); (refine' inv_ (Cx.of ?hz_B ?hz_F ?hz_X ?hz_T ?hz_K ?hz_d ?hz_u ?hz_N ?hz_S) ?hz_n ?hz_z ?_); (case hz_B => k_asm); (case hz_F => k_asm); (case hz_X => k_asm); (case hz_T => k_asm); (case hz_K => first | exact rfl | assumption); (case hz_N => k_asm); (case hz_d => dsimp only; first | exact room1 (by assumption) (by decide) | exact roomA (by assumption) | exact roomB (by assumption) (by decide) | omega); (case hz_u => dsimp only; first | exact room1 (by assumption) (by decide) | exact roomC (by assumption) | exact roomE (by assumption) (by decide) | omega); (case hz_S => exact nsub_Jac2); (case hz_n => decide); (case hz_z => first | exact szPP | exact szNN); intro _ h' _ st'; (have F' := Fr.stay (by k_asm) st'); (have N' := News.stay (by k_asm) st'); (try dsimp only); (try k_fold))
    | ( (with_reducible show wpAny _ _ (call (Value.ref 95) [Value.int _ _, Value.int _ _]) _ _ _); (refine' inv_ (Cx.of ?hz_B ?hz_F ?hz_X ?hz_T ?hz_K ?hz_d ?hz_u ?hz_N ?hz_S) ?hz_n ?hz_z ?_); (case hz_B => k_asm); (case hz_F => k_asm); (case hz_X => k_asm); (case hz_T => k_asm); (case hz_K => first | exact rfl | assumption); (case hz_N => k_asm); (case hz_d => dsimp only; first | exact room1 (by assumption) (by decide) | exact roomA (by assumption) | exact roomB (by assumption) (by decide) | omega); (case hz_u => dsimp only; first | exact room1 (by assumption) (by decide) | exact roomC (by assumption) | exact roomE (by assumption) (by decide) | omega); (case hz_S => exact nsub_Jac2); (case hz_n => decide); (case hz_z => first | exact szPP | exact szNN); intro _ h' _ st'; (have F' := Fr.stay (by k_asm) st'); (have N' := News.stay (by k_asm) st'); (try dsimp only); (try k_fold))
    | with_reducible ((with_reducible refine' modP ?_); intro _ _ _ _ _; (try dsimp only))
    | ((with_reducible refine' modP ?_); intro _ _ _ _ _; (try dsimp only))
    | with_reducible (first | ((with_reducible refine' pow2S ?hz_a ?hz_c ?_); (case hz_a => repeat' (first | assumption | exact ivF_szP | exact sz0 | exact sz1 | exact sz2 | exact sz3 | exact sz4 | exact sz8 | apply Sz.mul | apply Sz.add | apply Sz.sub | apply Sz.pow2 | apply Sz.pow3 | apply Sz.pow4)); (case hz_c => decide)) | ((with_reducible refine' pow3S ?hz_a ?hz_c ?_); (case hz_a => repeat' (first | assumption | exact ivF_szP | exact sz0 | exact sz1 | exact sz2 | exact sz3 | exact sz4 | exact sz8 | apply Sz.mul | apply Sz.add | apply Sz.sub | apply Sz.pow2 | apply Sz.pow3 | apply Sz.pow4)); (case hz_c => decide)) | ((with_reducible refine' pow4S ?hz_a ?hz_c ?_); (case hz_a => repeat' (first | assumption | exact ivF_szP | exact sz0 | exact sz1 | exact sz2 | exact sz3 | exact sz4 | exact sz8 | apply Sz.mul | apply Sz.add | apply Sz.sub | apply Sz.pow2 | apply Sz.pow3 | apply Sz.pow4)); (case hz_c => decide))); intro _ _; (try dsimp only)
    | (first | ((with_reducible refine' pow2S ?hz_a ?hz_c ?_); (case hz_a => repeat' (first | assumption | exact ivF_szP | exact sz0 | exact sz1 | exact sz2 | exact sz3 | exact sz4 | exact sz8 | apply Sz.mul | apply Sz.add | apply Sz.sub | apply Sz.pow2 | apply Sz.pow3 | apply Sz.pow4)); (case hz_c => decide)) | ((with_reducible refine' pow3S ?hz_a ?hz_c ?_); (case hz_a => repeat' (first | assumption | exact ivF_szP | exact sz0 | exact sz1 | exact sz2 | exact sz3 | exact sz4 | exact sz8 | apply Sz.mul | apply Sz.add | apply Sz.sub | apply Sz.pow2 | apply Sz.pow3 | apply Sz.pow4)); (case hz_c => decide)) | ((with_reducible refine' pow4S ?hz_a ?hz_c ?_); (case hz_a => repeat' (first | assumption | exact ivF_szP | exact sz0 | exact sz1 | exact sz2 | exact sz3 | exact sz4 | exact sz8 | apply Sz.mul | apply Sz.add | apply Sz.sub | apply Sz.pow2 | apply Sz.pow3 | apply Sz.pow4)); (case hz_c => decide))); intro _ _; (try dsimp only)
    | with_reducible ((with_reducible refine' mulS ?hz_a ?hz_b ?hz_c ?hz_d ?_); (case hz_a => repeat' (first | assumption | exact ivF_szP | exact sz0 | exact sz1 | exact sz2 | exact sz3 | exact sz4 | exact sz8 | apply Sz.mul | apply Sz.add | apply Sz.sub | apply Sz.pow2 | apply Sz.pow3 | apply Sz.pow4)); (case hz_b => repeat' (first | assumption | exact ivF_szP | exact sz0 | exact sz1 | exact sz2 | exact sz3 | exact sz4 | exact sz8 | apply Sz.mul | apply Sz.add | apply Sz.sub | apply Sz.pow2 | apply Sz.pow3 | apply Sz.pow4)); (case hz_c => decide); (case hz_d => decide); intro _ _; (try dsimp only))
    | ((with_reducible refine' mulS ?hz_a ?hz_b ?hz_c ?hz_d ?_); (case hz_a => repeat' (first | assumption | exact ivF_szP | exact sz0 | exact sz1 | exact sz2 | exact sz3 | exact sz4 | exact sz8 | apply Sz.mul | apply Sz.add | apply Sz.sub | apply Sz.pow2 | apply Sz.pow3 | apply Sz.pow4)); (case hz_b => repeat' (first | assumption | exact ivF_szP | exact sz0 | exact sz1 | exact sz2 | exact sz3 | exact sz4 | exact sz8 | apply Sz.mul | apply Sz.add | apply Sz.sub | apply Sz.pow2 | apply Sz.pow3 | apply Sz.pow4)); (case hz_c => decide); (case hz_d => decide); intro _ _; (try dsimp only))
    | walk1
    | (dsimp only; walk1)
    | (leave1; walk_say "STEP leave1"; try dsimp only)
    | fail "no step")
  all_goals clear hd hu B' X' T' C
  all_goals
    rename Fr _ _ _ _ => F9
    rename News _ _ _ _ => N9
    have st := end_stays hs ho F9 N9 (fun q hq => List.mem_cons_of_mem _ hq)
    have fr := NewOr.trans1 hs N9 (List.mem_cons_self ..)
    have e := (N9 _ (List.mem_cons_self ..)).1
    clear F9 N9
    dsimp only [jmF] at e hQ ⊢
    exact hQ _ _ _ _ _ _ _ st e fr
theorem jmUse {w : World} {d : Nat} (IH : JmC w d) {A : Around} {s : Shared} {Q E : Value → Shared → Prop} {p : Addr} {r : I3} {n : Int} {tn t1 t2 t3 : Tok} {c : Nat}
   (C : Cx w (d + 3) (20 * d + 40) A s.heap [(p, tupJ r t1 t2 t3 c)]) (hr : Sz3 r) (h0 : 0 ≤ n) (h1 : n < 2 ^ d)
   (hQ : ∀ D u1 u2 u3 k1 h' k, s.heap.StaysIn h' → h'.get? D = some (tupJ (jmF d r n) u1 u2 u3 k1) → NewOr [(p, tupJ r t1 t2 t3 c)] s.heap D → Q (.ref D) { s with heap := h', toks := k }) :
   wpAny (model PG w) A (call (.ref 130) [.ref p, .int n tn]) Q E s := IH C hr h0 h1 hQ
theorem pow_NN {n : Int} {d : Nat} (hd : d ≤ 20) (h : n < 2 ^ (d + 1)) : n < NN := by
  have h1 : (2 : Nat) ^ (d + 1) ≤ 2 ^ 21 := Nat.pow_le_pow_right (by decide) (Nat.succ_le_succ hd)
  have e : ((2 : Int) ^ (d + 1)) = ((2 ^ (d + 1) : Nat) : Int) := by rw [Int.natCast_pow]; rfl
  rw [e] at h
  have h2 : ((2 ^ (d + 1) : Nat) : Int) ≤ ((2 ^ 21 : Nat) : Int) := Int.ofNat_le.mpr h1
  exact Int.lt_of_lt_of_le h (Int.le_trans h2 (by decide))
theorem half_lt {n : Int} {d : Nat} (h : n < 2 ^ (d + 1)) : n / 2 < 2 ^ d := by
  rw [Int.pow_succ] at h
  exact Int.ediv_lt_of_lt_mul (by decide) h
theorem jmS {w : World} {d : Nat} (hd20 : d ≤ 20) (IH : JmC w d) : JmC w (d + 1) := by
  intro A s Q E p r n tn t1 t2 t3 c C hr hn hn' hQ
  have hnN : n < 115792089237316195423570985008687907852837564279074904382605163141518161494337 := pow_NN hd20 hn'
  refine wpAny_call ?_
  refine enter (binds := [(PySem.Str.ofString "a", .ref p), (PySem.Str.ofString "n", .int n tn)]) C (by k_is) (by k_is) (BindsTo.of_eq rfl) (locs rfl) rfl rfl rfl (by decide) ?_
  intro dp un gd cn cs a ccd cl outer base g h₁ L L' p' loose mean mg mb hd hu F' N' B' X' T' hs hg ho
  k_fold
  repeat' (first
    | (k_unfold; (try dsimp only))
    | (k_end; wrow_close)
    | with_reducible ( (with_reducible show wpAny _ _ (call (Value.ref 130) [Value.ref _, Value.int _ _]) _ _ _); (refine' jmUse ?hz_IH (Cx.of ?hz_B ?hz_F ?hz_X ?hz_T ?hz_K ?hz_d ?hz_u ?hz_N ?hz_S) ?hz_z ?hz_h0 ?hz_h1 ?_); (case hz_IH => assumption); (case hz_B => k_asm); (case hz_F => k_asm); (case hz_X => k_asm); (case hz_T => k_asm); (case hz_K => first | exact rfl | assumption); (case hz_N => k_asm); (case hz_d => dsimp only; first | exact room1 (by assumption) (by decide) | exact roomA (by assumption) | exact roomB (by assumption) (by decide) | omega); (case hz_u => dsimp only; first | exact room1 (by assumption) (by decide) | exact roomC (by assumption) | exact roomE (by assumption) (by decide) | omega); (case hz_S => (intro q hq; rw [List.mem_singleton] at hq; subst hq; k_mem)); (case hz_z => assumption); (case hz_h0 => first | assumption | exact Int.ediv_nonneg (by assumption) (by decide) | omega); (case hz_h1 => exact half_lt (by assumption)); intro D' _ _ _ _ h' _ st' hD' fr'; (have F' := Fr.stay (by k_asm) st'); (have N' := News.newOr (by k_asm) (by k_asm) st' hD' fr' (by intro q hq; rw [List.mem_singleton] at hq; subst hq; k_mem)); (try dsimp only); (try k_fold))
    | ( (with_reducible show wpAny _ _ (call (Value.ref 130) [Value.ref _, Value.int _ _]) _ _ _); (refine' jmUse ?hz_IH (Cx.of ?hz_B ?hz_F ?hz_X ?hz_T ?hz_K ?hz_d ?hz_u ?hz_N ?hz_S) ?hz_z ?hz_h0 ?hz_h1 ?_); (case hz_IH => assumption); (case hz_B => k_asm); (case hz_F => k_asm); (case hz_X => k_asm); (case hz_T => k_asm); (case hz_K => first | exact rfl | assumption); (case hz_N => k_asm); (case hz_d => dsimp only; first | exact room1 (by assumption) (by decide) | exact roomA (by assumption) | exact roomB (by assumption) (by decide) | omega); (case hz_u => dsimp only; first | exact room1 (by assumption) (by decide) | exact roomC (by assumption) | exact roomE (by assumption) (by decide) | omega); (case hz_S => (intro q hq; rw [List.mem_singleton] at hq; subst hq; k_mem)); (case hz_z => assumption); (case hz_h0 => first | assumption | exact Int.ediv_nonneg (by assumption) (by decide) | omega); (case hz_h1 => exact half_lt (by assumption)); intro D' _ _ _ _ h' _ st' hD' fr'; (have F' := Fr.stay (by k_asm) st'); (have N' := News.newOr (by k_asm) (by k_asm) st' hD' fr' (by intro q hq; rw [List.mem_singleton] at hq; subst hq; k_mem)); (try dsimp only); (try k_fold))
    | with_reducible ((with_reducible refine' modG (b := 2) ?hz_p ?_); (case hz_p => decide); intro _ _ _ hv _ _; subst hv; (try dsimp only))
    | ((with_reducible refine' modG (b := 2) ?hz_p ?_); (case hz_p => decide); intro _ _ _ hv _ _; subst hv; (try dsimp only))
    | with_reducible ((with_reducible refine' divG (n := 2) (b := 2) ?hz_p ?hz_a ?hz_c ?_); (case hz_p => decide); (case hz_a => exact sz2); (case hz_c => decide); intro v _ _ hv; subst hv; (try dsimp only))
    | ((with_reducible refine' divG (n := 2) (b := 2) ?hz_p ?hz_a ?hz_c ?_); (case hz_p => decide); (case hz_a => exact sz2); (case hz_c => decide); intro v _ _ hv; subst hv; (try dsimp only))
    | with_reducible ( (with_reducible show wpAny _ _ (call (Value.ref 116) [Value.ref _, Value.ref _]) _ _ _); (refine' jadd (Cx.of ?hz_B ?hz_F ?hz_X ?hz_T ?hz_K ?hz_d ?hz_u ?hz_N ?hz_S) ?hz_z ?hz_z' ?_); (case hz_B => k_asm); (case hz_F => k_asm); (case hz_X => k_asm); (case hz_T => k_asm); (case hz_K => first | exact rfl | assumption); (case hz_N => k_asm); (case hz_d => dsimp only; first | exact room1 (by assumption) (by decide) | exact roomA (by assumption) | exact roomB (by assumption) (by decide) | omega); (case hz_u => dsimp only; first | exact room1 (by assumption) (by decide) | exact roomC (by assumption) | exact roomE (by assumption) (by decide) | omega); (case hz_S => (intro q hq; rw [List.mem_cons, List.mem_singleton] at hq; rcases hq with hq | hq <;> subst hq <;> k_mem)); (case hz_z => exact jdF_sz _); (case hz_z' => assumption); intro D' _ _ _ _ h' _ st' hD' fr'; (have F' := Fr.stay (by k_asm) st'); (have N' := News.newOr (by k_asm) (by k_asm) st' hD' fr' (by intro q hq; rw [List.mem_cons, List.mem_singleton] at hq; rcases hq with hq | hq <;> subst hq <;> k_mem)); (try dsimp only); (try k_fold))
    | ( (with_reducible show wpAny _ _ (call (Value.ref 116) [Value.ref _, Value.ref _]) _ _ _); (refine' jadd (Cx.of ?hz_B ?hz_F ?hz_X ?hz_T ?hz_K ?hz_d ?hz_u ?hz_N ?hz_S) ?hz_z ?hz_z' ?_); (case hz_B => k_asm); (case hz_F => k_asm); (case hz_X => k_asm); (case hz_T => k_asm); (case hz_K => first | exact rfl | assumption); (case hz_N => k_asm); (case hz_d => dsimp only; first | exact room1 (by assumption) (by decide) | exact roomA (by assumption) | exact roomB (by assumption) (by decide) | omega); (case hz_u => dsimp only; first | exact room1 (by assumption) (by decide) | exact roomC (by assumption) | exact roomE (by assumption) (by decide) | omega); (case hz_S => (intro q hq; rw [List.mem_cons, List.mem_singleton] at hq; rcases hq with hq | hq <;> subst hq <;> k_mem)); (case hz_z => exact jdF_sz _); (case hz_z' => assumption); intro D' _ _ _ _ h' _ st' hD' fr'; (have F' := Fr.stay (by k_asm) st'); (have N' := News.newOr (by k_asm) (by k_asm) st' hD' fr' (by intro q hq; rw [List.mem_cons, List.mem_singleton] at hq; rcases hq with hq | hq <;> subst hq <;> k_mem)); (try dsimp only); (try k_fold))
    | with_reducible ( (with_reducible show wpAny _ _ (call (Value.ref 109) [Value.ref _]) _ _ _); (refine' jdbl (Cx.of ?hz_B ?hz_F ?hz_X ?hz_T ?hz_K ?hz_d ?hz_u ?hz_N ?hz_S) ?hz_z ?_); (case hz_B => k_asm); (case hz_F => k_asm); (case hz_X => k_asm); (case hz_T => k_asm); (case hz_K => first | exact rfl | assumption); (case hz_N => k_asm); (case hz_d => dsimp only; first | exact room1 (by assumption) (by decide) | exact roomA (by assumption) | exact roomB (by assumption) (by decide) | omega); (case hz_u => dsimp only; first | exact room1 (by assumption) (by decide) | exact roomC (by assumption) | exact roomE (by assumption) (by decide) | omega); (case hz_S => (intro q hq; rw [List.mem_singleton] at hq; subst hq; k_mem)); (case hz_z => exact jmF_sz (by assumption) _ _); intro D' _ _ _ _ h' _ st' hD' fr'; (have F' := Fr.stay (by k_asm) st'); (have N' := News.fresh_cons (by k_asm) (by k_asm) st' hD' fr'); (try dsimp only); (try k_fold))
    | ( (with_reducible show wpAny _ _ (call (Value.ref 109) [Value.ref _]) _ _ _); (refine' jdbl (Cx.of ?hz_B ?hz_F ?hz_X ?hz_T ?hz_K ?hz_d ?hz_u ?hz_N ?hz_S) ?hz_z ?_); (case hz_B => k_asm); (case hz_F => k_asm); (case hz_X => k_asm); (case hz_T => k_asm); (case hz_K => first | exact rfl | assumption); (case hz_N => k_asm); (case hz_d => dsimp only; first | exact room1 (by assumption) (by decide) | exact roomA (by assumption) | exact roomB (by assumption) (by decide) | omega); (case hz_u => dsimp only; first | exact room1 (by assumption) (by decide) | exact roomC (by assumption) | exact roomE (by assumption) (by decide) | omega); (case hz_S => (intro q hq; rw [List.mem_singleton] at hq; subst hq; k_mem)); (case hz_z => exact jmF_sz (by assumption) _ _); intro D' _ _ _ _ h' _ st' hD' fr'; (have F' := Fr.stay (by k_asm) st'); (have N' := News.fresh_cons (by k_asm) (by k_asm) st' hD' fr'); (try dsimp only); (try k_fold))
    | with_reducible ( (with_reducible show wpAny _ _ (call (Value.ref 95) [Value.int _ _, Value.int _ _]) _ _ _); (refine' inv_ (Cx.of ?hz_B ?hz_F ?hz_X ?hz_T ?hz_K ?hz_d ?hz_u ?hz_N ?hz_S) ?hz_n ?hz_z ?_); (case hz_B => k_asm); (case hz_F => k_asm); (case hz_X => k_asm); (case hz_T => k_asm); (case hz_K => first | exact rfl | assumption); (case hz_N => k_asm); (case hz_d => dsimp only; first | exact room1 (by assumption) (by decide) | exact roomA (by assumption) | exact roomB (by assumption) (by decide) | omega); (case hz_u => dsimp only; first | exact room1 (by assumption) (by decide) | exact roomC (by assumption) | exact roomE (by assumption) (by decide) | omega); (case hz_S => exact nsub_Jac2); (case hz_n => decide); (case hz_z => first | exact szPP | exact szNN); intro _ h' _ st'; (have F' := Fr.stay (by k_asm) st'); (have N' := News.stay (by k_asm) st'); (try dsimp only); (try k_fold))
    | ( (with_reducible show wpAny _ _ (call (Value.ref 95) [Value.int _ _, Value.int _ _]) _ _ _); (refine' inv_ (Cx.of ?hz_B ?hz_F ?hz_X ?hz_T ?hz_K ?hz_d ?hz_u ?hz_N ?hz_S) ?hz_n ?hz_z ?_); (case hz_B => k_asm); (case hz_F => k_asm); (case hz_X => k_asm); (case hz_T => k_asm); (case hz_K => first | exact rfl | assumption); (case hz_N => k_asm); (case hz_d => dsimp only; first | exact room1 (by assumption) (by decide) | exact roomA (by assumption) | exact roomB (by assumption) (by decide) | omega); (case hz_u => dsimp only; first | exact room1 (by assumption) (by decide) | exact roomC (by assumption) | exact roomE (by assumption) (by decide) | omega); (case hz_S => exact nsub_Jac2); (case hz_n => decide); (case hz_z => first | exact szPP | exact szNN); intro _ h' _ st'; (have F' := Fr.stay (by k_asm) st'); (have N' := News.stay (by k_asm) st'); (try dsimp only); (try k_fold))
    | with_reducible ((with_reducible refine' modP ?_); intro _ _ _ _ _; (try dsimp only))
    | ((with_reducible refine' modP ?_); intro _ _ _ _ _; (try dsimp only))
    | with_reducible (first | ((with_reducible refine' pow2S ?hz_a ?hz_c ?_); (case hz_a => repeat' (first | assumption | exact ivF_szP | exact sz0 | exact sz1 | exact sz2 | exact sz3 | exact sz4 | exact sz8 | apply Sz.mul | apply Sz.add | apply Sz.sub | apply Sz.pow2 | apply Sz.pow3 | apply Sz.pow4)); (case hz_c => decide)) | ((with_reducible refine' pow3S ?hz_a ?hz_c ?_); (case hz_a => repeat' (first | assumption | exact ivF_szP | exact sz0 | exact sz1 | exact sz2 | exact sz3 | exact sz4 | exact sz8 | apply Sz.mul | apply Sz.add | apply Sz.sub | apply Sz.pow2 | apply Sz.pow3 | apply Sz.pow4)); (case hz_c => decide)) | ((with_reducible refine' pow4S ?hz_a ?hz_c ?_); (case hz_a => repeat' (first | assumption | exact ivF_szP | exact sz0 | exact sz1 | exact sz2 | exact sz3 | exact sz4 | exact sz8 | apply Sz.mul | apply Sz.add | apply Sz.sub | apply Sz.pow2 | apply Sz.pow3 | apply Sz.pow4)); (case hz_c => decide))); intro _ _; (try dsimp only)
    | (first | ((with_reducible refine' pow2S ?hz_a ?hz_c ?_); (case hz_a => repeat' (first | assumption | exact ivF_szP | exact sz0 | exact sz1 | exact sz2 | exact sz3 | exact sz4 | exact sz8 | apply Sz.mul | apply Sz.add | apply Sz.sub | apply Sz.pow2 | apply Sz.pow3 | apply Sz.pow4)); (case hz_c => decide)) | ((with_reducible refine' pow3S ?hz_a ?hz_c ?_); (case hz_a => repeat' (first | assumption | exact ivF_szP | exact sz0 | exact sz1 | exact sz2 | exact sz3 | exact sz4 | exact sz8 | apply Sz.mul | apply Sz.add | apply Sz.sub | apply Sz.pow2 | apply Sz.pow3 | apply Sz.pow4)); (case hz_c => decide)) | ((with_reducible refine' pow4S ?hz_a ?hz_c ?_); (case hz_a => repeat' (first | assumption | exact ivF_szP | exact sz0 | exact sz1 | exact sz2 | exact sz3 | exact sz4 | exact sz8 | apply Sz.mul | apply Sz.add | apply Sz.sub | apply Sz.pow2 | apply Sz.pow3 | apply Sz.pow4)); (case hz_c => decide))); intro _ _; (try dsimp only)
    | with_reducible ((with_reducible refine' mulS ?hz_a ?hz_b ?hz_c ?hz_d ?_); (case hz_a => repeat' (first | assumption | exact ivF_szP | exact sz0 | exact sz1 | exact sz2 | exact sz3 | exact sz4 | exact sz8 | apply Sz.mul | apply Sz.add | apply Sz.sub | apply Sz.pow2 | apply Sz.pow3 | apply Sz.pow4)); (case hz_b => repeat' (first | assumption | exact ivF_szP | exact sz0 | exact sz1 | exact sz2 | exact sz3 | exact sz4 | exact sz8 | apply Sz.mul | apply Sz.add | apply Sz.sub | apply Sz.pow2 | apply Sz.pow3 | apply Sz.pow4)); (case hz_c => decide); (case hz_d => decide); intro _ _; (try dsimp only))
    | ((with_reducible refine' mulS ?hz_a ?hz_b ?hz_c ?hz_d ?_); (case hz_a => repeat' (first | assumption | exact ivF_szP | exact sz0 | exact sz1 | exact sz2 | exact sz3 | exact sz4 | exact sz8 | apply Sz.mul | apply Sz.add | apply Sz.sub | apply Sz.pow2 | apply Sz.pow3 | apply Sz.pow4)); (case hz_b => repeat' (first | assumption | exact ivF_szP | exact sz0 | exact sz1 | exact sz2 | exact sz3 | exact sz4 | exact sz8 | apply Sz.mul | apply Sz.add | apply Sz.sub | apply Sz.pow2 | apply Sz.pow3 | apply Sz.pow4)); (case hz_c => decide); (case hz_d => decide); intro _ _; (try dsimp only))
    | walk1
    | (dsimp only; walk1)
    | (leave1; walk_say "STEP leave1"; try dsimp only)
    | fail "no step")
  all_goals (try (exfalso; first | exact mod2X (by assumption) (by assumption) | exact rangeX (by assumption) (by assumption) | omega))
  all_goals clear hd hu B' X' T' C
  all_goals (rename Fr _ _ _ _ => F9; rename News _ _ _ _ => N9)
  · have st := end_stays hs ho F9 N9 (fun q hq => List.mem_cons_of_mem _ hq)
    have fr := NewOr.trans1 hs N9 (List.mem_cons_self ..)
    have e := (N9 _ (List.mem_cons_self ..)).1
    clear F9 N9
    rw [jmF_zero (.inl (by assumption))] at hQ
    dsimp only at e ⊢
    exact hQ _ _ _ _ _ _ _ st e fr
  · have st := end_stays hs ho F9 N9 (fun q hq => List.mem_cons_of_mem _ hq)
    have fr := NewOr.trans1 hs N9 (List.mem_cons_self ..)
    have e := (N9 _ (List.mem_cons_self ..)).1
    clear F9 N9
    rw [jmF_zero (.inr (by assumption))] at hQ
    dsimp only at e ⊢
    exact hQ _ _ _ _ _ _ _ st e fr
  · have st := end_stays hs ho F9 N9 (fun q hq => hq)
    have fr := NewOr.trans1 hs N9 (List.mem_cons_self ..)
    have e := (N9 _ (List.mem_cons_self ..)).1
    clear F9 N9
    rw [jmF_one (by assumption) (by assumption)] at hQ
    dsimp only at e ⊢
    exact hQ _ _ _ _ _ _ _ st e fr
  · have st := end_stays hs ho F9 N9 (fun q hq => List.mem_cons_of_mem _ (List.mem_cons_of_mem _ hq))
    have fr := NewOr.trans1 hs N9 (List.mem_cons_self ..)
    have e := (N9 _ (List.mem_cons_self ..)).1
    clear F9 N9
    rw [jmF_even (by assumption) (by assumption) (by assumption) (by assumption)] at hQ
    dsimp only at e ⊢
    exact hQ _ _ _ _ _ _ _ st e fr
  · have st := end_stays hs ho F9 N9 (fun q hq => List.mem_cons_of_mem _ (List.mem_cons_of_mem _ (List.mem_cons_of_mem _ hq)))
    have fr := NewOr.trans1 hs N9 (List.mem_cons_self ..)
    have e := (N9 _ (List.mem_cons_self ..)).1
    clear F9 N9
    rw [jmF_odd (by assumption) (by assumption) (by assumption) (by assumption)] at hQ
    dsimp only at e ⊢
    exact hQ _ _ _ _ _ _ _ st e fr
theorem jmAll {w : World} : ∀ d : Nat, d ≤ 20 → JmC w d
  | 0, _ => jm0
  | d + 1, h => jmS (Nat.le_of_succ_le h) (jmAll d (Nat.le_of_succ_le h))

noncomputable abbrev GG : I3 := (55066263022277343669578718895168534326250603453777594175500187360389116729240, 32670510020758816978083085130507043184471273380659243275938904335757337482424, 1)
theorem GG_sz : Sz3 GG := ⟨by unfold Sz; decide, by unfold Sz; decide, by unfold Sz; decide⟩
noncomputable def fmF (k : Int) : Int × Int := fjF (jmF 10 GG k)
theorem tojacG {w : World} {A : Around} {s : Shared} {Q E : Value → Shared → Prop}
   (C : Cx w 1 8 A s.heap [])
   (hQ : ∀ D t1 t2 t3 c h' k, s.heap.StaysIn h' → h'.get? D = some (tupJ GG t1 t2 t3 c) → s.heap.get? D = none → Q (.ref D) { s with heap := h', toks := k }) :
   wpAny (model PG w) A (call (.ref 102) [.ref 81]) Q E s := by
  refine wpAny_call ?_
  refine enter (binds := [(PySem.Str.ofString "p", .ref 81)]) C (by k_is) (by k_is) (BindsTo.of_eq rfl) (locs rfl) rfl rfl rfl (by decide) ?_
  intro dp un gd cn cs a ccd cl outer base g h₁ L L' p' loose mean mg mb hd hu F' N' B' X' T' hs hg ho
  k_fold
  repeat' (first
    | (k_unfold; (try dsimp only))
    | (k_end; wrow_close)
    | with_reducible ( (with_reducible show wpAny _ _ (call (Value.ref 130) [Value.ref _, Value.int _ _]) _ _ _); (refine' jmUse ?hz_IH (Cx.of ?hz_B ?hz_F ?hz_X ?hz_T ?hz_K ?hz_d ?hz_u ?hz_N ?hz_S) ?hz_z ?hz_h0 ?hz_h1 ?_); (case hz_IH => assumption); (case hz_B => k_asm); (case hz_F => k_asm); (case hz_X => k_asm); (case hz_T => k_asm); (case hz_K => first | exact rfl | assumption); (case hz_N => k_asm); (case hz_d => dsimp only; first | exact room1 (by assumption) (by decide) | exact roomA (by assumption) | exact roomB (by assumption) (by decide) | omega); (case hz_u => dsimp only; first | exact room1 (by assumption) (by decide) | exact roomC (by assumption) | exact roomE (by assumption) (by decide) | omega); (case hz_S => (intro q hq; rw [List.mem_singleton] at hq; subst hq; k_mem)); (case hz_z => assumption); (case hz_h0 => first | assumption | exact Int.ediv_nonneg (by assumption) (by decide) | omega); (case hz_h1 => exact half_lt (by assumption)); intro D' _ _ _ _ h' _ st' hD' fr'; (have F' := Fr.stay (by k_asm) st'); (have N' := News.newOr (by k_asm) (by k_asm) st' hD' fr' (by intro q hq; rw [List.mem_singleton] at hq; subst hq; k_mem)); (try dsimp only); (try k_fold))
    | ( (with_reducible show wpAny _ _ (call (Value.ref 130) [Value.ref _, Value.int _ _]) _ _ _); (refine' jmUse ?hz_IH (Cx.of ?hz_B ?hz_F ?hz_X ?hz_T ?hz_K ?hz_d ?hz_u ?hz_N ?hz_S) ?hz_z ?hz_h0 ?hz_h1 ?_); (case hz_IH => assumption); (case hz_B => k_asm); (case hz_F => k_asm); (case hz_X => k_asm); (case hz_T => k_asm); (case hz_K => first | exact rfl | assumption); (case hz_N => k_asm); (case hz_d => dsimp only; first | exact room1 (by assumption) (by decide) | exact roomA (by assumption) | exact roomB (by assumption) (by decide) | omega); (case hz_u => dsimp only; first | exact room1 (by assumption) (by decide) | exact roomC (by assumption) | exact roomE (by assumption) (by decide) | omega); (case hz_S => (intro q hq; rw [List.mem_singleton] at hq; subst hq; k_mem)); (case hz_z => assumption); (case hz_h0 => first | assumption | exact Int.ediv_nonneg (by assumption) (by decide) | omega); (case hz_h1 => exact half_lt (by assumption)); intro D' _ _ _ _ h' _ st' hD' fr'; (have F' := Fr.stay (by k_asm) st'); (have N' := News.newOr (by k_asm) (by k_asm) st' hD' fr' (by intro q hq; rw [List.mem_singleton] at hq; subst hq; k_mem)); (try dsimp only); (try k_fold))
    | with_reducible ((with_reducible refine' modG (b := 2) ?hz_p ?_); (case hz_p => decide); intro _ _ _ hv _ _; subst hv; (try dsimp only))
    | ((with_reducible refine' modG (b := 2) ?hz_p ?_); (case hz_p => decide); intro _ _ _ hv _ _; subst hv; (try dsimp only))
    | with_reducible ((with_reducible refine' divG (n := 2) (b := 2) ?hz_p ?hz_a ?hz_c ?_); (case hz_p => decide); (case hz_a => exact sz2); (case hz_c => decide); intro v _ _ hv; subst hv; (try dsimp only))
    | ((with_reducible refine' divG (n := 2) (b := 2) ?hz_p ?hz_a ?hz_c ?_); (case hz_p => decide); (case hz_a => exact sz2); (case hz_c => decide); intro v _ _ hv; subst hv; (try dsimp only))
    | with_reducible ( (with_reducible show wpAny _ _ (call (Value.ref 116) [Value.ref _, Value.ref _]) _ _ _); (refine' jadd (Cx.of ?hz_B ?hz_F ?hz_X ?hz_T ?hz_K ?hz_d ?hz_u ?hz_N ?hz_S) ?hz_z ?hz_z' ?_); (case hz_B => k_asm); (case hz_F => k_asm); (case hz_X => k_asm); (case hz_T => k_asm); (case hz_K => first | exact rfl | assumption); (case hz_N => k_asm); (case hz_d => dsimp only; first | exact room1 (by assumption) (by decide) | exact roomA (by assumption) | exact roomB (by assumption) (by decide) | omega); (case hz_u => dsimp only; first | exact room1 (by assumption) (by decide) | exact roomC (by assumption) | exact roomE (by assumption) (by decide) | omega); (case hz_S => (intro q hq; rw [List.mem_cons, List.mem_singleton] at hq; rcases hq with hq | hq <;> subst hq <;> k_mem)); (case hz_z => exact jdF_sz _); (case hz_z' => assumption); intro D' _ _ _ _ h' _ st' hD' fr'; (have F' := Fr.stay (by k_asm) st'); (have N' := News.newOr (by k_asm) (by k_asm) st' hD' fr' (by intro q hq; rw [List.mem_cons, List.mem_singleton] at hq; rcases hq with hq | hq <;> subst hq <;> k_mem)); (try dsimp only); (try k_fold))
    | ( (with_reducible show wpAny _ _ (call (Value.ref 116) [Value.ref _, Value.ref _]) _ _ _); (refine' jadd (Cx.of ?hz_B ?hz_F ?hz_X ?hz_T ?hz_K ?hz_d ?hz_u ?hz_N ?hz_S) ?hz_z ?hz_z' ?_); (case hz_B => k_asm); (case hz_F => k_asm); (case hz_X => k_asm); (case hz_T => k_asm); (case hz_K => first | exact rfl | assumption); (case hz_N => k_asm); (case hz_d => dsimp only; first | exact room1 (by assumption) (by decide) | exact roomA (by assumption) | exact roomB (by assumption) (by decide) | omega); (case hz_u => dsimp only; first | exact room1 (by assumption) (by decide) | exact roomC (by assumption) | exact roomE (by assumption) (by decide) | omega); (case hz_S => (intro q hq; rw [List.mem_cons, List.mem_singleton] at hq; rcases hq with hq | hq <;> subst hq <;> k_mem)); (case hz_z => exact jdF_sz _); (case hz_z' => assumption); intro D' _ _ _ _ h' _ st' hD' fr'; (have F' := Fr.stay (by k_asm) st'); (have N' := News.newOr (by k_asm) (by k_asm) st' hD' fr' (by intro q hq; rw [List.mem_cons, List.mem_singleton] at hq; rcases hq with hq | hq <;> subst hq <;> k_mem)); (try dsimp only); (try k_fold))
    | with_reducible ( (with_reducible show wpAny _ _ (call (Value.ref 109) [Value.ref _]) _ _ _); (refine' jdbl (Cx.of ?hz_B ?hz_F ?hz_X ?hz_T ?hz_K ?hz_d ?hz_u ?hz_N ?hz_S) ?hz_z ?_); (case hz_B => k_asm); (case hz_F => k_asm); (case hz_X => k_asm); (case hz_T => k_asm); (case hz_K => first | exact rfl | assumption); (case hz_N => k_asm); (case hz_d => dsimp only; first | exact room1 (by assumption) (by decide) | exact roomA (by assumption) | exact roomB (by assumption) (by decide) | omega); (case hz_u => dsimp only; first | exact room1 (by assumption) (by decide) | exact roomC (by assumption) | exact roomE (by assumption) (by decide) | omega); (case hz_S => (intro q hq; rw [List.mem_singleton] at hq; subst hq; k_mem)); (case hz_z => exact jmF_sz (by assumption) _ _); intro D' _ _ _ _ h' _ st' hD' fr'; (have F' := Fr.stay (by k_asm) st'); (have N' := News.fresh_cons (by k_asm) (by k_asm) st' hD' fr'); (try dsimp only); (try k_fold))
    | ( (with_reducible show wpAny _ _ (call (Value.ref 109) [Value.ref _]) _ _ _); (refine' jdbl (Cx.of ?hz_B ?hz_F ?hz_X ?hz_T ?hz_K ?hz_d ?hz_u ?hz_N ?hz_S) ?hz_z ?_); (case hz_B => k_asm); (case hz_F => k_asm); (case hz_X => k_asm); (case hz_T => k_asm); (case hz_K => first | exact rfl | assumption); (case hz_N => k_asm); (case hz_d => dsimp only; first | exact room1 (by assumption) (by decide) | exact roomA (by assumption) | exact roomB (by assumption) (by decide) | omega); (case hz_u => dsimp only; first | exact room1 (by assumption) (by decide) | exact roomC (by assumption) | exact roomE (by assumption) (by decide) | omega); (case hz_S => (intro q hq; rw [List.mem_singleton] at hq; subst hq; k_mem)); (case hz_z => exact jmF_sz (by assumption) _ _); intro D' _ _ _ _ h' _ st' hD' fr'; (have F' := Fr.stay (by k_asm) st'); (have N' := News.fresh_cons (by k_asm) (by k_asm) st' hD' fr'); (try dsimp only); (try k_fold))
    | with_reducible ( (with_reducible show wpAny _ _ (call (Value.ref 95) [Value.int _ _, Value.int _ _]) _ _ _); (refine' inv_ (Cx.of ?hz_B ?hz_F ?hz_X ?hz_T ?hz_K ?hz_d ?hz_u ?hz_N ?hz_S) ?hz_n ?hz_z ?_); (case hz_B => k_asm); (case hz_F => k_asm); (case hz_X => k_asm); (case hz_T => k_asm); (case hz_K => first | exact rfl | assumption); (case hz_N => k_asm); (case hz_d => dsimp only; first | exact room1 (by assumption) (by decide) | exact roomA (by assumption) | exact roomB (by assumption) (by decide) | omega); (case hz_u => dsimp only; first | exact room1 (by assumption) (by decide) | exact roomC (by assumption) | exact roomE (by assumption) (by decide) | omega); (case hz_S => exact nsub_Jac2); (case hz_n => decide); (case hz_z => first | exact szPP | exact szNN); intro _ h' _ st'; (have F' := Fr.stay (by k_asm) st'); (have N' := News.stay (by k_asm) st'); (try dsimp only); (try k_fold))
    | ( (with_reducible show wpAny _ _ (call (Value.ref 95) [Value.int _ _, Value.int _ _]) _ _ _); (refine' inv_ (Cx.of ?hz_B ?hz_F ?hz_X ?hz_T ?hz_K ?hz_d ?hz_u ?hz_N ?hz_S) ?hz_n ?hz_z ?_); (case hz_B => k_asm); (case hz_F => k_asm); (case hz_X => k_asm); (case hz_T => k_asm); (case hz_K => first | exact rfl | assumption); (case hz_N => k_asm); (case hz_d => dsimp only; first | exact room1 (by assumption) (by decide) | exact roomA (by assumption) | exact roomB (by assumption) (by decide) | omega); (case hz_u => dsimp only; first | exact room1 (by assumption) (by decide) | exact roomC (by assumption) | exact roomE (by assumption) (by decide) | omega); (case hz_S => exact nsub_Jac2); (case hz_n => decide); (case hz_z => first | exact szPP | exact szNN); intro _ h' _ st'; (have F' := Fr.stay (by k_asm) st'); (have N' := News.stay (by k_asm) st'); (try dsimp only); (try k_fold))
    | with_reducible ((with_reducible refine' modP ?_); intro _ _ _ _ _; (try dsimp only))
    | ((with_reducible refine' modP ?_); intro _ _ _ _ _; (try dsimp only))
    | with_reducible (first | ((with_reducible refine' pow2S ?hz_a ?hz_c ?_); (case hz_a => repeat' (first | assumption | exact ivF_szP | exact sz0 | exact sz1 | exact sz2 | exact sz3 | exact sz4 | exact sz8 | apply Sz.mul | apply Sz.add | apply Sz.sub | apply Sz.pow2 | apply Sz.pow3 | apply Sz.pow4)); (case hz_c => decide)) | ((with_reducible refine' pow3S ?hz_a ?hz_c ?_); (case hz_a => repeat' (first | assumption | exact ivF_szP | exact sz0 | exact sz1 | exact sz2 | exact sz3 | exact sz4 | exact sz8 | apply Sz.mul | apply Sz.add | apply Sz.sub | apply Sz.pow2 | apply Sz.pow3 | apply Sz.pow4)); (case hz_c => decide)) | ((with_reducible refine' pow4S ?hz_a ?hz_c ?_); (case hz_a => repeat' (first | assumption | exact ivF_szP | exact sz0 | exact sz1 | exact sz2 | exact sz3 | exact sz4 | exact sz8 | apply Sz.mul | apply Sz.add | apply Sz.sub | apply Sz.pow2 | apply Sz.pow3 | apply Sz.pow4)); (case hz_c => decide))); intro _ _; (try dsimp only)
    | (first | ((with_reducible refine' pow2S ?hz_a ?hz_c ?_); (case hz_a => repeat' (first | assumption | exact ivF_szP | exact sz0 | exact sz1 | exact sz2 | exact sz3 | exact sz4 | exact sz8 | apply Sz.mul | apply Sz.add | apply Sz.sub | apply Sz.pow2 | apply Sz.pow3 | apply Sz.pow4)); (case hz_c => decide)) | ((with_reducible refine' pow3S ?hz_a ?hz_c ?_); (case hz_a => repeat' (first | assumption | exact ivF_szP | exact sz0 | exact sz1 | exact sz2 | exact sz3 | exact sz4 | exact sz8 | apply Sz.mul | apply Sz.add | apply Sz.sub | apply Sz.pow2 | apply Sz.pow3 | apply Sz.pow4)); (case hz_c => decide)) | ((with_reducible refine' pow4S ?hz_a ?hz_c ?_); (case hz_a => repeat' (first | assumption | exact ivF_szP | exact sz0 | exact sz1 | exact sz2 | exact sz3 | exact sz4 | exact sz8 | apply Sz.mul | apply Sz.add | apply Sz.sub | apply Sz.pow2 | apply Sz.pow3 | apply Sz.pow4)); (case hz_c => decide))); intro _ _; (try dsimp only)
    | with_reducible ((with_reducible refine' mulS ?hz_a ?hz_b ?hz_c ?hz_d ?_); (case hz_a => repeat' (first | assumption | exact ivF_szP | exact sz0 | exact sz1 | exact sz2 | exact sz3 | exact sz4 | exact sz8 | apply Sz.mul | apply Sz.add | apply Sz.sub | apply Sz.pow2 | apply Sz.pow3 | apply Sz.pow4)); (case hz_b => repeat' (first | assumption | exact ivF_szP | exact sz0 | exact sz1 | exact sz2 | exact sz3 | exact sz4 | exact sz8 | apply Sz.mul | apply Sz.add | apply Sz.sub | apply Sz.pow2 | apply Sz.pow3 | apply Sz.pow4)); (case hz_c => decide); (case hz_d => decide); intro _ _; (try dsimp only))
    | ((with_reducible refine' mulS ?hz_a ?hz_b ?hz_c ?hz_d ?_); (case hz_a => repeat' (first | assumption | exact ivF_szP | exact sz0 | exact sz1 | exact sz2 | exact sz3 | exact sz4 | exact sz8 | apply Sz.mul | apply Sz.add | apply Sz.sub | apply Sz.pow2 | apply Sz.pow3 | apply Sz.pow4)); (case hz_b => repeat' (first | assumption | exact ivF_szP | exact sz0 | exact sz1 | exact sz2 | exact sz3 | exact sz4 | exact sz8 | apply Sz.mul | apply Sz.add | apply Sz.sub | apply Sz.pow2 | apply Sz.pow3 | apply Sz.pow4)); (case hz_c => decide); (case hz_d => decide); intro _ _; (try dsimp only))
    | walk1
    | (dsimp only; walk1)
    | (leave1; walk_say "STEP leave1"; try dsimp only)
    | fail "no step")
  all_goals clear hd hu B' X' T' C
  rename Fr _ _ _ _ => F9
  rename News _ _ _ _ => N9
  have st := end_stays hs ho F9 N9 (fun q hq => nomatch hq)
  have fr := end_fresh hs N9 (List.mem_cons_self ..) (fun hm => nomatch hm)
  have e := (N9 _ (List.mem_cons_self ..)).1
  clear F9 N9
  dsimp only at e ⊢
  exact hQ _ _ _ _ _ _ _ st e fr
theorem fastmul {w : World} {A : Around} {s : Shared} {Q E : Value → Shared → Prop} {k : Int} {tk : Tok}
   (C : Cx w 20 300 A s.heap []) (h0 : 0 ≤ k) (h1 : k < 2 ^ 10)
   (hQ : ∀ D t1 t2 c h' k', s.heap.StaysIn h' → h'.get? D = some (tup2 (fmF k).1 (fmF k).2 t1 t2 c) → s.heap.get? D = none → Q (.ref D) { s with heap := h', toks := k' }) :
   wpAny (model PG w) A (call (.ref 137) [.ref 81, .int k tk]) Q E s := by
  refine wpAny_call ?_
  refine enter (binds := [(PySem.Str.ofString "a", .ref 81), (PySem.Str.ofString "n", .int k tk)]) C (by k_is) (by k_is) (BindsTo.of_eq rfl) (locs rfl) rfl rfl rfl (by decide) ?_
  intro dp un gd cn cs a ccd cl outer base g h₁ L L' p' loose mean mg mb hd hu F' N' B' X' T' hs hg ho
  k_fold
  repeat' (first
    | (k_unfold; (try dsimp only))
    | (k_end; wrow_close)
    | with_reducible ( (with_reducible show wpAny _ _ (call (Value.ref 123) [Value.ref _]) _ _ _); (refine' fromjac (Cx.of ?hz_B ?hz_F ?hz_X ?hz_T ?hz_K ?hz_d ?hz_u ?hz_N ?hz_S) ?hz_z ?_); (case hz_B => k_asm); (case hz_F => k_asm); (case hz_X => k_asm); (case hz_T => k_asm); (case hz_K => first | exact rfl | assumption); (case hz_N => k_asm); (case hz_d => dsimp only; first | exact room1 (by assumption) (by decide) | exact roomA (by assumption) | exact roomB (by assumption) (by decide) | omega); (case hz_u => dsimp only; first | exact room1 (by assumption) (by decide) | exact roomC (by assumption) | exact roomE (by assumption) (by decide) | omega); (case hz_S => (intro q hq; rw [List.mem_singleton] at hq; subst hq; k_mem)); (case hz_z => exact jmF_sz GG_sz _ _); intro D' _ _ _ h' _ st' hD' fr'; (have F' := Fr.stay (by k_asm) st'); (have N' := News.fresh_cons (by k_asm) (by k_asm) st' hD' fr'); (try dsimp only); (try k_fold))
    | ( (with_reducible show wpAny _ _ (call (Value.ref 123) [Value.ref _]) _ _ _); (refine' fromjac (Cx.of ?hz_B ?hz_F ?hz_X ?hz_T ?hz_K ?hz_d ?hz_u ?hz_N ?hz_S) ?hz_z ?_); (case hz_B => k_asm); (case hz_F => k_asm); (case hz_X => k_asm); (case hz_T => k_asm); (case hz_K => first | exact rfl | assumption); (case hz_N => k_asm); (case hz_d => dsimp only; first | exact room1 (by assumption) (by decide) | exact roomA (by assumption) | exact roomB (by assumption) (by decide) | omega); (case hz_u => dsimp only; first | exact room1 (by assumption) (by decide) | exact roomC (by assumption) | exact roomE (by assumption) (by decide) | omega); (case hz_S => (intro q hq; rw [List.mem_singleton] at hq; subst hq; k_mem)); (case hz_z => exact jmF_sz GG_sz _ _); intro D' _ _ _ h' _ st' hD' fr'; (have F' := Fr.stay (by k_asm) st'); (have N' := News.fresh_cons (by k_asm) (by k_asm) st' hD' fr'); (try dsimp only); (try k_fold))
    | with_reducible ( (with_reducible show wpAny _ _ (call (Value.ref 130) [Value.ref _, Value.int _ _]) _ _ _); (refine' jmUse (jmAll 10 (by decide)) (Cx.of ?hz_B ?hz_F ?hz_X ?hz_T ?hz_K ?hz_d ?hz_u ?hz_N ?hz_S) ?hz_z ?hz_h0 ?hz_h1 ?_); (case hz_B => k_asm); (case hz_F => k_asm); (case hz_X => k_asm); (case hz_T => k_asm); (case hz_K => first | exact rfl | assumption); (case hz_N => k_asm); (case hz_d => dsimp only; first | exact room1 (by assumption) (by decide) | exact roomA (by assumption) | exact roomB (by assumption) (by decide) | omega); (case hz_u => dsimp only; first | exact room1 (by assumption) (by decide) | exact roomC (by assumption) | exact roomE (by assumption) (by decide) | omega); (case hz_S => (intro q hq; rw [List.mem_singleton] at hq; subst hq; k_mem)); (case hz_z => exact GG_sz); (case hz_h0 => assumption); (case hz_h1 => assumption); intro D' _ _ _ _ h' _ st' hD' fr'; (have F' := Fr.stay (by k_asm) st'); (have N' := News.newOr (by k_asm) (by k_asm) st' hD' fr' (by intro q hq; rw [List.mem_singleton] at hq; subst hq; k_mem)); (try dsimp only); (try k_fold))
    | ( (with_reducible show wpAny _ _ (call (Value.ref 130) [Value.ref _, Value.int _ _]) _ _ _); (refine' jmUse (jmAll 10 (by decide)) (Cx.of ?hz_B ?hz_F ?hz_X ?hz_T ?hz_K ?hz_d ?hz_u ?hz_N ?hz_S) ?hz_z ?hz_h0 ?hz_h1 ?_); (case hz_B => k_asm); (case hz_F => k_asm); (case hz_X => k_asm); (case hz_T => k_asm); (case hz_K => first | exact rfl | assumption); (case hz_N => k_asm); (case hz_d => dsimp only; first | exact room1 (by assumption) (by decide) | exact roomA (by assumption) | exact roomB (by assumption) (by decide) | omega); (case hz_u => dsimp only; first | exact room1 (by assumption) (by decide) | exact roomC (by assumption) | exact roomE (by assumption) (by decide) | omega); (case hz_S => (intro q hq; rw [List.mem_singleton] at hq; subst hq; k_mem)); (case hz_z => exact GG_sz); (case hz_h0 => assumption); (case hz_h1 => assumption); intro D' _ _ _ _ h' _ st' hD' fr'; (have F' := Fr.stay (by k_asm) st'); (have N' := News.newOr (by k_asm) (by k_asm) st' hD' fr' (by intro q hq; rw [List.mem_singleton] at hq; subst hq; k_mem)); (try dsimp only); (try k_fold))
    | with_reducible ( (with_reducible show wpAny _ _ (call (Value.ref 102) [Value.ref _]) _ _ _); (refine' tojacG (Cx.of ?hz_B ?hz_F ?hz_X ?hz_T ?hz_K ?hz_d ?hz_u ?hz_N ?hz_S) ?_); (case hz_B => k_asm); (case hz_F => k_asm); (case hz_X => k_asm); (case hz_T => k_asm); (case hz_K => first | exact rfl | assumption); (case hz_N => k_asm); (case hz_d => dsimp only; first | exact room1 (by assumption) (by decide) | exact roomA (by assumption) | exact roomB (by assumption) (by decide) | omega); (case hz_u => dsimp only; first | exact room1 (by assumption) (by decide) | exact roomC (by assumption) | exact roomE (by assumption) (by decide) | omega); (case hz_S => exact nsub_Jac2); intro D' _ _ _ _ h' _ st' hD' fr'; (have F' := Fr.stay (by k_asm) st'); (have N' := News.fresh_cons (by k_asm) (by k_asm) st' hD' fr'); (try dsimp only); (try k_fold))
    | ( (with_reducible show wpAny _ _ (call (Value.ref 102) [Value.ref _]) _ _ _); (refine' tojacG (Cx.of ?hz_B ?hz_F ?hz_X ?hz_T ?hz_K ?hz_d ?hz_u ?hz_N ?hz_S) ?_); (case hz_B => k_asm); (case hz_F => k_asm); (case hz_X => k_asm); (case hz_T => k_asm); (case hz_K => first | exact rfl | assumption); (case hz_N => k_asm); (case hz_d => dsimp only; first | exact room1 (by assumption) (by decide) | exact roomA (by assumption) | exact roomB (by assumption) (by decide) | omega); (case hz_u => dsimp only; first | exact room1 (by assumption) (by decide) | exact roomC (by assumption) | exact roomE (by assumption) (by decide) | omega); (case hz_S => exact nsub_Jac2); intro D' _ _ _ _ h' _ st' hD' fr'; (have F' := Fr.stay (by k_asm) st'); (have N' := News.fresh_cons (by k_asm) (by k_asm) st' hD' fr'); (try dsimp only); (try k_fold))
    | with_reducible ( (with_reducible show wpAny _ _ (call (Value.ref 130) [Value.ref _, Value.int _ _]) _ _ _); (refine' jmUse ?hz_IH (Cx.of ?hz_B ?hz_F ?hz_X ?hz_T ?hz_K ?hz_d ?hz_u ?hz_N ?hz_S) ?hz_z ?hz_h0 ?hz_h1 ?_); (case hz_IH => assumption); (case hz_B => k_asm); (case hz_F => k_asm); (case hz_X => k_asm); (case hz_T => k_asm); (case hz_K => first | exact rfl | assumption); (case hz_N => k_asm); (case hz_d => dsimp only; first | exact room1 (by assumption) (by decide) | exact roomA (by assumption) | exact roomB (by assumption) (by decide) | omega); (case hz_u => dsimp only; first | exact room1 (by assumption) (by decide) | exact roomC (by assumption) | exact roomE (by assumption) (by decide) | omega); (case hz_S => (intro q hq; rw [List.mem_singleton] at hq; subst hq; k_mem)); (case hz_z => assumption); (case hz_h0 => first | assumption | exact Int.ediv_nonneg (by assumption) (by decide) | omega); (case hz_h1 => exact half_lt (by assumption)); intro D' _ _ _ _ h' _ st' hD' fr'; (have F' := Fr.stay (by k_asm) st'); (have N' := News.newOr (by k_asm) (by k_asm) st' hD' fr' (by intro q hq; rw [List.mem_singleton] at hq; subst hq; k_mem)); (try dsimp only); (try k_fold))
    | ( (with_reducible show wpAny _ _ (call (Value.ref 130) [Value.ref _, Value.int _ _]) _ _ _); (refine' jmUse ?hz_IH (Cx.of ?hz_B ?hz_F ?hz_X ?hz_T ?hz_K ?hz_d ?hz_u ?hz_N ?hz_S) ?hz_z ?hz_h0 ?hz_h1 ?_); (case hz_IH => assumption); (case hz_B => k_asm); (case hz_F => k_asm); (case hz_X => k_asm); (case hz_T => k_asm); (case hz_K => first | exact rfl | assumption); (case hz_N => k_asm); (case hz_d => dsimp only; first | exact room1 (by assumption) (by decide) | exact roomA (by assumption) | exact roomB (by assumption) (by decide) | omega); (case hz_u => dsimp only; first | exact room1 (by assumption) (by decide) | exact roomC (by assumption) | exact roomE (by assumption) (by decide) | omega); (case hz_S => (intro q hq; rw [List.mem_singleton] at hq; subst hq; k_mem)); (case hz_z => assumption); (case hz_h0 => first | assumption | exact Int.ediv_nonneg (by assumption) (by decide) | omega); (case hz_h1 => exact half_lt (by assumption)); intro D' _ _ _ _ h' _ st' hD' fr'; (have F' := Fr.stay (by k_asm) st'); (have N' := News.newOr (by k_asm) (by k_asm) st' hD' fr' (by intro q hq; rw [List.mem_singleton] at hq; subst hq; k_mem)); (try dsimp only); (try k_fold))
    | with_reducible ((with_reducible refine' modG (b := 2) ?hz_p ?_); (case hz_p => decide); intro _ _ _ hv _ _; subst hv; (try dsimp only))
    | ((with_reducible refine' modG (b := 2) ?hz_p ?_); (case hz_p => decide); intro _ _ _ hv _ _; subst hv; (try dsimp only))
    | with_reducible ((with_reducible refine' divG (n := 2) (b := 2) ?hz_p ?hz_a ?hz_c ?_); (case hz_p => decide); (case hz_a => exact sz2); (case hz_c => decide); intro v _ _ hv; subst hv; (try dsimp only))
    | ((with_reducible refine' divG (n := 2) (b := 2) ?hz_p ?hz_a ?hz_c ?_); (case hz_p => decide); (case hz_a => exact sz2); (case hz_c => decide); intro v _ _ hv; subst hv; (try dsimp only))
    | with_reducible ( (with_reducible show wpAny _ _ (call (Value.ref 116) [Value.ref _, Value.ref _]) _ _ _); (refine' jadd (Cx.of ?hz_B ?hz_F ?hz_X ?hz_T ?hz_K ?hz_d ?hz_u ?hz_N ?hz_S) ?hz_z ?hz_z' ?_); (case hz_B => k_asm); (case hz_F => k_asm); (case hz_X => k_asm); (case hz_T => k_asm); (case hz_K => first | exact rfl | assumption); (case hz_N => k_asm); (case hz_d => dsimp only; first | exact room1 (by assumption) (by decide) | exact roomA (by assumption) | exact roomB (by assumption) (by decide) | omega); (case hz_u => dsimp only; first | exact room1 (by assumption) (by decide) | exact roomC (by assumption) | exact roomE (by assumption) (by decide) | omega); (case hz_S => (intro q hq; rw [List.mem_cons, List.mem_singleton] at hq; rcases hq with hq | hq <;> subst hq <;> k_mem)); (case hz_z => exact jdF_sz _); (case hz_z' => assumption); intro D' _ _ _ _ h' _ st' hD' fr'; (have F' := Fr.stay (by k_asm) st'); (have N' := News.newOr (by k_asm) (by k_asm) st' hD' fr' (by intro q hq; rw [List.mem_cons, List.mem_singleton] at hq; rcases hq with hq | hq <;> subst hq <;> k_mem)); (try dsimp only); (try k_fold))
    | ( (with_reducible show wpAny _ _ (call (Value.ref 116) [Value.ref _, Value.ref _]) _ _ _); (refine' jadd (Cx.of ?hz_B ?hz_F ?hz_X ?hz_T ?hz_K ?hz_d ?hz_u ?hz_N ?hz_S) ?hz_z ?hz_z' ?_); (case hz_B => k_asm); (case hz_F => k_asm); (case hz_X => k_asm); (case hz_T => k_asm); (case hz_K => first | exact rfl | assumption); (case hz_N => k_asm); (case hz_d => dsimp only; first | exact room1 (by assumption) (by decide) | exact roomA (by assumption) | exact roomB (by assumption) (by decide) | omega); (case hz_u => dsimp only; first | exact room1 (by assumption) (by decide) | exact roomC (by assumption) | exact roomE (by assumption) (by decide) | omega); (case hz_S => (intro q hq; rw [List.mem_cons, List.mem_singleton] at hq; rcases hq with hq | hq <;> subst hq <;> k_mem)); (case hz_z => exact jdF_sz _); (case hz_z' => assumption); intro D' _ _ _ _ h' _ st' hD' fr'; (have F' := Fr.stay (by k_asm) st'); (have N' := News.newOr (by k_asm) (by k_asm) st' hD' fr' (by intro q hq; rw [List.mem_cons, List.mem_singleton] at hq; rcases hq with hq | hq <;> subst hq <;> k_mem)); (try dsimp only); (try k_fold))
    | with_reducible ( (with_reducible show wpAny _ _ (call (Value.ref 109) [Value.ref _]) _ _ _); (refine' jdbl (Cx.of ?hz_B ?hz_F ?hz_X ?hz_T ?hz_K ?hz_d ?hz_u ?hz_N ?hz_S) ?hz_z ?_); (case hz_B => k_asm); (case hz_F => k_asm); (case hz_X => k_asm); (case hz_T => k_asm); (case hz_K => first | exact rfl | assumption); (case hz_N => k_asm); (case hz_d => dsimp only; first | exact room1 (by assumption) (by decide) | exact roomA (by assumption) | exact roomB (by assumption) (by decide) | omega); (case hz_u => dsimp only; first | exact room1 (by assumption) (by decide) | exact roomC (by assumption) | exact roomE (by assumption) (by decide) | omega); (case hz_S => (intro q hq; rw [List.mem_singleton] at hq; subst hq; k_mem)); (case hz_z => exact jmF_sz (by assumption) _ _); intro D' _ _ _ _ h' _ st' hD' fr'; (have F' := Fr.stay (by k_asm) st'); (have N' := News.fresh_cons (by k_asm) (by k_asm) st' hD' fr'); (try dsimp only); (try k_fold))
    | ( (with_reducible show wpAny _ _ (call (Value.ref 109) [Value.ref _]) _ _ _); (refine' jdbl (Cx.of ?hz_B ?hz_F ?hz_X ?hz_T ?hz_K ?hz_d ?hz_u ?hz_N ?hz_S) ?hz_z ?_); (case hz_B => k_asm); (case hz_F => k_asm); (case hz_X => k_asm); (case hz_T => k_asm); (case hz_K => first | exact rfl | assumption); (case hz_N => k_asm); (case hz_d => dsimp only; first | exact room1 (by assumption) (by decide) | exact roomA (by assumption) | exact roomB (by assumption) (by decide) | omega); (case hz_u => dsimp only; first | exact room1 (by assumption) (by decide) | exact roomC (by assumption) | exact roomE (by assumption) (by decide) | omega); (case hz_S => (intro q hq; rw [List.mem_singleton] at hq; subst hq; k_mem)); (case hz_z => exact jmF_sz (by assumption) _ _); intro D' _ _ _ _ h' _ st' hD' fr'; (have F' := Fr.stay (by k_asm) st'); (have N' := News.fresh_cons (by k_asm) (by k_asm) st' hD' fr'); (try dsimp only); (try k_fold))
    | with_reducible ( (with_reducible show wpAny _ _ (call (Value.ref 95) [Value.int _ _, Value.int _ _]) _ _ _); (refine' inv_ (Cx.of ?hz_B ?hz_F ?hz_X ?hz_T ?hz_K ?hz_d ?hz_u ?hz_N ?hz_S) ?hz_n ?hz_z ?_); (case hz_B => k_asm); (case hz_F => k_asm); (case hz_X => k_asm); (case hz_T => k_asm); (case hz_K => first | exact rfl | assumption); (case hz_N => k_asm); (case hz_d => dsimp only; first | exact room1 (by assumption) (by decide) | exact roomA (by assumption) | exact roomB (by assumption) (by decide) | omega); (case hz_u => dsimp only; first | exact room1 (by assumption) (by decide) | exact roomC (by assumption) | exact roomE (by assumption) (by decide) | omega); (case hz_S => exact nsub_Jac2); (case hz_n => decide); (case hz_z => first | exact szPP | exact szNN); intro _ h' _ st'; (have F' := Fr.stay (by k_asm) st'); (have N' := News.stay (by k_asm) st'); (try dsimp only); (try k_fold))
    | ( (with_reducible show wpAny _ _ (call (Value.ref 95) [Value.int _ _, Value.int _ _]) _ _ _); (refine' inv_ (Cx.of ?hz_B ?hz_F ?hz_X ?hz_T ?hz_K ?hz_d ?hz_u ?hz_N ?hz_S) ?hz_n ?hz_z ?_); (case hz_B => k_asm); (case hz_F => k_asm); (case hz_X => k_asm); (case hz_T => k_asm); (case hz_K => first | exact rfl | assumption); (case hz_N => k_asm); (case hz_d => dsimp only; first | exact room1 (by assumption) (by decide) | exact roomA (by assumption) | exact roomB (by assumption) (by decide) | omega); (case hz_u => dsimp only; first | exact room1 (by assumption) (by decide) | exact roomC (by assumption) | exact roomE (by assumption) (by decide) | omega); (case hz_S => exact nsub_Jac2); (case hz_n => decide); (case hz_z => first | exact szPP | exact szNN); intro _ h' _ st'; (have F' := Fr.stay (by k_asm) st'); (have N' := News.stay (by k_asm) st'); (try dsimp only); (try k_fold))
    | with_reducible ((with_reducible refine' modP ?_); intro _ _ _ _ _; (try dsimp only))
    | ((with_reducible refine' modP ?_); intro _ _ _ _ _; (try dsimp only))
    | with_reducible (first | ((with_reducible refine' pow2S ?hz_a ?hz_c ?_); (case hz_a => repeat' (first | assumption | exact ivF_szP | exact sz0 | exact sz1 | exact sz2 | exact sz3 | exact sz4 | exact sz8 | apply Sz.mul | apply Sz.add | apply Sz.sub | apply Sz.pow2 | apply Sz.pow3 | apply Sz.pow4)); (case hz_c => decide)) | ((with_reducible refine' pow3S ?hz_a ?hz_c ?_); (case hz_a => repeat' (first | assumption | exact ivF_szP | exact sz0 | exact sz1 | exact sz2 | exact sz3 | exact sz4 | exact sz8 | apply Sz.mul | apply Sz.add | apply Sz.sub | apply Sz.pow2 | apply Sz.pow3 | apply Sz.pow4)); (case hz_c => decide)) | ((with_reducible refine' pow4S ?hz_a ?hz_c ?_); (case hz_a => repeat' (first | assumption | exact ivF_szP | exact sz0 | exact sz1 | exact sz2 | exact sz3 | exact sz4 | exact sz8 | apply Sz.mul | apply Sz.add | apply Sz.sub | apply Sz.pow2 | apply Sz.pow3 | apply Sz.pow4)); (case hz_c => decide))); intro _ _; (try dsimp only)
    | (first | ((with_reducible refine' pow2S ?hz_a ?hz_c ?_); (case hz_a => repeat' (first | assumption | exact ivF_szP | exact sz0 | exact sz1 | exact sz2 | exact sz3 | exact sz4 | exact sz8 | apply Sz.mul | apply Sz.add | apply Sz.sub | apply Sz.pow2 | apply Sz.pow3 | apply Sz.pow4)); (case hz_c => decide)) | ((with_reducible refine' pow3S ?hz_a ?hz_c ?_); (case hz_a => repeat' (first | assumption | exact ivF_szP | exact sz0 | exact sz1 | exact sz2 | exact sz3 | exact sz4 | exact sz8 | apply Sz.mul | apply Sz.add | apply Sz.sub | apply Sz.pow2 | apply Sz.pow3 | apply Sz.pow4)); (case hz_c => decide)) | ((with_reducible refine' pow4S ?hz_a ?hz_c ?_); (case hz_a => repeat' (first | assumption | exact ivF_szP | exact sz0 | exact sz1 | exact sz2 | exact sz3 | exact sz4 | exact sz8 | apply Sz.mul | apply Sz.add | apply Sz.sub | apply Sz.pow2 | apply Sz.pow3 | apply Sz.pow4)); (case hz_c => decide))); intro _ _; (try dsimp only)
    | with_reducible ((with_reducible refine' mulS ?hz_a ?hz_b ?hz_c ?hz_d ?_); (case hz_a => repeat' (first | assumption | exact ivF_szP | exact sz0 | exact sz1 | exact sz2 | exact sz3 | exact sz4 | exact sz8 | apply Sz.mul | apply Sz.add | apply Sz.sub | apply Sz.pow2 | apply Sz.pow3 | apply Sz.pow4)); (case hz_b => repeat' (first | assumption | exact ivF_szP | exact sz0 | exact sz1 | exact sz2 | exact sz3 | exact sz4 | exact sz8 | apply Sz.mul | apply Sz.add | apply Sz.sub | apply Sz.pow2 | apply Sz.pow3 | apply Sz.pow4)); (case hz_c => decide); (case hz_d => decide); intro _ _; (try dsimp only))
    | ((with_reducible refine' mulS ?hz_a ?hz_b ?hz_c ?hz_d ?_); (case hz_a => repeat' (first | assumption | exact ivF_szP | exact sz0 | exact sz1 | exact sz2 | exact sz3 | exact sz4 | exact sz8 | apply Sz.mul | apply Sz.add | apply Sz.sub | apply Sz.pow2 | apply Sz.pow3 | apply Sz.pow4)); (case hz_b => repeat' (first | assumption | exact ivF_szP | exact sz0 | exact sz1 | exact sz2 | exact sz3 | exact sz4 | exact sz8 | apply Sz.mul | apply Sz.add | apply Sz.sub | apply Sz.pow2 | apply Sz.pow3 | apply Sz.pow4)); (case hz_c => decide); (case hz_d => decide); intro _ _; (try dsimp only))
    | walk1
    | (dsimp only; walk1)
    | (leave1; walk_say "STEP leave1"; try dsimp only)
    | fail "no step")
  all_goals clear hd hu B' X' T' C
  rename Fr _ _ _ _ => F9
  rename News _ _ _ _ => N9
  have st := end_stays hs ho F9 N9 (fun q hq => nomatch hq)
  have fr := end_fresh hs N9 (List.mem_cons_self ..) (fun hm => nomatch hm)
  have e := (N9 _ (List.mem_cons_self ..)).1
  clear F9 N9
  dsimp only at e ⊢
  exact hQ _ _ _ _ _ _ st e fr
end Mine
end
section
set_option maxHeartbeats 4000000
namespace Mine
open PySem PySem.W PySem.Spec PySem.Calls PyProof.Rows
open PySem.Builtin.Int (intBits)

noncomputable def beN (b : Array UInt8) : Nat := b.toList.foldl (fun (acc : Nat) (c : UInt8) => acc * 256 + c.toNat) 0
noncomputable def oct (n : Nat) (x : Int) : Array UInt8 := ((KTBy.low x n).reverse).toArray
theorem oct_size (n : Nat) (x : Int) : (oct n x).size = n := by
  show (KTBy.low x n).reverse.length = n
  rw [List.length_reverse, KTBy.low_length]
theorem beN_lt (b : Array UInt8) : beN b < 256 ^ b.size := by
  have h := KFB.fold_lt b.toList 0
  rw [Nat.zero_add, Nat.one_mul, Array.length_toList] at h
  exact h

theorem toNat_inj {a b : UInt8} (h : ((a.toNat : Nat) : Int) = ((b.toNat : Nat) : Int)) : a = b := UInt8.toNat_inj.mp (Int.ofNat.inj h)
theorem low_pad {x : Int} {k n : Nat} (h0 : 0 ≤ x) (h1 : x < 256 ^ k) (hk : k ≤ n) : KTBy.low x n = KTBy.low x k ++ List.replicate (n - k) 0 := by
  have hn : x < 256 ^ n := by
    have : (256 : Nat) ^ k ≤ 256 ^ n := Nat.pow_le_pow_right (by decide) hk
    have e1 := KTBy.p256 k
    have e2 := KTBy.p256 n
    rw [e1] at h1
    rw [e2]
    exact Int.lt_of_lt_of_le h1 (Int.ofNat_le.mpr this)
  have e1 := KTBy.low_ints h0 hn
  have e2 := KTBy.low_ints h0 h1
  have key : (KTBy.low x n).map (fun c : UInt8 => ((c.toNat : Nat) : Int)) = (KTBy.low x k ++ List.replicate (n - k) 0).map (fun c : UInt8 => ((c.toNat : Nat) : Int)) := by
    rw [e1, List.map_append, e2, List.map_replicate]
    refine List.ext_getElem (by simp only [List.length_map, List.length_range, List.length_append, List.length_replicate]; exact (Nat.add_sub_of_le hk).symm) fun i hi1 hi2 => ?_
    rw [List.getElem_map, List.getElem_range]
    by_cases hi : i < k
    · rw [List.getElem_append_left (by simpa using hi), List.getElem_map, List.getElem_range]
    · rw [List.getElem_append_right (by simpa using Nat.le_of_not_lt hi), List.getElem_replicate]
      have hlt : x < 256 ^ i := by
        have : (256 : Nat) ^ k ≤ 256 ^ i := Nat.pow_le_pow_right (by decide) (Nat.le_of_not_lt hi)
        have e3 := KTBy.p256 k
        have e4 := KTBy.p256 i
        rw [e3] at h1
        rw [e4]
        exact Int.lt_of_lt_of_le h1 (Int.ofNat_le.mpr this)
      rw [Int.ediv_eq_zero_of_lt h0 hlt]
      rfl
  have hl : (KTBy.low x n).length = (KTBy.low x k ++ List.replicate (n - k) 0).length := by
    rw [List.length_append, KTBy.low_length, KTBy.low_length, List.length_replicate]
    exact (Nat.add_sub_of_le hk).symm
  refine List.ext_getElem hl fun i hi1 hi2 => toNat_inj ?_
  have h3 : i < ((KTBy.low x n).map (fun c : UInt8 => ((c.toNat : Nat) : Int))).length := by rw [List.length_map]; exact hi1
  have h4 : i < ((KTBy.low x k ++ List.replicate (n - k) 0).map (fun c : UInt8 => ((c.toNat : Nat) : Int))).length := by rw [List.length_map]; exact hi2
  have h5 : ((KTBy.low x n).map (fun c : UInt8 => ((c.toNat : Nat) : Int)))[i] = ((KTBy.low x k ++ List.replicate (n - k) 0).map (fun c : UInt8 => ((c.toNat : Nat) : Int)))[i] := by
    simp only [key]
  rwa [List.getElem_map, List.getElem_map] at h5
theorem oct_pad {x : Int} {k n : Nat} (h0 : 0 ≤ x) (h1 : x < 256 ^ k) (hk : k ≤ n) : Array.replicate (n - k) 0 ++ oct k x = oct n x := by
  unfold oct
  rw [low_pad h0 h1 hk, List.reverse_append, List.reverse_replicate]
  refine Array.ext' ?_
  simp
theorem lt_p256 {x : Int} {n : Nat} (h0 : 0 ≤ x) (h : Sz (8 * n) x) : x < 256 ^ n := by
  rw [KTBy.p256]
  unfold Sz at h
  have e2 : (2 : Nat) ^ 8 = 256 := by decide
  rw [Nat.pow_mul, e2] at h
  exact Int.lt_of_le_of_lt (Int.le_of_eq (Int.natAbs_of_nonneg h0).symm) (Int.ofNat_lt.mpr h)
noncomputable def octs (x : Int) : Nat := if (intBits x + 7) / 8 = 0 then 1 else (intBits x + 7) / 8
theorem up8 (a : Nat) : a ≤ 8 * ((a + 7) / 8) := Nat.le_of_add_le_add_right (b := 7) (Nat.le_trans (Nat.le_of_eq (Nat.div_add_mod (a + 7) 8).symm) (Nat.add_le_add_left (Nat.le_of_lt_succ (Nat.mod_lt _ (by decide))) _))
theorem octs_lt {x : Int} (h0 : 0 ≤ x) : x < 256 ^ (octs x) := by
  refine lt_p256 h0 (intBits_le_iff.mp ?_)
  unfold octs
  split
  · rename_i h
    have := up8 (intBits x)
    rw [h] at this
    exact Nat.le_trans this (by decide)
  · exact up8 _
theorem octs_le {x : Int} {n : Nat} (h : Sz (8 * n) x) (hn : 0 < n) : octs x ≤ n := by
  have hb := intBits_le_iff.mpr h
  unfold octs
  split
  · exact hn
  · exact Nat.le_of_lt_succ (Nat.div_lt_of_lt_mul (show intBits x + 7 < 8 * (n + 1) from Nat.lt_succ_of_le (Nat.add_le_add_right hb 7)))

namespace RJ
theorem slot : Slot "bytes" "rjust" "bytes.rjust" :=
  .of (owner := "bytes") (n := "rjust") (by rw [typeLookup_type, builtinLookup_eq_fast]; kernel_rfl) (by decide +kernel) (by decide +kernel) (by decide +kernel)
    (by first | exact .inl (by decide +kernel) | exact .inr (by decide +kernel)) (by rw [isSubtype_type]; kernel_rfl)
theorem type_eq : typeOf (.builtin "bytes.rjust") = pure (.type "method_descriptor") := by show builtinType _ = _; rw [builtinType_eq_fast]; kernel_rfl
theorem entry : entryFor table "bytes.rjust" = some Builtin.«bytes.rjust» := entryFor_of_fast (by kernel_rfl)
theorem args (a b c : Value) : argsOk "bytes.rjust" ⟨[a, b, c], []⟩ := by unfold argsOk; kernel_rfl
end RJ
section
variable {prog : Program} {w : World} {M : Model} {A : Around} {E : Value → Shared → Prop} {s : Shared} {t u v : Tok}
theorem rj_eq (b : Array UInt8) : Builtin.«bytes.rjust» ⟨[.bytes b t, .int 32 u, .bytes #[0] v], []⟩ =
   (if (32 : Int) ≤ (b.size : Int) then (do rule "bytes.rjust.unchanged"; ret (← Builtin.Bytes.Kind.same .bytes (.bytes b t))) else (do ret (← mkBytes (Array.replicate (32 - b.size) 0 ++ b ++ Array.replicate ((32 - b.size) - (32 - b.size)) 0)))) := by kernel_rfl
theorem rj_same (b : Array UInt8) : Builtin.Bytes.Kind.same .bytes (.bytes b t) = pure (.bytes b t) := by kernel_rfl
theorem rjust_meth {b : Array UInt8} {pl : Sem Bool} {Q : Value × List Value → Shared → Prop} (h : Q (.builtin "bytes.rjust", [.bytes b t]) s) : wpAny M A (getMethod (.bytes b t) (PySem.Str.ofString "rjust") pl) Q E s := by
  with_reducible exact KBd.method_of (.bytes b t) (typeIs_bytes _ _ _) RJ.slot RJ.type_eq KBd.noRef h
theorem rjust_call {b : Array UInt8} {Q : Value → Shared → Prop} (hb : b.size ≤ 32)
    (h : ∀ t' k, Q (.bytes (Array.replicate (32 - b.size) 0 ++ b) t') { s with toks := k }) :
    wpAny (model prog w) A (call (.builtin "bytes.rjust") [.bytes b t, .int 32 u, .bytes #[0] v]) Q E s := by
  refine wpAny_call_entry RJ.slot (typeIs_bytes _ _ _) RJ.entry ?_ (RJ.args _ _ _)
  rw [rj_eq, rj_same]
  by_cases hc : (32 : Int) ≤ (b.size : Int)
  · rw [if_pos hc]
    have e : b.size = 32 := Nat.le_antisymm hb (Int.ofNat_le.mp hc)
    have e2 : Array.replicate (32 - b.size) 0 ++ b = b := by rw [e]; simp
    rw [e2] at h
    exact wpAny_bind (wpAny_rule (wpAny_bind (wpAny_pure (wpAny_pure ⟨_, rfl, h _ _⟩))))
  · rw [if_neg hc]
    have e2 : Array.replicate (32 - b.size) (0 : UInt8) ++ b ++ Array.replicate ((32 - b.size) - (32 - b.size)) 0 = Array.replicate (32 - b.size) 0 ++ b := by simp
    rw [e2]
    refine wpAny_bind (wpAny_mkBytes (wpAny_pure ⟨_, rfl, h _ _⟩) ?_)
    rw [Array.size_append, Array.size_replicate, sizeLine_eq, Nat.sub_add_cancel hb]
    decide
theorem to_bytes_call {x : Int} {k : Nat} {Q : Value → Shared → Prop} (hk : k ≤ 4096) (h0 : 0 ≤ x) (h1 : x < 256 ^ k) (h : ∀ t' k', Q (.bytes (oct k x) t') { s with toks := k' }) :
    wpAny (model prog w) A (call (.builtin "int.to_bytes") [.int x t, .int (k : Int) u, .str (PySem.Str.ofString "big") v]) Q E s := by
  refine wpAny_call_entry KTBy.slot (typeIs_int s x t) KTBy.entry ?_ (KTBy.args _ _ _)
  have hb : intBits x ≤ 8 * k := by
    refine intBits_le_iff.mpr ?_
    have e2 : (2 : Nat) ^ 8 = 256 := by decide
    rw [Nat.pow_mul, e2]
    rw [KTBy.p256] at h1
    exact Int.ofNat_lt.mp (by rw [Int.natAbs_of_nonneg h0]; exact h1)
  have hk' : (k : Int) ≤ 4096 := Int.ofNat_le.mpr hk
  show wpAny _ _ (Builtin.Int.intOfSelf (.int x t) >>= fun y => _) _ _ s
  refine wpAny_bind (wpAny_of_eq (a := x) rfl ?_)
  show wpAny _ _ (Builtin.Int.intBindNamed "to_bytes" ["length", "byteorder", "signed"] 0 2 [.int (k : Int) u, .str (PySem.Str.ofString "big") v] [] >>= fun l => _) _ _ s
  refine wpAny_bind (wpAny_of_eq (a := [some (.int (k : Int) u), some (.str (PySem.Str.ofString "big") v), none]) (by kernel_rfl) ?_)
  show wpAny _ _ (Builtin.Int.intIndex "int.to_bytes" (.int (k : Int) u) >>= fun n => _) _ _ s
  refine wpAny_bind (wpAny_of_eq (a := (k : Int)) rfl ?_)
  refine KTBy.if_not (by show (decide ((k : Int) < -(2 ^ 63 : Int)) || decide ((k : Int) ≥ 2 ^ 63)) = false; rw [decide_eq_false (show ¬ ((k : Int) < -(2 ^ 63 : Int)) from Int.not_lt.mpr (Int.le_trans (by decide) (Int.natCast_nonneg k))), decide_eq_false (show ¬ ((k : Int) ≥ 2 ^ 63) from fun q => absurd (Int.le_trans q hk') (by decide))]; rfl) ?_
  refine wpAny_bind (wpAny_of_eq (a := PySem.Str.ofString "big") (by kernel_rfl) ?_)
  refine wpAny_bind (wpAny_of_eq (a := false) rfl ?_)
  refine wpAny_bind (wpAny_of_eq (a := false) (by kernel_rfl) ?_)
  refine wpAny_ite_false (decide_eq_false (show ¬ ((k : Int) < 0) from Int.not_lt.mpr (Int.natCast_nonneg k))) ?_
  refine wpAny_ite_false (decide_eq_false (show ¬ ((k : Int) > 2 ^ 63 - 1 - 33) from fun q => absurd (Int.lt_of_lt_of_le q hk') (by decide))) ?_
  refine wpAny_ite_false (decide_eq_false (show ¬ ((k : Int) > (sizeLine : Int)) by rw [sizeLine_eq]; exact fun q => absurd (Int.lt_of_lt_of_le q hk') (by decide))) ?_
  refine KTBy.if_not (by show (decide (x < 0) && !false) = false; rw [decide_eq_false (show ¬ x < 0 from Int.not_lt.mpr h0)]; rfl) ?_
  refine KTBy.if_not (by show (_ && decide ((intBits x : Int) > 8 * (k : Int))) = false; rw [decide_eq_false (show ¬ ((intBits x : Int) > 8 * (k : Int)) from Int.not_lt.mpr (show ((intBits x : Nat) : Int) ≤ ((8 * k : Nat) : Int) from Int.ofNat_le.mpr hb)), Bool.and_false]) ?_
  have e : oct (Int.toNat (k : Int)) x = oct k x := by rw [Int.toNat_natCast]
  have h' : ∀ t' k', Q (.bytes (oct (Int.toNat (k : Int)) x) t') { s with toks := k' } := by rw [e]; exact h
  exact wpAny_bind (wpAny_mkBytes (wpAny_pure ⟨_, rfl, h' _ _⟩) (by show (List.reverse (KTBy.low x (Int.toNat (k : Int)))).length ≤ sizeLine; rw [List.length_reverse, KTBy.low_length, Int.toNat_natCast, sizeLine_eq]; exact Nat.le_trans hk (by decide)))
theorem bitlen_call {x : Int} {Q : Value → Shared → Prop} (h : ∀ t' k', Q (.int (intBits x : Nat) t') { s with toks := k' }) :
    wpAny (model prog w) A (call (.builtin "int.bit_length") [.int x t]) Q E s :=
  call_gives F.slot_int_bit_length (typeIs_int s x t) F.entry_int_bit_length (F.args_int_bit_length_1 _) (AutoIntG2.int_bit_length_int_0 x t) (h _ _)
theorem bitlen_meth {x : Int} {pl : Sem Bool} {Q : Value × List Value → Shared → Prop} (h : Q (.builtin "int.bit_length", [.int x t]) s) :
    wpAny M A (getMethod (.int x t) (PySem.Str.ofString "bit_length") pl) Q E s :=
  getMethod_value (T := "int") (name := PySem.Str.ofString "bit_length") (ga := "int.__getattribute__") (id := "int.bit_length") (typeIs_int s x t) (by intro _ x; cases x) ga_int canon_ga_int no_getattr_int F.slot_int_bit_length.lookup F.type_int_bit_length h
theorem grownS {n : Nat} {k : Nat} {Q : Value → Shared → Prop} (hn : n < 2 ^ k) (hk : k ≤ 100000) (h : Q (.int (n : Int) s.toks) { s with toks := s.toks + 1 }) : wpAny M A (mkIntGrown (n : Int)) Q E s := by
  unfold mkIntGrown
  have hl : ¬ ((n : Int).natAbs.log2 ≥ bitsLine) := by
    rw [Int.natAbs_natCast]
    have hb : bitsLine = 134217728 := by first | rfl | decide
    by_cases hz : n = 0
    · subst hz
      rw [hb]
      decide
    · have h1 := (Nat.log2_lt hz).mpr hn
      rw [hb]
      exact fun q => absurd (Nat.lt_of_le_of_lt q (Nat.lt_of_lt_of_le h1 hk)) (by decide)
  rw [if_neg hl]
  exact wpAny_mkInt h
theorem from_bytes_tree {b : Array UInt8} {P : PySem.Fin → Shared → Prop} (hl : b.size ≤ 4096) (h : P (.done (.ret (.int (beN b : Nat) s.toks))) { s with toks := s.toks + 1 }) :
    wpAny M A (Builtin.«int.from_bytes» ⟨[.type "int", .bytes b t, .str (PySem.Str.ofString "big") u], []⟩) P E s := by
  have hn : beN b < 2 ^ (8 * b.size) := by
    have h1 := beN_lt b
    have e2 : (2 : Nat) ^ 8 = 256 := by decide
    rw [Nat.pow_mul, e2]
    exact h1
  unfold Builtin.«int.from_bytes»
  refine wpAny_bind (wpAny_of_eq (a := true) KFB.type_int ?_)
  refine KTBy.if_not rfl ?_
  refine wpAny_bind (wpAny_of_eq (a := true) F.conv_sub_int ?_)
  refine KTBy.if_not rfl ?_
  refine wpAny_bind (wpAny_of_eq (a := [some (.bytes b t), some (.str (PySem.Str.ofString "big") u), none]) (by kernel_rfl) ?_)
  refine wpAny_bind (wpAny_of_eq (a := PySem.Str.ofString "big") (by kernel_rfl) ?_)
  refine wpAny_bind (wpAny_of_eq (a := false) rfl ?_)
  refine wpAny_bind (wpAny_of_eq (a := false) (by kernel_rfl) ?_)
  refine wpAny_bind (wpAny_of_eq (a := b) rfl ?_)
  show wpAny _ _ (mkIntGrown (b.toList.foldl (fun (acc : Int) (b : UInt8) => acc * 256 + (b.toNat : Int)) ((0 : Nat) : Int)) >>= fun v => _) _ _ _
  rw [KFB.foldI_eq]
  refine wpAny_bind (grownS hn (Nat.le_trans (Nat.mul_le_mul_left 8 hl) (by decide)) ?_)
  refine KFB.if_so (by decide +kernel) ?_
  exact wpAny_bind (wpAny_pure (wpAny_pure h))
theorem from_bytes_call {h₀ : Heap} {L : Addr} {news : List (Addr × Obj)} {x : Addr} {b : Array UInt8} {Q : Value → Shared → Prop} (N : News h₀ L s.heap news) (hm : (x, KFB.bound) ∈ news) (hl : b.size ≤ 4096)
    (h : ∀ t' k, Q (.int (beN b : Nat) t') { s with toks := k }) : wpAny (model prog w) A (call (.ref x) [.bytes b t, .str (PySem.Str.ofString "big") u]) Q E s :=
  KFB.call_of (KFB.at_of N hm) (fun z => from_bytes_tree hl z) (h _ _)
end
end Mine
end
section
set_option maxHeartbeats 4000000
namespace Mine
open PySem PySem.W PySem.Spec PySem.Calls PyProof.Rows
theorem off_BytI : True := by
  w_top off
  exact True.intro
open PySem.Builtin.Int (intBits)
section
variable {prog : Program} {w : World} {M : Model} {A : Around} {E : Value → Shared → Prop} {s : Shared} {t u v : Tok}
theorem nsub_Byt {news : List (Addr × Obj)} : ∀ q ∈ ([] : List (Addr × Obj)), q ∈ news := fun _ h => nomatch h
theorem to_bytes32 {x : Int} {Q : Value → Shared → Prop} (h0 : 0 ≤ x) (h1 : Sz 256 x) (h : ∀ t' k', Q (.bytes (oct 32 x) t') { s with toks := k' }) :
    wpAny (model prog w) A (call (.builtin "int.to_bytes") [.int x t, .int 32 u, .str (PySem.Str.ofString "big") v]) Q E s :=
  to_bytes_call (k := 32) (by decide) h0 (lt_p256 (n := 32) h0 h1) h
theorem to_bytesG {x n : Int} {Q : Value → Shared → Prop} (h0 : 0 ≤ x) (h1 : Sz 256 x) (hn : n = (octs x : Int)) (h : ∀ t' k', Q (.bytes (oct (octs x) x) t') { s with toks := k' }) :
    wpAny (model prog w) A (call (.builtin "int.to_bytes") [.int x t, .int n u, .str (PySem.Str.ofString "big") v]) Q E s := by
  subst hn
  exact to_bytes_call (Nat.le_trans (octs_le (n := 32) h1 (by decide)) (by decide)) h0 (octs_lt h0) h
end
theorem octs_one {x v : Int} (hv : v = ((intBits x : Nat) + 7) / 8) (h : v = 0) : (1 : Int) = (octs x : Int) := by
  have e : v = (((intBits x + 7) / 8 : Nat) : Int) := hv
  unfold octs
  rw [if_pos (Int.ofNat.inj (e.symm.trans h))]
  rfl
theorem octs_more {x v : Int} (hv : v = ((intBits x : Nat) + 7) / 8) (h : v ≠ 0) : v = (octs x : Int) := by
  have e : v = (((intBits x + 7) / 8 : Nat) : Int) := hv
  unfold octs
  rw [if_neg (fun q => h (e.trans (congrArg Nat.cast q)))]
  exact e
theorem kk4 : (hd.heap_39 = hd.heap_39) ∧ PySem.Challenge.rw_jv0012_01 = PySem.Challenge.rw_jv0012_01 := by
  k_fill
  exact ⟨rfl, rfl⟩
theorem bti {w : World} {A : Around} {s : Shared} {Q E : Value → Shared → Prop} {b : Array UInt8} {tb : Tok}
   (C : Cx w 1 8 A s.heap []) (hb : b.size ≤ 4096)
   (hQ : ∀ t h' k, s.heap.StaysIn h' → Q (.int (beN b : Nat) t) { s with heap := h', toks := k }) :
   wpAny (model PG w) A (call (.ref 21) [.bytes b tb]) Q E s := by
  refine wpAny_call ?_
  refine enter (binds := [(PySem.Str.ofString "value", .bytes b tb)]) C (by k_is) (by k_is) (BindsTo.of_eq rfl) (locs rfl) rfl rfl rfl (by decide) ?_
  intro dp un gd cn cs b ccd cl outer base g h₁ L L' p loose mean mg mb hd hu F' N' B' X' T' hs hg ho
  k_fold
  repeat' (first
    | (k_unfold; (try dsimp only))
    | (k_end; wrow_close)
    | with_reducible ((with_reducible show wpAny _ _ (call (Value.builtin "bytes.rjust") _) _ _ _); ((refine' rjust_call ?hz_a ?_); (case hz_a => assumption); intro _ _; (try dsimp only)))
    | ((with_reducible show wpAny _ _ (call (Value.builtin "bytes.rjust") _) _ _ _); ((refine' rjust_call ?hz_a ?_); (case hz_a => assumption); intro _ _; (try dsimp only)))
    | with_reducible ((with_reducible refine rjust_meth ?_))
    | ((with_reducible refine rjust_meth ?_))
    | with_reducible ((with_reducible refine' divG (n := 4) (b := 8) ?hz_p ?hz_a ?hz_c ?_); (case hz_p => decide); (case hz_a => exact sz8); (case hz_c => decide); intro v _ _ hv; (try dsimp only))
    | ((with_reducible refine' divG (n := 4) (b := 8) ?hz_p ?hz_a ?hz_c ?_); (case hz_p => decide); (case hz_a => exact sz8); (case hz_c => decide); intro v _ _ hv; (try dsimp only))
    | with_reducible ((with_reducible refine addS ?_); intro _ _; (try dsimp only))
    | ((with_reducible refine addS ?_); intro _ _; (try dsimp only))
    | with_reducible ((with_reducible refine bitlen_call ?_); intro _ _; (try dsimp only))
    | ((with_reducible refine bitlen_call ?_); intro _ _; (try dsimp only))
    | with_reducible ((with_reducible refine bitlen_meth ?_))
    | ((with_reducible refine bitlen_meth ?_))
    | with_reducible ( (with_reducible show wpAny _ _ (call (Value.builtin "int.to_bytes") [Value.int _ _, Value.int _ _, Value.str _ _]) _ _ _); (first | refine' to_bytes32 ?hz_a ?hz_b ?_ | refine' to_bytesG ?hz_a ?hz_b ?hz_c ?_); (case hz_a => assumption); (case hz_b => assumption); (try (case hz_c => first | exact octs_more (by assumption) (by assumption) | exact octs_one (by assumption) (by assumption))); intro _ _; (try dsimp only))
    | ( (with_reducible show wpAny _ _ (call (Value.builtin "int.to_bytes") [Value.int _ _, Value.int _ _, Value.str _ _]) _ _ _); (first | refine' to_bytes32 ?hz_a ?hz_b ?_ | refine' to_bytesG ?hz_a ?hz_b ?hz_c ?_); (case hz_a => assumption); (case hz_b => assumption); (try (case hz_c => first | exact octs_more (by assumption) (by assumption) | exact octs_one (by assumption) (by assumption))); intro _ _; (try dsimp only))
    | with_reducible ( (with_reducible show wpAny _ _ (call (Value.ref _) [Value.bytes _ _, Value.str _ _]) _ _ _); kfb_any; (refine' from_bytes_call ?hz_kfbN ?hz_kfbM ?hz_kfbS ?_); (case hz_kfbN => k_asm); (case hz_kfbM => k_mem); (case hz_kfbS => assumption); intro _ _; (try dsimp only))
    | ( (with_reducible show wpAny _ _ (call (Value.ref _) [Value.bytes _ _, Value.str _ _]) _ _ _); kfb_any; (refine' from_bytes_call ?hz_kfbN ?hz_kfbM ?hz_kfbS ?_); (case hz_kfbN => k_asm); (case hz_kfbM => k_mem); (case hz_kfbS => assumption); intro _ _; (try dsimp only))
    | walk1
    | (dsimp only; walk1)
    | (leave1; walk_say "STEP leave1"; try dsimp only)
    | fail "no step")
  all_goals (try clear hd hu B' X' T' C)
  rename Fr _ _ _ _ => F9
  rename News _ _ _ _ => N9
  exact hQ _ _ _ (end_stays hs ho F9 N9 (fun q hq => nomatch hq))
theorem itb {w : World} {A : Around} {s : Shared} {Q E : Value → Shared → Prop} {x : Int} {tx : Tok}
   (C : Cx w 1 8 A s.heap []) (h0 : 0 ≤ x) (h1 : Sz 256 x)
   (hQ : ∀ t h' k, s.heap.StaysIn h' → Q (.bytes (oct (octs x) x) t) { s with heap := h', toks := k }) :
   wpAny (model PG w) A (call (.ref 28) [.int x tx]) Q E s := by
  refine wpAny_call ?_
  refine enter (binds := [(PySem.Str.ofString "value", .int x tx)]) C (by k_is) (by k_is) (BindsTo.of_eq rfl) (locs rfl) rfl rfl rfl (by decide) ?_
  intro dp un gd cn cs b ccd cl outer base g h₁ L L' p loose mean mg mb hd hu F' N' B' X' T' hs hg ho
  k_fold
  repeat' (first
    | (k_unfold; (try dsimp only))
    | (k_end; wrow_close)
    | with_reducible ((with_reducible show wpAny _ _ (call (Value.builtin "bytes.rjust") _) _ _ _); ((refine' rjust_call ?hz_a ?_); (case hz_a => assumption); intro _ _; (try dsimp only)))
    | ((with_reducible show wpAny _ _ (call (Value.builtin "bytes.rjust") _) _ _ _); ((refine' rjust_call ?hz_a ?_); (case hz_a => assumption); intro _ _; (try dsimp only)))
    | with_reducible ((with_reducible refine rjust_meth ?_))
    | ((with_reducible refine rjust_meth ?_))
    | with_reducible ((with_reducible refine' divG (n := 4) (b := 8) ?hz_p ?hz_a ?hz_c ?_); (case hz_p => decide); (case hz_a => exact sz8); (case hz_c => decide); intro v _ _ hv; (try dsimp only))
    | ((with_reducible refine' divG (n := 4) (b := 8) ?hz_p ?hz_a ?hz_c ?_); (case hz_p => decide); (case hz_a => exact sz8); (case hz_c => decide); intro v _ _ hv; (try dsimp only))
    | with_reducible ((with_reducible refine addS ?_); intro _ _; (try dsimp only))
    | ((with_reducible refine addS ?_); intro _ _; (try dsimp only))
    | with_reducible ((with_reducible refine bitlen_call ?_); intro _ _; (try dsimp only))
    | ((with_reducible refine bitlen_call ?_); intro _ _; (try dsimp only))
    | with_reducible ((with_reducible refine bitlen_meth ?_))
    | ((with_reducible refine bitlen_meth ?_))
    | with_reducible ( (with_reducible show wpAny _ _ (call (Value.builtin "int.to_bytes") [Value.int _ _, Value.int _ _, Value.str _ _]) _ _ _); (first | refine' to_bytes32 ?hz_a ?hz_b ?_ | refine' to_bytesG ?hz_a ?hz_b ?hz_c ?_); (case hz_a => assumption); (case hz_b => assumption); (try (case hz_c => first | exact octs_more (by assumption) (by assumption) | exact octs_one (by assumption) (by assumption))); intro _ _; (try dsimp only))
    | ( (with_reducible show wpAny _ _ (call (Value.builtin "int.to_bytes") [Value.int _ _, Value.int _ _, Value.str _ _]) _ _ _); (first | refine' to_bytes32 ?hz_a ?hz_b ?_ | refine' to_bytesG ?hz_a ?hz_b ?hz_c ?_); (case hz_a => assumption); (case hz_b => assumption); (try (case hz_c => first | exact octs_more (by assumption) (by assumption) | exact octs_one (by assumption) (by assumption))); intro _ _; (try dsimp only))
    | with_reducible ( (with_reducible show wpAny _ _ (call (Value.ref _) [Value.bytes _ _, Value.str _ _]) _ _ _); kfb_any; (refine' from_bytes_call ?hz_kfbN ?hz_kfbM ?hz_kfbS ?_); (case hz_kfbN => k_asm); (case hz_kfbM => k_mem); (case hz_kfbS => assumption); intro _ _; (try dsimp only))
    | ( (with_reducible show wpAny _ _ (call (Value.ref _) [Value.bytes _ _, Value.str _ _]) _ _ _); kfb_any; (refine' from_bytes_call ?hz_kfbN ?hz_kfbM ?hz_kfbS ?_); (case hz_kfbN => k_asm); (case hz_kfbM => k_mem); (case hz_kfbS => assumption); intro _ _; (try dsimp only))
    | walk1
    | (dsimp only; walk1)
    | (leave1; walk_say "STEP leave1"; try dsimp only)
    | fail "no step")
  all_goals (try clear hd hu B' X' T' C)
  all_goals
    rename Fr _ _ _ _ => F9
    rename News _ _ _ _ => N9
    exact hQ _ _ _ (end_stays hs ho F9 N9 (fun q hq => nomatch hq))
theorem pad {w : World} {A : Around} {s : Shared} {Q E : Value → Shared → Prop} {b : Array UInt8} {tb : Tok}
   (C : Cx w 1 8 A s.heap []) (hb : b.size ≤ 32)
   (hQ : ∀ t h' k, s.heap.StaysIn h' → Q (.bytes (Array.replicate (32 - b.size) 0 ++ b) t) { s with heap := h', toks := k }) :
   wpAny (model PG w) A (call (.ref 88) [.bytes b tb]) Q E s := by
  refine wpAny_call ?_
  refine enter (binds := [(PySem.Str.ofString "value", .bytes b tb)]) C (by k_is) (by k_is) (BindsTo.of_eq rfl) (locs rfl) rfl rfl rfl (by decide) ?_
  intro dp un gd cn cs b ccd cl outer base g h₁ L L' p loose mean mg mb hd hu F' N' B' X' T' hs hg ho
  k_fold
  repeat' (first
    | (k_unfold; (try dsimp only))
    | (k_end; wrow_close)
    | with_reducible ((with_reducible show wpAny _ _ (call (Value.builtin "bytes.rjust") _) _ _ _); ((refine' rjust_call ?hz_a ?_); (case hz_a => assumption); intro _ _; (try dsimp only)))
    | ((with_reducible show wpAny _ _ (call (Value.builtin "bytes.rjust") _) _ _ _); ((refine' rjust_call ?hz_a ?_); (case hz_a => assumption); intro _ _; (try dsimp only)))
    | with_reducible ((with_reducible refine rjust_meth ?_))
    | ((with_reducible refine rjust_meth ?_))
    | with_reducible ((with_reducible refine' divG (n := 4) (b := 8) ?hz_p ?hz_a ?hz_c ?_); (case hz_p => decide); (case hz_a => exact sz8); (case hz_c => decide); intro v _ _ hv; (try dsimp only))
    | ((with_reducible refine' divG (n := 4) (b := 8) ?hz_p ?hz_a ?hz_c ?_); (case hz_p => decide); (case hz_a => exact sz8); (case hz_c => decide); intro v _ _ hv; (try dsimp only))
    | with_reducible ((with_reducible refine addS ?_); intro _ _; (try dsimp only))
    | ((with_reducible refine addS ?_); intro _ _; (try dsimp only))
    | with_reducible ((with_reducible refine bitlen_call ?_); intro _ _; (try dsimp only))
    | ((with_reducible refine bitlen_call ?_); intro _ _; (try dsimp only))
    | with_reducible ((with_reducible refine bitlen_meth ?_))
    | ((with_reducible refine bitlen_meth ?_))
    | with_reducible ( (with_reducible show wpAny _ _ (call (Value.builtin "int.to_bytes") [Value.int _ _, Value.int _ _, Value.str _ _]) _ _ _); (first | refine' to_bytes32 ?hz_a ?hz_b ?_ | refine' to_bytesG ?hz_a ?hz_b ?hz_c ?_); (case hz_a => assumption); (case hz_b => assumption); (try (case hz_c => first | exact octs_more (by assumption) (by assumption) | exact octs_one (by assumption) (by assumption))); intro _ _; (try dsimp only))
    | ( (with_reducible show wpAny _ _ (call (Value.builtin "int.to_bytes") [Value.int _ _, Value.int _ _, Value.str _ _]) _ _ _); (first | refine' to_bytes32 ?hz_a ?hz_b ?_ | refine' to_bytesG ?hz_a ?hz_b ?hz_c ?_); (case hz_a => assumption); (case hz_b => assumption); (try (case hz_c => first | exact octs_more (by assumption) (by assumption) | exact octs_one (by assumption) (by assumption))); intro _ _; (try dsimp only))
    | with_reducible ( (with_reducible show wpAny _ _ (call (Value.ref _) [Value.bytes _ _, Value.str _ _]) _ _ _); kfb_any; (refine' from_bytes_call ?hz_kfbN ?hz_kfbM ?hz_kfbS ?_); (case hz_kfbN => k_asm); (case hz_kfbM => k_mem); (case hz_kfbS => assumption); intro _ _; (try dsimp only))
    | ( (with_reducible show wpAny _ _ (call (Value.ref _) [Value.bytes _ _, Value.str _ _]) _ _ _); kfb_any; (refine' from_bytes_call ?hz_kfbN ?hz_kfbM ?hz_kfbS ?_); (case hz_kfbN => k_asm); (case hz_kfbM => k_mem); (case hz_kfbS => assumption); intro _ _; (try dsimp only))
    | walk1
    | (dsimp only; walk1)
    | (leave1; walk_say "STEP leave1"; try dsimp only)
    | fail "no step")
  all_goals (try clear hd hu B' X' T' C)
  all_goals
    rename Fr _ _ _ _ => F9
    rename News _ _ _ _ => N9
    exact hQ _ _ _ (end_stays hs ho F9 N9 (fun q hq => nomatch hq))
theorem octets {w : World} {A : Around} {s : Shared} {Q E : Value → Shared → Prop} {x : Int} {tx : Tok}
   (C : Cx w 1 8 A s.heap []) (h0 : 0 ≤ x) (h1 : Sz 256 x)
   (hQ : ∀ t h' k, s.heap.StaysIn h' → Q (.bytes (oct 32 x) t) { s with heap := h', toks := k }) :
   wpAny (model PG w) A (call (.ref 165) [.int x tx]) Q E s := by
  refine wpAny_call ?_
  refine enter (binds := [(PySem.Str.ofString "number", .int x tx)]) C (by k_is) (by k_is) (BindsTo.of_eq rfl) (locs rfl) rfl rfl rfl (by decide) ?_
  intro dp un gd cn cs b ccd cl outer base g h₁ L L' p loose mean mg mb hd hu F' N' B' X' T' hs hg ho
  k_fold
  repeat' (first
    | (k_unfold; (try dsimp only))
    | (k_end; wrow_close)
    | with_reducible ((with_reducible show wpAny _ _ (call (Value.builtin "bytes.rjust") _) _ _ _); ((refine' rjust_call ?hz_a ?_); (case hz_a => assumption); intro _ _; (try dsimp only)))
    | ((with_reducible show wpAny _ _ (call (Value.builtin "bytes.rjust") _) _ _ _); ((refine' rjust_call ?hz_a ?_); (case hz_a => assumption); intro _ _; (try dsimp only)))
    | with_reducible ((with_reducible refine rjust_meth ?_))
    | ((with_reducible refine rjust_meth ?_))
    | with_reducible ((with_reducible refine' divG (n := 4) (b := 8) ?hz_p ?hz_a ?hz_c ?_); (case hz_p => decide); (case hz_a => exact sz8); (case hz_c => decide); intro v _ _ hv; (try dsimp only))
    | ((with_reducible refine' divG (n := 4) (b := 8) ?hz_p ?hz_a ?hz_c ?_); (case hz_p => decide); (case hz_a => exact sz8); (case hz_c => decide); intro v _ _ hv; (try dsimp only))
    | with_reducible ((with_reducible refine addS ?_); intro _ _; (try dsimp only))
    | ((with_reducible refine addS ?_); intro _ _; (try dsimp only))
    | with_reducible ((with_reducible refine bitlen_call ?_); intro _ _; (try dsimp only))
    | ((with_reducible refine bitlen_call ?_); intro _ _; (try dsimp only))
    | with_reducible ((with_reducible refine bitlen_meth ?_))
    | ((with_reducible refine bitlen_meth ?_))
    | with_reducible ( (with_reducible show wpAny _ _ (call (Value.builtin "int.to_bytes") [Value.int _ _, Value.int _ _, Value.str _ _]) _ _ _); (first | refine' to_bytes32 ?hz_a ?hz_b ?_ | refine' to_bytesG ?hz_a ?hz_b ?hz_c ?_); (case hz_a => assumption); (case hz_b => assumption); (try (case hz_c => first | exact octs_more (by assumption) (by assumption) | exact octs_one (by assumption) (by assumption))); intro _ _; (try dsimp only))
    | ( (with_reducible show wpAny _ _ (call (Value.builtin "int.to_bytes") [Value.int _ _, Value.int _ _, Value.str _ _]) _ _ _); (first | refine' to_bytes32 ?hz_a ?hz_b ?_ | refine' to_bytesG ?hz_a ?hz_b ?hz_c ?_); (case hz_a => assumption); (case hz_b => assumption); (try (case hz_c => first | exact octs_more (by assumption) (by assumption) | exact octs_one (by assumption) (by assumption))); intro _ _; (try dsimp only))
    | with_reducible ( (with_reducible show wpAny _ _ (call (Value.ref _) [Value.bytes _ _, Value.str _ _]) _ _ _); kfb_any; (refine' from_bytes_call ?hz_kfbN ?hz_kfbM ?hz_kfbS ?_); (case hz_kfbN => k_asm); (case hz_kfbM => k_mem); (case hz_kfbS => assumption); intro _ _; (try dsimp only))
    | ( (with_reducible show wpAny _ _ (call (Value.ref _) [Value.bytes _ _, Value.str _ _]) _ _ _); kfb_any; (refine' from_bytes_call ?hz_kfbN ?hz_kfbM ?hz_kfbS ?_); (case hz_kfbN => k_asm); (case hz_kfbM => k_mem); (case hz_kfbS => assumption); intro _ _; (try dsimp only))
    | walk1
    | (dsimp only; walk1)
    | (leave1; walk_say "STEP leave1"; try dsimp only)
    | fail "no step")
  all_goals (try clear hd hu B' X' T' C)
  all_goals
    rename Fr _ _ _ _ => F9
    rename News _ _ _ _ => N9
    exact hQ _ _ _ (end_stays hs ho F9 N9 (fun q hq => nomatch hq))
end Mine
end
section
set_option maxHeartbeats 4000000
namespace Mine
open PySem PySem.W PySem.Spec PySem.Calls PyProof.Rows

noncomputable abbrev B8 := Array UInt8
noncomputable abbrev BK (w : World) := tupleKind (bytesKind PG w)
noncomputable abbrev Key := List (List UInt8)
noncomputable abbrev Ent := Key × Addr × Value
def DObj (w : World) (xs : List Ent) (o : Obj) : Prop := o.ExactDict ∧ ∃ es ep, o.data = .dict es ep ∧ es.toList = xs.map (entryOfKey (BK w)) ∧ (xs.map (·.1)).Nodup
def Keys (w : World) (h : Heap) (xs : List Ent) : Prop := ∀ x ∈ xs, IsTupleKey (bytesKind PG w) h x.1 x.2.1
theorem tk_stay {w : World} {h h' : Heap} {k : Key} {a : Addr} (x : IsTupleKey (bytesKind PG w) h k a) (st : h.StaysIn h') : IsTupleKey (bytesKind PG w) h' k a :=
  by obtain ⟨o, its, n, ho, r⟩ := x; exact ⟨o, its, n, st _ _ ho, r⟩
theorem Keys.stay {w : World} {h h' : Heap} {xs : List Ent} (x : Keys w h xs) (st : h.StaysIn h') : Keys w h' xs := fun e he => tk_stay (x e he) st
theorem dict_of {w : World} {h : Heap} {d : Addr} {xs : List Ent} {o : Obj} (ho : h.get? d = some o) (D : DObj w xs o) (ks : Keys w h xs) : h.DictOfH (BK w) d xs :=
  by obtain ⟨hx, es, ep, hd, he, hn⟩ := D; exact ⟨o, es, ep, ho, hx, hd, he, ks, hn⟩
theorem of_dict {w : World} {h : Heap} {d : Addr} {xs : List Ent} (m : h.DictOfH (BK w) d xs) : ∃ o, h.get? d = some o ∧ DObj w xs o ∧ Keys w h xs :=
  by obtain ⟨o, es, ep, ho, hx, hd, he, ks, hn⟩ := m; exact ⟨o, ho, ⟨hx, es, ep, hd, he, hn⟩, ks⟩
theorem DObj.empty {w : World} {o : Obj} (h1 : o.ExactDict) {n : Nat} (h2 : o.data = .dict #[] n) : DObj w [] o := ⟨h1, #[], n, h2, rfl, List.nodup_nil⟩
noncomputable abbrev tupB (a b : B8) (t1 t2 : Tok) (c : Nat) : Obj := { cls := .type "tuple", data := .seq #[.bytes a t1, .bytes b t2] c }
noncomputable abbrev keyOf (a b : B8) : Key := [a.toList, b.toList]
theorem tupB_key {w : World} {h : Heap} {a b : B8} {t1 t2 : Tok} {c : Nat} {D : Addr} (e : h.get? D = some (tupB a b t1 t2 c)) : IsTupleKey (bytesKind PG w) h (keyOf a b) D := by
  refine ⟨_, _, _, e, rfl, rfl, ?_⟩
  exact .cons (by simp [bytesKind, isBytes]) (.cons (by simp [bytesKind, isBytes]) .nil)
theorem isBytes_eq {w : World} {k : List UInt8} {v : Value} (h : (bytesKind PG w).is k v = true) : ∃ t, v = .bytes k.toArray t := isBytes_shape h
theorem items_one {w : World} {k : List UInt8} {ks : List (List UInt8)} {vs : List Value} (h : ItemsAre (bytesKind PG w) (k :: ks) vs) : ∃ v r, vs = v :: r ∧ (bytesKind PG w).is k v = true ∧ ItemsAre (bytesKind PG w) ks r := by
  cases h with
  | cons h1 r => exact ⟨_, _, rfl, h1, r⟩
theorem items_nil {w : World} {vs : List Value} (h : ItemsAre (bytesKind PG w) ([] : List (List UInt8)) vs) : vs = [] := by
  cases h
  rfl
theorem obj_eq {o : Obj} {c : Value} {d : Data} (hc : o.cls = c) (hd : o.data = d) : o = { cls := c, dict := o.dict, data := d, slots := o.slots } := by
  subst hc
  subst hd
  rfl
theorem key_tupB {w : World} {h : Heap} {a b : B8} {D : Addr} (x : IsTupleKey (bytesKind PG w) h (keyOf a b) D) : ∃ t1 t2 c od sl, h.get? D = some { cls := .type "tuple", dict := od, data := .seq #[.bytes a t1, .bytes b t2] c, slots := sl } := by
  obtain ⟨o, its, n, ho, hc, hd, hi⟩ := x
  obtain ⟨v, r, e1, h1, hr⟩ := items_one hi
  obtain ⟨v', r', e2, h2, hr'⟩ := items_one hr
  have e3 := items_nil hr'
  obtain ⟨t1, f1⟩ := isBytes_eq h1
  obtain ⟨t2, f2⟩ := isBytes_eq h2
  have e : its = #[.bytes a t1, .bytes b t2] := Array.toList_inj.mp (e1.trans (by rw [e2, e3, f1, f2]))
  exact ⟨t1, t2, n, o.dict, o.slots, ho.trans (congrArg some (obj_eq hc (hd.trans (congrArg (fun i => Data.seq i n) e))))⟩

section
variable {w : World} {A : Around} {E : Value → Shared → Prop} {s : Shared} {d a : Addr} {xs : List Ent} {k : Key} {o : Obj}
theorem notin_D {Q : Value → Shared → Prop} (hu : A.units + 1 < cLine) (hd : (d == sysModules) = false) (hk : IsTupleKey (bytesKind PG w) s.heap k a) (ho : s.heap.get? d = some o) (D : DObj w xs o) (ks : Keys w s.heap xs)
    {r : Bool} (hr : (atKey xs k).isSome = !r) (h : ∀ k', Q (.bool r) { s with toks := k' }) : wpAny (model PG w) A (compareOp .NotIn (.ref a) (.ref d)) Q E s := by
  refine wpAny_notIn_heap (knd := BK w) hu hk hd (dict_of ho D ks) ?_
  rw [hr, Bool.not_not]
  exact h _
theorem in_D {Q : Value → Shared → Prop} (hu : A.units + 1 < cLine) (hd : (d == sysModules) = false) (hk : IsTupleKey (bytesKind PG w) s.heap k a) (ho : s.heap.get? d = some o) (D : DObj w xs o) (ks : Keys w s.heap xs)
    {r : Bool} (hr : (atKey xs k).isSome = r) (h : ∀ k', Q (.bool r) { s with toks := k' }) : wpAny (model PG w) A (compareOp .In (.ref a) (.ref d)) Q E s := by
  refine wpAny_in_heap (knd := BK w) hu hk hd (dict_of ho D ks) ?_
  rw [hr]
  exact h _
theorem get_D {value slice : PySem.Expr} {p : Addr × Value} {Q : Value → Shared → Prop} (hu : A.units + 1 < cLine) (hk : IsTupleKey (bytesKind PG w) s.heap k a) (ho : s.heap.get? d = some o) (D : DObj w xs o) (ks : Keys w s.heap xs)
    (hp : atKey xs k = some p) (h : ∀ k', Q p.2 { s with toks := k' })
    (hs : subscripted slice false (.ref d) (.ref a) = operate [.ref d, .ref a] (getItem (.ref d) (.ref a))) (hg : ∀ r, letTemporaryGo value (.ref d) r = pure ()) :
    wpAny (model PG w) A (subscriptTail value slice (.ref d) (.ref a)) Q E s := by
  have m := dict_of ho D ks
  exact subscriptTail_builtin m.typeIs slot_dict_getitem.lookup (wpAny_getItem_heap (knd := BK w) hu hk m hp (h _)) hs hg
theorem set_D {v : Value} {Q : Unit → Shared → Prop} (hu : A.units + 1 < cLine) (hk : IsTupleKey (bytesKind PG w) s.heap k a) (ho : s.heap.get? d = some o) (D : DObj w xs o) (ks : Keys w s.heap xs)
    (hsz : xs.length ≤ 1000) (h : ∀ h' o' k', Heap.SameBut d s.heap h' → h'.get? d = some o' → DObj w (storedH xs k a v) o' → Keys w h' (storedH xs k a v) → Q () { s with heap := h', toks := k' }) :
    wpAny (model PG w) A (setItem (.ref d) (.ref a) v) Q E s := by
  refine wpAny_setItem_heap (knd := BK w) hu hk (dict_of ho D ks) (fun h' m' sb => ?_) (by rw [sizeLine_eq]; exact Nat.le_trans hsz (by decide))
  obtain ⟨o', ho', D', ks'⟩ := of_dict m'
  exact h h' o' _ sb ho' D' ks'
theorem len_D {Q : Value → Shared → Prop} (hd : (d == sysModules) = false) (ho : s.heap.get? d = some o) (D : DObj w xs o) (hsz : xs.length ≤ 1000)
    (h : ∀ t' k', Q (.int (xs.length : Nat) t') { s with toks := k' }) : wpAny (model PG w) A (call (.builtin "len") [.ref d]) Q E s := by
  obtain ⟨hx, es, ep, hdat, he, hn⟩ := D
  have hT : s.TypeIs (.ref d) "dict" := ⟨o, ho, hx.1⟩
  refine Calls.call_function_entry kind_len plain_len entry_len (args_len1 _) ?_
  unfold Builtin.«len»
  refine wpAny_bind (m := oneArg "len" _) (wpAny_pure ?_)
  have meets : MeetsIn PG w (Builtin.«dict.__len__» ⟨[.ref d], []⟩) (fun _ R s₁ => s₁ = s ∧ R (.ok (.ret (.int (xs.length : Nat) s.toks))) { s with toks := s.toks + 1 }) :=
    .of_wp fun A R s₁ ⟨e, hR⟩ => by
      subst e
      show wpAny _ _ (dictSize d >>= _) _ _ _
      unfold dictSize
      refine wpAny_bind (wpAny_bind (wpAny_dictEntries ho hdat (wpAny_pure ?_)))
      show wpAny _ _ (Builtin.Dict.pendingCount d >>= _) _ _ _
      refine wpAny_bind (wpAny_pendingCount_other hd ?_)
      refine wpAny_ret_mkInt ?_
      have e2 : es.size = xs.length := size_of_entries he
      rw [Nat.add_zero, e2]
      exact hR
  refine wpAny_bind (m := callSpecial? (.ref d) (PySem.Str.ofString "__len__")) (wpAny_callSpecial?_slot (name := PySem.Str.ofString "__len__") hT F.slot_dict_len
    (call_meetsIn F.slot_dict_len hT F.entry_dict_len (F.args_dict_len_1 _) meets ⟨rfl, ?_⟩))
  show wpAny _ _ _ _ _ { s with toks := s.toks + 1 }
  refine wpAny_bind (wpAny_holding (wpAny_pure ?_))
  refine wpAny_bind (wpAny_letGo ?_)
  show wpAny _ _ (if ((xs.length : Nat) : Int) < 0 then _ else _) _ _ _
  rw [if_neg (Int.not_lt.mpr (Int.natCast_nonneg _))]
  show wpAny _ _ (if ((xs.length : Nat) : Int) ≥ 2 ^ 63 then _ else _) _ _ _
  rw [if_neg (fun q => absurd (Int.le_trans q (Int.ofNat_le.mpr hsz)) (by decide))]
  exact wpAny_bind (wpAny_mkInt (wpAny_pure ⟨_, rfl, h _ _⟩))
end

theorem enterN {w : World} {d u : Nat} {A : Around} {s : Shared} {own : List (Addr × Obj)} {R : Result → Shared → Prop} {name qual : PySem.Str} {params : Arguments} {body : List Stmt} {scope : Scope} {cl : List (PySem.Str × Addr)} {doc pm ctv : Value} {c' f : Addr} {oc : Obj} {vs : Array Value} {tq : Tok} {args : Args} {binds : List (PySem.Str × Value)}
    (C : Cx w (d + 1) u A s.heap own)
    (hf : (f, fnMade name qual params body scope cl doc pm c' ctv) ∈ own) (hc : (c', oc) ∈ own) (hcd : oc.data = .fields vs) (hcv : vs[1]? = some (.str qual tq))
    (hbind : BindsTo s (fnX name qual params body scope cl .none .none doc pm none (.ref c') ctv) args binds) (hloc : ∀ y ∈ binds, scope.names.lookup y.1 = some .local)
    (hco : scope.isCoroutine = false) (hgen : scope.isGenerator = false) (hk : scope.kind = .function)
    (hcell : ∀ x ∈ scope.names, x.2 ≠ .cell)
    (h : ∀ (dp un : Nat) (gd : Option (List Code)) (cn : PySem.Str) (cs : Scope) (a : Addr) (ccd : Value) (cl' : List (PySem.Str × Addr)) (outer : List Env) (base g h₁ : Heap) (L L' : Addr)
      (p : Program) (loose : List PySem.Str) (mean : ExcName → Option Value) (mg mb : PySem.Str → Option Value),
      dp + (d + 1) ≤ 900 → un + u ≤ 9000 → Fr g L' h₁ (fun y => binds.reverse.lookup y) → News g L' h₁ own → Below (ktrTop dp un gd cn cs L a ccd cl' outer) base (envX cn cs L a ccd cl' :: outer) g → (hd.heap_39 w.params).In g → Top p loose mean mg mb g →
      (∀ b o, s.heap.get? b = some o → b ∉ own.map (·.1) → g.get? b = some o) → (∀ b o, g.get? b = some o → s.heap.get? b = some o) → (∀ q ∈ own, s.heap.get? q.1 = some q.2) →
      wpAny (model PG w) ((ktrTop dp un gd cn cs L a ccd cl' outer).deeper (envX qual scope L' f (.ref c') cl)) (execs body (envX qual scope L' f (.ref c') cl))
        (fun fl s' => R (.ok (.ret (match fl with | .ret v => v | _ => .none))) s')
        (fun e s' => wpAny (model PG w) ((ktrTop dp un gd cn cs L a ccd cl' outer).deeper (envX qual scope L' f (.ref c') cl)) (leaving (envX qual scope L' f (.ref c') cl) e) (fun _ s'' => R (.error e) s'') (fun e' s'' => R (.error e') s'') s')
        { s with heap := h₁, toks := s.toks + binds.length }) : codeAny (model PG w) A (.call (.ref f) args) R s := by
  obtain ⟨dp, un, gd, cn, cs, a, ccd, cl', outer, A₀, base, h₀, L, m, p, loose, mean, mg, mb, rfl, B, F, X₀, T, hke, hd, hu, N⟩ := C
  obtain ⟨FG, BG, st, _⟩ := groundX (R := R) (A := ktrTop dp un gd cn cs L a ccd cl' outer) (env := envX cn cs L a ccd cl') B F N rfl rfl hke
  have hroom : (ktrTop dp un gd cn cs L a ccd cl' outer).depth < recursionLimit := Nat.lt_of_le_of_lt (Nat.le_trans (Nat.le_add_right _ _) hd) (by decide)
  refine codeAny_call_def (fd := fnX name qual params body scope cl .none .none doc pm none (.ref c') ctv) (body := body) (binds := binds) hroom (N _ hf).1 rfl (T.nolimit.keeps F.keep) (codeRec_news N hc hcd hcv) rfl hbind hcell hloc (fun h₁ hns hk₁ => ?_) hco hgen hk
  refine h dp un gd cn cs a ccd cl' outer base _ h₁ L s.heap.objs.size p loose mean mg mb hd hu ⟨hns, fun b o e => hk₁ b o (of_hideAll _ e), Nat.le_of_eq (hideAll_size _ _)⟩
    (fun p hp => ⟨hk₁ _ _ (N p hp).1, Nat.ne_of_lt (Heap.lt_size (N p hp).1), hideAll_none _ (List.mem_map_of_mem hp)⟩) BG (X₀.keeps st) (T.keeps st) (fun b o e n => hideAll_get _ e n) (fun b o e => of_hideAll _ e) (fun q hq => (N q hq).1)

noncomputable def lawStmts (P : Params) : List Stmt := match (hd.heap_39 P).lookup 189 with
  | some ⟨_, _, .func fd, _⟩ => (match fd.body with | .stmts b => b | _ => [])
  | _ => []
structure MacS (P : Params) where
  n : PySem.Str
  a : Arguments
  b : List Stmt
  sc : Scope
  pos : Pos
  h : (lawStmts P)[4]? = some (.FunctionDef n a b [] none [] sc none n pos)
noncomputable def macX (P : Params) : MacS P := by
  refine MacS.mk ?n ?a ?b ?sc ?p ?h
  case h =>
    conv =>
      lhs
      whnf
end Mine
end
section
set_option maxHeartbeats 4000000
namespace Mine
open PySem PySem.W PySem.Spec PySem.Calls PyProof.Rows

structure MR where
  f : Addr
  c' : Addr
  cc : Addr
  ck : Addr
  cs : Addr
  CL : Addr
  KN : Addr
  oc : Obj
  occ : Obj
  ock : Obj
  ocs : Obj
  doc : Value
  pm : Value
  ctv : Value
  qual : PySem.Str
  vs : Array Value
  tq : Tok
  ts : Tok
  small : Int
structure MSt where
  its : Array Value
  n : Nat
  od : Obj
  tups : List (Addr × Obj)
  cs : List (B8 × B8)
  xs : List Ent
noncomputable def MR.fn (r : MR) (w : World) : Obj := fnMade (macX w.params).n r.qual (macX w.params).a (macX w.params).b (macX w.params).sc [(PySem.Str.ofString "small", r.cs), (PySem.Str.ofString "known", r.ck), (PySem.Str.ofString "calls", r.cc)] r.doc r.pm r.c' r.ctv
noncomputable def MR.own (r : MR) (w : World) (σ : MSt) : List (Addr × Obj) :=
  (r.f, r.fn w) :: (r.c', r.oc) :: (r.cc, r.occ) :: (r.ck, r.ock) :: (r.cs, r.ocs) :: (r.CL, listOf σ.its σ.n) :: (r.KN, σ.od) :: σ.tups
structure MR.Ok (r : MR) : Prop where
  hoc : r.oc.data = .fields r.vs
  hvs : r.vs[1]? = some (.str r.qual r.tq)
  hcc : r.occ.data = .cell (some (.ref r.CL))
  hck : r.ock.data = .cell (some (.ref r.KN))
  hcs : r.ocs.data = .cell (some (.int r.small r.ts))
  sys : (r.KN == sysModules) = false
  lo : 1 ≤ r.small
  hi : r.small ≤ 300
  n1 : @Ne Nat r.f r.CL ∧ @Ne Nat r.c' r.CL ∧ @Ne Nat r.cc r.CL ∧ @Ne Nat r.ck r.CL ∧ @Ne Nat r.cs r.CL
  n2 : @Ne Nat r.f r.KN ∧ @Ne Nat r.c' r.KN ∧ @Ne Nat r.cc r.KN ∧ @Ne Nat r.ck r.KN ∧ @Ne Nat r.cs r.KN ∧ @Ne Nat r.CL r.KN
def TK (w : World) (tups : List (Addr × Obj)) (k : Key) (D : Addr) : Prop := ∃ o, (D, o) ∈ tups ∧ TupKeyObj (bytesKind PG w) k o
theorem TK.mono {w : World} {t t' : List (Addr × Obj)} (m : ∀ q ∈ t, q ∈ t') {k : Key} {D : Addr} (x : TK w t k D) : TK w t' k D := let ⟨o, h1, h2⟩ := x; ⟨o, m _ h1, h2⟩
theorem TK.at {w : World} {t : List (Addr × Obj)} {h : Heap} (m : ∀ q ∈ t, h.get? q.1 = some q.2) {k : Key} {D : Addr} (x : TK w t k D) : IsTupleKey (bytesKind PG w) h k D := let ⟨_, h1, h2⟩ := x; h2.key (m _ h1)
theorem tupB_obj {w : World} {a b : B8} {t1 t2 : Tok} {c : Nat} : TupKeyObj (bytesKind PG w) (keyOf a b) (tupB a b t1 t2 c) :=
  ⟨rfl, _, _, rfl, .cons (by simp [bytesKind, isBytes]) (.cons (by simp [bytesKind, isBytes]) .nil)⟩
def CallsAre (w : World) (t : List (Addr × Obj)) : List Value → List (B8 × B8) → Prop
  | [], [] => True
  | v :: vs, q :: qs => (∃ D, v = .ref D ∧ TK w t (keyOf q.1 q.2) D) ∧ CallsAre w t vs qs
  | _, _ => False
theorem CallsAre.mono {w : World} {t t' : List (Addr × Obj)} (m : ∀ q ∈ t, q ∈ t') : ∀ {vs qs}, CallsAre w t vs qs → CallsAre w t' vs qs
  | [], [], _ => trivial
  | _ :: _, _ :: _, ⟨⟨D, e, x⟩, r⟩ => ⟨⟨D, e, x.mono m⟩, CallsAre.mono m r⟩
theorem CallsAre.snoc {w : World} {t : List (Addr × Obj)} {D : Addr} {q : B8 × B8} (x : TK w t (keyOf q.1 q.2) D) : ∀ {vs qs}, CallsAre w t vs qs → CallsAre w t (vs ++ [.ref D]) (qs ++ [q])
  | [], [], _ => ⟨⟨D, rfl, x⟩, trivial⟩
  | _ :: _, _ :: _, ⟨y, r⟩ => ⟨y, CallsAre.snoc x r⟩
theorem CallsAre.length {w : World} {t : List (Addr × Obj)} : ∀ {vs qs}, CallsAre w t vs qs → vs.length = qs.length
  | [], [], _ => rfl
  | _ :: _, _ :: _, ⟨_, r⟩ => by rw [List.length_cons, List.length_cons, CallsAre.length r]
structure MW (w : World) (r : MR) (σ : MSt) : Prop where
  calls : CallsAre w σ.tups σ.its.toList σ.cs
  dict : DObj w σ.xs σ.od
  keys : ∀ x ∈ σ.xs, TK w σ.tups x.1 x.2.1
  vals : ∀ x ∈ σ.xs, ∃ (j : Int) (t : Tok), x.2.2 = .bytes (oct 32 j) t ∧ 1 ≤ j ∧ j < r.small + σ.xs.length
  nCL : ∀ p ∈ σ.tups, p.1 ≠ r.CL
  nKN : ∀ p ∈ σ.tups, p.1 ≠ r.KN
theorem MW.size {w : World} {r : MR} {σ : MSt} (M : MW w r σ) : σ.its.size = σ.cs.length := by
  have := M.calls.length
  rwa [Array.length_toList] at this
noncomputable def valOf (xs : List Ent) (k : Key) : Option B8 := match atKey xs k with
  | some (_, .bytes b _) => some b
  | _ => none
def Grow (xs xs' : List Ent) (m : Nat) : Prop := ∃ ys, xs' = xs ++ ys ∧ ys.length ≤ m
structure Step (w : World) (r : MR) (h h' : Heap) (σ σ' : MSt) (new : List (B8 × B8)) : Prop where
  keep : ∀ (b : Addr) (o : Obj), @Ne Nat b r.CL → @Ne Nat b r.KN → h.get? b = some o → h'.get? b = some o
  cl : h'.get? r.CL = some (listOf σ'.its σ'.n)
  kn : h'.get? r.KN = some σ'.od
  tup : ∀ q ∈ σ'.tups, h'.get? q.1 = some q.2
  fresh : ∀ q ∈ σ'.tups, NewOr (r.own w σ) h q.1
  mono : ∀ q ∈ σ.tups, q ∈ σ'.tups
  mw : MW w r σ'
  asked : σ'.cs = σ.cs ++ new
  grow : Grow σ.xs σ'.xs new.length
theorem atKey_app {xs ys : List Ent} {k : Key} {p : Addr × Value} (h : atKey xs k = some p) : atKey (xs ++ ys) k = some p := by
  unfold atKey at *
  rw [List.find?_append]
  cases q : xs.find? (fun x => decide (x.1 = k)) with
  | none => rw [q] at h; cases h
  | some e => rw [q] at h; exact h
theorem atKey_new {xs : List Ent} {k : Key} {a : Addr} {v : Value} (h : atKey xs k = none) : atKey (xs ++ [(k, a, v)]) k = some (a, v) := by
  unfold atKey at *
  rw [List.find?_append]
  cases q : xs.find? (fun x => decide (x.1 = k)) with
  | none => simp
  | some e => rw [q] at h; cases h
theorem atKey_mem {xs : List Ent} {k : Key} {p : Addr × Value} (h : atKey xs k = some p) : (k, p) ∈ xs := by
  unfold atKey at h
  obtain ⟨x, hx, rfl⟩ := Option.map_eq_some_iff.mp h
  have h1 := List.mem_of_find?_eq_some hx
  have h2 := List.find?_some hx
  have h3 : x.1 = k := of_decide_eq_true h2
  rw [← h3]
  exact h1
theorem valOf_app {xs ys : List Ent} {k : Key} {b : B8} (h : valOf xs k = some b) : valOf (xs ++ ys) k = some b := by
  unfold valOf at *
  cases q : atKey xs k with
  | none => rw [q] at h; cases h
  | some p => rw [q] at h; rw [atKey_app q]; exact h
theorem Grow.refl {xs : List Ent} {m : Nat} : Grow xs xs m := ⟨[], by simp, Nat.zero_le _⟩
theorem Grow.trans {a b c : List Ent} {m n : Nat} (x : Grow a b m) (y : Grow b c n) : Grow a c (m + n) := by
  obtain ⟨p, rfl, hp⟩ := x
  obtain ⟨q, rfl, hq⟩ := y
  exact ⟨p ++ q, by simp, by rw [List.length_append]; exact Nat.add_le_add hp hq⟩
theorem Grow.val {a b : List Ent} {m : Nat} (x : Grow a b m) {k : Key} {v : B8} (h : valOf a k = some v) : valOf b k = some v := by
  obtain ⟨p, rfl, _⟩ := x
  exact valOf_app h
theorem Grow.length {a b : List Ent} {m : Nat} (x : Grow a b m) : a.length ≤ b.length ∧ b.length ≤ a.length + m := by
  obtain ⟨p, rfl, hp⟩ := x
  rw [List.length_append]
  exact ⟨Nat.le_add_right _ _, Nat.add_le_add_left hp _⟩
theorem keys_at {w : World} {h : Heap} {xs : List Ent} {t : List (Addr × Obj)} (k : ∀ x ∈ xs, TK w t x.1 x.2.1) (m : ∀ q ∈ t, h.get? q.1 = some q.2) : Keys w h xs := fun x hx => (k x hx).at m
theorem keep_of {H g h' : Heap} {L' : Addr} {m : PySem.Str → Option Value} {own news : List (Addr × Obj)} {CL KN : Addr} (hs : ∀ b o, H.get? b = some o → b ∉ own.map (·.1) → g.get? b = some o) (ho : ∀ q ∈ own, H.get? q.1 = some q.2) (F : Fr g L' h' m) (N : News g L' h' news)
    (hsub : ∀ q ∈ own, @Ne Nat q.1 CL → @Ne Nat q.1 KN → q ∈ news) : ∀ (b : Addr) (o : Obj), @Ne Nat b CL → @Ne Nat b KN → H.get? b = some o → h'.get? b = some o := by
  intro b o h1 h2 e
  by_cases hb : b ∈ own.map (·.1)
  · obtain ⟨q, hq, rfl⟩ := List.mem_map.mp hb
    rw [ho q hq] at e
    cases e
    exact (N q (hsub q hq h1 h2)).1
  · exact F.keep _ _ (hs _ _ e hb)
theorem none_of {H g h : Heap} {L : Addr} {m : PySem.Str → Option Value} {own news : List (Addr × Obj)} (hs : ∀ b o, H.get? b = some o → b ∉ own.map (·.1) → g.get? b = some o) (F : Fr g L h m) (N : News g L h news) (hsub : ∀ q ∈ own, ∃ o, (q.1, o) ∈ news) {b : Addr} (e : h.get? b = none) : H.get? b = none := by
  cases q : H.get? b with
  | none => rfl
  | some o =>
    by_cases hb : b ∈ own.map (·.1)
    · obtain ⟨p, hp, rfl⟩ := List.mem_map.mp hb
      obtain ⟨o', ho'⟩ := hsub p hp
      rw [(N _ ho').1] at e
      cases e
    · rw [F.keep _ _ (hs _ _ q hb)] at e
      cases e
theorem own_all {w : World} {r : MR} {σ : MSt} {P : Addr × Obj → Prop} (h1 : P (r.f, r.fn w)) (h2 : P (r.c', r.oc)) (h3 : P (r.cc, r.occ)) (h4 : P (r.ck, r.ock)) (h5 : P (r.cs, r.ocs)) (h6 : P (r.CL, listOf σ.its σ.n)) (h7 : P (r.KN, σ.od)) (h8 : ∀ q ∈ σ.tups, P q) : ∀ q ∈ r.own w σ, P q :=
  List.forall_mem_cons.mpr ⟨h1, List.forall_mem_cons.mpr ⟨h2, List.forall_mem_cons.mpr ⟨h3, List.forall_mem_cons.mpr ⟨h4, List.forall_mem_cons.mpr ⟨h5, List.forall_mem_cons.mpr ⟨h6, List.forall_mem_cons.mpr ⟨h7, h8⟩⟩⟩⟩⟩⟩⟩
theorem own_1 {w : World} {r : MR} {σ : MSt} : (r.f, r.fn w) ∈ r.own w σ := List.Mem.head _
theorem own_2 {w : World} {r : MR} {σ : MSt} : (r.c', r.oc) ∈ r.own w σ := List.Mem.tail _ (List.Mem.head _)
theorem own_3 {w : World} {r : MR} {σ : MSt} : (r.cc, r.occ) ∈ r.own w σ := List.Mem.tail _ (List.Mem.tail _ (List.Mem.head _))
theorem own_4 {w : World} {r : MR} {σ : MSt} : (r.ck, r.ock) ∈ r.own w σ := List.Mem.tail _ (List.Mem.tail _ (List.Mem.tail _ (List.Mem.head _)))
theorem own_5 {w : World} {r : MR} {σ : MSt} : (r.cs, r.ocs) ∈ r.own w σ := List.Mem.tail _ (List.Mem.tail _ (List.Mem.tail _ (List.Mem.tail _ (List.Mem.head _))))
theorem own_6 {w : World} {r : MR} {σ : MSt} : (r.CL, listOf σ.its σ.n) ∈ r.own w σ := List.Mem.tail _ (List.Mem.tail _ (List.Mem.tail _ (List.Mem.tail _ (List.Mem.tail _ (List.Mem.head _)))))
theorem own_7 {w : World} {r : MR} {σ : MSt} : (r.KN, σ.od) ∈ r.own w σ := List.Mem.tail _ (List.Mem.tail _ (List.Mem.tail _ (List.Mem.tail _ (List.Mem.tail _ (List.Mem.tail _ (List.Mem.head _))))))
theorem Fr.step {w : World} {r : MR} {g h h' : Heap} {L : Addr} {m : PySem.Str → Option Value} {σ σ' : MSt} {new : List (B8 × B8)} {news : List (Addr × Obj)} (F : Fr g L h m) (N : News g L h news) (hs : ∀ q ∈ r.own w σ, q ∈ news) (S : Step w r h h' σ σ' new) : Fr g L h' m := by
  have c1 := (N _ (hs _ own_6)).2
  have c2 := (N _ (hs _ own_7)).2
  obtain ⟨⟨oL, es, ep, hL, hr⟩, kp, ab⟩ := F
  refine ⟨⟨oL, es, ep, S.keep _ _ (Ne.symm c1.1) (Ne.symm c2.1) hL, hr⟩, fun b o e => S.keep _ _ (fun q => ?_) (fun q => ?_) (kp _ _ e), ab⟩
  · have q' : b = r.CL := q
    rw [q', c1.2] at e
    cases e
  · have q' : b = r.KN := q
    rw [q', c2.2] at e
    cases e
theorem fresh_apart {g h : Heap} {L b : Addr} {m : PySem.Str → Option Value} (F : Fr g L h m) (h1 : h.get? b = none) : b ≠ L ∧ g.get? b = none := by
  refine ⟨fun e => ?_, ?_⟩
  · obtain ⟨oL, es, ep, hL, hr⟩ := F.ns
    rw [e, hL] at h1
    cases h1
  · cases q' : g.get? b with
    | none => rfl
    | some o => rw [F.keep _ _ q'] at h1; cases h1
theorem News.step {w : World} {r : MR} {g h h' : Heap} {L : Addr} {m : PySem.Str → Option Value} {σ σ' : MSt} {new : List (B8 × B8)} {news : List (Addr × Obj)} (F : Fr g L h m) (N : News g L h news) (K : r.Ok) (hs : ∀ q ∈ r.own w σ, q ∈ news) (S : Step w r h h' σ σ' new) : News g L h' (r.own w σ') := by
  have stay : ∀ q ∈ r.own w σ, @Ne Nat q.1 r.CL → @Ne Nat q.1 r.KN → h'.get? q.1 = some q.2 ∧ q.1 ≠ L ∧ g.get? q.1 = none := fun q hq h1 h2 => ⟨S.keep _ _ h1 h2 (N q (hs q hq)).1, (N q (hs q hq)).2⟩
  have c1 := (N _ (hs _ own_6)).2
  have c2 := (N _ (hs _ own_7)).2
  obtain ⟨n1, n2, n3, n4, n5⟩ := K.n1
  obtain ⟨m1, m2, m3, m4, m5, m6⟩ := K.n2
  refine own_all (P := fun q => h'.get? q.1 = some q.2 ∧ q.1 ≠ L ∧ g.get? q.1 = none) (stay _ own_1 n1 m1) (stay _ own_2 n2 m2) (stay _ own_3 n3 m3) (stay _ own_4 n4 m4) (stay _ own_5 n5 m5) ⟨S.cl, c1⟩ ⟨S.kn, c2⟩ fun q hq => ⟨S.tup q hq, ?_⟩
  clear stay c1 c2 n1 n2 n3 n4 n5 m1 m2 m3 m4 m5 m6 K
  rcases S.fresh q hq with h1 | h1
  · exact fresh_apart F h1
  · obtain ⟨p, hp, e⟩ := List.mem_map.mp h1
    exact e ▸ (N p (hs p hp)).2
end Mine
end
section
set_option maxHeartbeats 1000000
namespace Mine
open PySem PySem.W PySem.Spec PySem.Calls PyProof.Rows
theorem off_Mac2I : True := by
  w_top off
  exact True.intro
theorem nsub_Mac2 {news : List (Addr × Obj)} : ∀ q ∈ ([] : List (Addr × Obj)), q ∈ news := fun _ h => nomatch h
theorem kk5 : (hd.heap_39 = hd.heap_39) ∧ PySem.Challenge.rw_jv0012_01 = PySem.Challenge.rw_jv0012_01 := by
  k_fill
  exact ⟨rfl, rfl⟩
theorem units_ok {A : Around} (h : A.units ≤ 9500) : A.units + 1 < cLine := by
  have e : cLine = 9900 := by first | rfl | decide
  rw [e]
  exact Nat.lt_of_le_of_lt (Nat.succ_le_succ h) (by decide)
theorem szSmall {x : Int} (h0 : 0 ≤ x) (h1 : x ≤ 10000) : Sz 256 x := Sz.of_lt h0 (Int.lt_of_le_of_lt h1 (by decide))
theorem tups_at {g h : Heap} {L : Addr} {news tups : List (Addr × Obj)} (N : News g L h news) (hs : ∀ q ∈ tups, q ∈ news) : ∀ q ∈ tups, h.get? q.1 = some q.2 := fun q hq => (N q (hs q hq)).1
theorem newTup {prog : Program} {w : World} {A : Around} {E : Value → Shared → Prop} {s : Shared} {g : Heap} {L : Addr} {m : PySem.Str → Option Value} {news : List (Addr × Obj)} {vs : List Value} {Q : Value → Shared → Prop} (F : Fr g L s.heap m) (N : News g L s.heap news)
    (h : ∀ D h', Fr g L h' m → News g L h' ((D, { cls := .type "tuple", data := .seq vs.toArray }) :: news) → s.heap.StaysIn h' → s.heap.get? D = none → (∀ p ∈ news, p.1 < D) → (∀ p ∈ news, p.1 < D) → Q (.ref D) { s with heap := h' }) (hsz : vs.length ≤ sizeLine) :
    wpAny (model prog w) A (newTuple vs) Q E s := by
  have hn : s.heap.get? s.heap.objs.size = none := by
    cases q : s.heap.get? s.heap.objs.size with
    | none => rfl
    | some o => exact absurd (Heap.lt_size q) (Nat.lt_irrefl _)
  exact wpAny_newObj_type (h _ _ (F.push _) (N.push F _) (fun b o e => Heap.get?_push_of_some _ e) hn (fun p hp => Heap.lt_size (N p hp).1) (fun p hp => Heap.lt_size (N p hp).1)) (by show vs.toArray.size ≤ sizeLine; rw [List.size_toArray]; exact hsz)
theorem not_mem_of_lt {D : Addr} {own news : List (Addr × Obj)} (l : ∀ p ∈ news, p.1 < D) (hs : ∀ q ∈ own, q ∈ news) : D ∉ own.map (·.1) := by
  intro hm
  obtain ⟨q, hq, e⟩ := List.mem_map.mp hm
  have := l q (hs q hq)
  have e' : q.1 = D := e
  rw [e'] at this
  exact absurd this (Nat.lt_irrefl _)
theorem ne_of_lt_mem {D a : Addr} {o : Obj} {news : List (Addr × Obj)} (l : ∀ p ∈ news, p.1 < D) (hm : (a, o) ∈ news) : D ≠ a := fun e => absurd (l _ hm) (by rw [e]; exact Nat.lt_irrefl _)
local macro_rules | `(tactic| k_all) => `(tactic| with_reducible assumption)
theorem mac_old {w : World} {A : Around} {s : Shared} {Q E : Value → Shared → Prop} {r : MR} {σ : MSt} {a d : B8} {ta td : Tok} {p : Addr × Value}
   (C : Cx w 2 30 A s.heap (r.own w σ)) (K : r.Ok) (M : MW w r σ) (hx : σ.xs.length ≤ 900) (hi : σ.cs.length ≤ 900) (hp : atKey σ.xs (keyOf a d) = some p)
   (hQ : ∀ b t h' k σ', Step w r s.heap h' σ σ' [(a, d)] → valOf σ'.xs (keyOf a d) = some b → Q (.bytes b t) { s with heap := h', toks := k }) :
   wpAny (model PG w) A (call (.ref r.f) [.bytes a ta, .bytes d td]) Q E s := by
  have hi2 := M.size
  obtain ⟨f, c', cc, ck, cs, CL, KN, oc, occ, ock, ocs, doc, pm, ctv, qual, vs, tq, ts, small⟩ := r
  obtain ⟨its, n, od, tups, cls, xs⟩ := σ
  obtain ⟨hoc, hvs, hcc, hck, hcs, sys, lo, hi', ⟨n1, n2, n3, n4, n5⟩, m1, m2, m3, m4, m5, m6⟩ := K
  dsimp only [MR.own, MR.fn, macX] at *
  rw [← hi2] at hi
  clear hi2
  have m7 : @Ne Nat KN CL := Ne.symm m6
  have hzz : its.size ≤ sizeLine := Nat.le_trans hi (by rw [sizeLine_eq]; decide)
  obtain ⟨M1, M2, M3, M4, M5, M6⟩ := M
  dsimp only at M1 M2 M3 M4 M5 M6
  have hS : (atKey xs (keyOf a d)).isSome = !false := by rw [hp]; rfl
  refine wpAny_call ?_
  refine enterN (binds := [(PySem.Str.ofString "key", .bytes a ta), (PySem.Str.ofString "data", .bytes d td)]) C (List.mem_cons_self ..) (List.mem_cons_of_mem _ (List.mem_cons_self ..)) hoc hvs (BindsTo.of_eq rfl) (locs rfl) rfl rfl rfl (by decide) ?_
  intro dp un gd cn cs' a' ccd cl outer base g h₁ L L' p' loose mean mg mb hd hu F' N' B' X' T' hs hg ho
  clear C
  k_fold
  repeat' (first
    | (k_unfold; (try dsimp only))
    | (k_end; wrow_close)
    | with_reducible ( (with_reducible show wpAny _ _ (subscriptTail _ _ (Value.ref _) (Value.ref _)) _ _ _); k_dflt (refine' get_D (k := keyOf _ _) ?hz_hu ?hz_hk ?hz_ho ?hz_D ?hz_ks ?hz_hp ?_ ?hz_a ?hz_b; (case hz_a => with_unfolding_all rfl); (case hz_b => intro _; with_unfolding_all rfl); (case hz_D => with_reducible assumption); (case hz_hp => with_reducible assumption); (case hz_hu => (refine units_ok ?_; dsimp only [ktrTop, Around.deeper]; first | exact roomU (by with_reducible assumption) (by decide) | omega)); (case hz_ho => exact News.get (by k_asm) (by k_mem)); (case hz_hk => exact tupB_key (News.get (by k_asm) (by k_mem))); (case hz_ks => exact keys_at (by with_reducible assumption) (tups_at (by k_asm) (by intro q hq; repeat (first | with_reducible exact hq | refine List.mem_cons_of_mem _ ?_)))); k_whole); intro _; (try dsimp only))
    | ( (with_reducible show wpAny _ _ (subscriptTail _ _ (Value.ref _) (Value.ref _)) _ _ _); k_dflt (refine' get_D (k := keyOf _ _) ?hz_hu ?hz_hk ?hz_ho ?hz_D ?hz_ks ?hz_hp ?_ ?hz_a ?hz_b; (case hz_a => with_unfolding_all rfl); (case hz_b => intro _; with_unfolding_all rfl); (case hz_D => with_reducible assumption); (case hz_hp => with_reducible assumption); (case hz_hu => (refine units_ok ?_; dsimp only [ktrTop, Around.deeper]; first | exact roomU (by with_reducible assumption) (by decide) | omega)); (case hz_ho => exact News.get (by k_asm) (by k_mem)); (case hz_hk => exact tupB_key (News.get (by k_asm) (by k_mem))); (case hz_ks => exact keys_at (by with_reducible assumption) (tups_at (by k_asm) (by intro q hq; repeat (first | with_reducible exact hq | refine List.mem_cons_of_mem _ ?_)))); k_whole); intro _; (try dsimp only))
    | with_reducible ( (with_reducible show wpAny _ _ (compareOp CmpOp.NotIn (Value.ref _) (Value.ref _)) _ _ _); k_dflt (refine' notin_D (k := keyOf _ _) ?hz_hu ?hz_hd ?hz_hk ?hz_ho ?hz_D ?hz_ks ?hz_hr ?_; (case hz_D => with_reducible assumption); (case hz_hd => with_reducible assumption); (case hz_hr => with_reducible assumption); (case hz_hu => (refine units_ok ?_; dsimp only [ktrTop, Around.deeper]; first | exact roomU (by with_reducible assumption) (by decide) | omega)); (case hz_ho => exact News.get (by k_asm) (by k_mem)); (case hz_hk => exact tupB_key (News.get (by k_asm) (by k_mem))); (case hz_ks => exact keys_at (by with_reducible assumption) (tups_at (by k_asm) (by intro q hq; repeat (first | with_reducible exact hq | refine List.mem_cons_of_mem _ ?_)))); k_whole); intro _; (try dsimp only))
    | ( (with_reducible show wpAny _ _ (compareOp CmpOp.NotIn (Value.ref _) (Value.ref _)) _ _ _); k_dflt (refine' notin_D (k := keyOf _ _) ?hz_hu ?hz_hd ?hz_hk ?hz_ho ?hz_D ?hz_ks ?hz_hr ?_; (case hz_D => with_reducible assumption); (case hz_hd => with_reducible assumption); (case hz_hr => with_reducible assumption); (case hz_hu => (refine units_ok ?_; dsimp only [ktrTop, Around.deeper]; first | exact roomU (by with_reducible assumption) (by decide) | omega)); (case hz_ho => exact News.get (by k_asm) (by k_mem)); (case hz_hk => exact tupB_key (News.get (by k_asm) (by k_mem))); (case hz_ks => exact keys_at (by with_reducible assumption) (tups_at (by k_asm) (by intro q hq; repeat (first | with_reducible exact hq | refine List.mem_cons_of_mem _ ?_)))); k_whole); intro _; (try dsimp only))
    | with_reducible ((with_reducible show wpAny _ _ (eval (Expr.Name _ _) _) _ _ _); (k_dflt (refine' nameX_F ?hz_N ?hz_c ?hz_m ?hz_d ?_ ?hz_a ?hz_b; (case hz_a => rfl); (case hz_b => rfl); (case hz_N => k_asm); (case hz_c => rfl); (case hz_m => k_mem); (case hz_d => with_reducible assumption); k_whole)))
    | ((with_reducible show wpAny _ _ (eval (Expr.Name _ _) _) _ _ _); (k_dflt (refine' nameX_F ?hz_N ?hz_c ?hz_m ?hz_d ?_ ?hz_a ?hz_b; (case hz_a => rfl); (case hz_b => rfl); (case hz_N => k_asm); (case hz_c => rfl); (case hz_m => k_mem); (case hz_d => with_reducible assumption); k_whole)))
    | with_reducible ((with_reducible show wpAny _ _ (newTuple _) _ _ _); (k_dflt (refine' newTup ?hz_F ?hz_N ?_ ?hz_z; (case hz_F => k_asm); (case hz_N => k_asm); (case hz_z => first | k_dflt (exact szlit rfl) | size_fits)); intro _ _ F' N' _ _ _ l1; (try k_lt l1); (try k_sweep); (try dsimp only); (revert l1; intro _)))
    | ((with_reducible show wpAny _ _ (newTuple _) _ _ _); (k_dflt (refine' newTup ?hz_F ?hz_N ?_ ?hz_z; (case hz_F => k_asm); (case hz_N => k_asm); (case hz_z => first | k_dflt (exact szlit rfl) | size_fits)); intro _ _ F' N' _ _ _ l1; (try k_lt l1); (try k_sweep); (try dsimp only); (revert l1; intro _)))
    | walk1
    | (dsimp only; walk1)
    | (leave1; walk_say "STEP leave1"; try dsimp only)
    | fail "no step")
  rename Fr _ _ _ _ => F9
  rename News _ _ _ _ => N9
  obtain ⟨j, tj, ej, j1, j2⟩ := M4 _ (atKey_mem hp)
  obtain ⟨ap, vp⟩ := p
  dsimp only at ej
  subst ej
  rename (∀ p ∈ (_ :: (f, _) :: _ : List (Addr × Obj)), p.1 < _) => lB
  rename_i D2 hB sB eB l1B hC D3 hD sD eD lD l1D kD
  refine hQ _ _ _ _ ⟨its.push (.ref D2), n + 1, od, (D2, tupB a d ta td 0) :: tups, cls ++ [(a, d)], xs⟩ ⟨keep_of hs ho F9 N9 ?_, (N9 (CL, _) (by k_mem)).1, (N9 (KN, _) (by k_mem)).1, ?_, ?_, fun q hq => List.mem_cons_of_mem _ hq, ⟨?_, M2, fun x hx => (M3 x hx).mono fun q hq => List.mem_cons_of_mem _ hq, M4, ?_, ?_⟩, rfl, Grow.refl⟩ ?_
  · intro q hq h1 h2
    simp only [List.mem_cons] at hq
    rcases hq with rfl | rfl | rfl | rfl | rfl | rfl | rfl | hq
    · k_mem
    · k_mem
    · k_mem
    · k_mem
    · k_mem
    · exact absurd rfl h1
    · exact absurd rfl h2
    · repeat (first | exact hq | refine List.mem_cons_of_mem _ ?_)
  · intro q hq
    rcases List.mem_cons.mp hq with rfl | hq
    · exact News.get N9 (List.Mem.tail _ (List.Mem.head _))
    · exact tups_at N9 (by intro q hq; repeat (first | exact hq | refine List.mem_cons_of_mem _ ?_)) q hq
  · intro q hq
    rcases List.mem_cons.mp hq with rfl | hq
    · exact NewOr.trans1 hs N9 (List.Mem.tail _ (List.Mem.head _))
    · refine NewOr.trans1 hs N9 (o := q.2) ?_
      repeat (first | exact hq | refine List.mem_cons_of_mem _ ?_)
  · show CallsAre w _ (its.push _).toList _
    rw [Array.toList_push]
    exact CallsAre.snoc (q := (a, d)) ⟨_, List.mem_cons_self .., tupB_obj⟩ (M1.mono fun q hq => List.mem_cons_of_mem _ hq)
  · intro p hp
    rcases List.mem_cons.mp hp with rfl | hp
    · exact ne_of_lt_mem (a := CL) lB (by k_mem)
    · exact M5 p hp
  · intro p hp
    rcases List.mem_cons.mp hp with rfl | hp
    · exact ne_of_lt_mem (a := KN) lB (by k_mem)
    · exact M6 p hp
  · show valOf xs _ = _
    unfold valOf
    rw [hp]
end Mine
end
section
set_option maxHeartbeats 1000000
namespace Mine
open PySem PySem.W PySem.Spec PySem.Calls PyProof.Rows
theorem off_Mac3I : True := by
  w_top off
  exact True.intro
theorem nsub_Mac3 {news : List (Addr × Obj)} : ∀ q ∈ ([] : List (Addr × Obj)), q ∈ news := fun _ h => nomatch h
theorem kk6 : (hd.heap_39 = hd.heap_39) ∧ PySem.Challenge.rw_jv0012_01 = PySem.Challenge.rw_jv0012_01 := by
  k_fill
  exact ⟨rfl, rfl⟩
theorem keys_snoc {w : World} {h : Heap} {xs : List Ent} {k : Key} {D : Addr} {v : Value} (x : Keys w h xs) (y : IsTupleKey (bytesKind PG w) h k D) : Keys w h (xs ++ [(k, D, v)]) := by
  intro e he
  rcases List.mem_append.mp he with he | he
  · exact x e he
  · rw [List.mem_singleton] at he
    subst he
    exact y
theorem set_F {g h h' : Heap} {L KN : Addr} {m : PySem.Str → Option Value} {od o' : Obj} {news : List (Addr × Obj)} {gf : Obj → List (Addr × Obj)} (F : Fr g L h m) (N : News g L h news) (U : UpdF KN od news gf) (sb : Heap.SameBut KN h h') (ho' : h'.get? KN = some o') : Fr g L h' m ∧ News g L h' (gf o') := by
  obtain ⟨own, rest, rfl, hg, h1, h2⟩ := U.split
  have hmem := N (KN, od) (List.mem_append_right _ (.head _))
  refine ⟨⟨F.ns.sameBut sb (Ne.symm hmem.2.1), fun b ob e => (sb.2 b (fun q => ?_)).trans (F.keep b ob e), F.above⟩, hg o' ▸ N.setAt h1 h2 sb ho'⟩
  rw [q, hmem.2.2] at e
  cases e
theorem set_N {w : World} {A : Around} {E : Value → Shared → Prop} {s : Shared} {d a : Addr} {xs : List Ent} {k : Key} {o : Obj} {g : Heap} {L : Addr} {m : PySem.Str → Option Value} {news : List (Addr × Obj)} {gf : Obj → List (Addr × Obj)} {v : Value} {Q : Unit → Shared → Prop} (hu : A.units + 1 < cLine) (F : Fr g L s.heap m) (N : News g L s.heap news) (U : UpdF d o news gf)
    (hk : IsTupleKey (bytesKind PG w) s.heap k a) (D : DObj w xs o) (ks : Keys w s.heap xs) (hp : atKey xs k = none)
    (hsz : xs.length ≤ 1000) (h : ∀ h' o' k', Fr g L h' m → News g L h' (gf o') → DObj w (xs ++ [(k, a, v)]) o' → Q () { s with heap := h', toks := k' }) :
    wpAny (model PG w) A (setItem (.ref d) (.ref a) v) Q E s := by
  obtain ⟨own, rest, e, hg, h1, h2⟩ := U.split
  refine set_D hu hk (N (d, o) (by rw [e]; exact List.mem_append_right _ (.head _))).1 D ks hsz fun h' o' k' sb ho' D' ks' => ?_
  rw [storedH_new hp] at D'
  obtain ⟨F', N'⟩ := set_F F N U sb ho'
  exact h h' o' k' F' N' D'
local macro_rules | `(tactic| k_all) => `(tactic| with_reducible assumption)
theorem smNN {small : Int} {n : Nat} (h : 1 ≤ small) : 0 ≤ small + (n : Int) := Int.add_nonneg (Int.le_trans (by decide) h) (Int.natCast_nonneg _)
theorem smHi {small : Int} {n : Nat} (h : small ≤ 300) (h' : n ≤ 900) : small + (n : Int) ≤ 10000 := Int.le_trans (Int.add_le_add h (Int.ofNat_le.mpr h')) (by decide)
theorem mac_new {w : World} {A : Around} {s : Shared} {Q E : Value → Shared → Prop} {r : MR} {σ : MSt} {a d : B8} {ta td : Tok}
   (C : Cx w 2 30 A s.heap (r.own w σ)) (K : r.Ok) (M : MW w r σ) (hx : σ.xs.length ≤ 900) (hi : σ.cs.length ≤ 900) (hp : atKey σ.xs (keyOf a d) = none)
   (hQ : ∀ b t h' k σ', Step w r s.heap h' σ σ' [(a, d)] → valOf σ'.xs (keyOf a d) = some b → Q (.bytes b t) { s with heap := h', toks := k }) :
   wpAny (model PG w) A (call (.ref r.f) [.bytes a ta, .bytes d td]) Q E s := by
  have hi2 := M.size
  obtain ⟨f, c', cc, ck, cs, CL, KN, oc, occ, ock, ocs, doc, pm, ctv, qual, vs, tq, ts, small⟩ := r
  obtain ⟨its, n, od, tups, cls, xs⟩ := σ
  obtain ⟨hoc, hvs, hcc, hck, hcs, sys, lo, hi', ⟨n1, n2, n3, n4, n5⟩, m1, m2, m3, m4, m5, m6⟩ := K
  dsimp only [MR.own, MR.fn, macX] at *
  rw [← hi2] at hi
  clear hi2
  have m7 : @Ne Nat KN CL := Ne.symm m6
  have hzz : its.size ≤ sizeLine := Nat.le_trans hi (by rw [sizeLine_eq]; decide)
  obtain ⟨M1, M2, M3, M4, M5, M6⟩ := M
  dsimp only at M1 M2 M3 M4 M5 M6
  have hS : (atKey xs (keyOf a d)).isSome = !true := by rw [hp]; rfl
  refine wpAny_call ?_
  refine enterN (binds := [(PySem.Str.ofString "key", .bytes a ta), (PySem.Str.ofString "data", .bytes d td)]) C (List.mem_cons_self ..) (List.mem_cons_of_mem _ (List.mem_cons_self ..)) hoc hvs (BindsTo.of_eq rfl) (locs rfl) rfl rfl rfl (by decide) ?_
  intro dp un gd cn cs' a' ccd cl outer base g h₁ L L' p' loose mean mg mb hd hu F' N' B' X' T' hs hg ho
  clear C
  k_fold
  repeat' (first
    | (k_unfold; (try dsimp only))
    | (k_end; wrow_close)
    | with_reducible ( (with_reducible show wpAny _ _ (call (Value.ref 165) [Value.int _ _]) _ _ _); (refine' octets (Cx.of ?hz_B ?hz_F ?hz_X ?hz_T ?hz_K ?hz_d ?hz_u ?hz_N ?hz_S) ?hz_z ?hz_z' ?_); (case hz_B => k_asm); (case hz_F => k_asm); (case hz_X => k_asm); (case hz_T => k_asm); (case hz_K => first | exact rfl | assumption); (case hz_N => k_asm); (case hz_d => dsimp only; first | exact room1 (by with_reducible assumption) (by decide) | omega); (case hz_u => dsimp only; first | exact room1 (by with_reducible assumption) (by decide) | omega); (case hz_S => exact nsub_Mac3); (case hz_z => exact smNN (by with_reducible assumption)); (case hz_z' => exact szSmall (smNN (by with_reducible assumption)) (smHi (by with_reducible assumption) (by with_reducible assumption))); intro _ _ _ st'; (have F' := Fr.stay (by k_asm) st'); (have N' := News.stay (by k_asm) st'); (revert st'; intro _); (try dsimp only); (try k_fold))
    | ( (with_reducible show wpAny _ _ (call (Value.ref 165) [Value.int _ _]) _ _ _); (refine' octets (Cx.of ?hz_B ?hz_F ?hz_X ?hz_T ?hz_K ?hz_d ?hz_u ?hz_N ?hz_S) ?hz_z ?hz_z' ?_); (case hz_B => k_asm); (case hz_F => k_asm); (case hz_X => k_asm); (case hz_T => k_asm); (case hz_K => first | exact rfl | assumption); (case hz_N => k_asm); (case hz_d => dsimp only; first | exact room1 (by with_reducible assumption) (by decide) | omega); (case hz_u => dsimp only; first | exact room1 (by with_reducible assumption) (by decide) | omega); (case hz_S => exact nsub_Mac3); (case hz_z => exact smNN (by with_reducible assumption)); (case hz_z' => exact szSmall (smNN (by with_reducible assumption)) (smHi (by with_reducible assumption) (by with_reducible assumption))); intro _ _ _ st'; (have F' := Fr.stay (by k_asm) st'); (have N' := News.stay (by k_asm) st'); (revert st'; intro _); (try dsimp only); (try k_fold))
    | with_reducible ((with_reducible refine addS ?_); intro _ _; (try dsimp only))
    | ((with_reducible refine addS ?_); intro _ _; (try dsimp only))
    | with_reducible ( (with_reducible show wpAny _ _ (call (Value.builtin "len") [Value.ref _]) _ _ _); k_dflt (refine' len_D ?hz_hd ?hz_ho ?hz_D ?hz_z ?_; (case hz_D => with_reducible assumption); (case hz_hd => with_reducible assumption); (case hz_ho => exact News.get (by k_asm) (by k_mem)); (case hz_z => first | exact leN (by with_reducible assumption) (by decide) | omega); k_whole); intro _ _; (try dsimp only))
    | ( (with_reducible show wpAny _ _ (call (Value.builtin "len") [Value.ref _]) _ _ _); k_dflt (refine' len_D ?hz_hd ?hz_ho ?hz_D ?hz_z ?_; (case hz_D => with_reducible assumption); (case hz_hd => with_reducible assumption); (case hz_ho => exact News.get (by k_asm) (by k_mem)); (case hz_z => first | exact leN (by with_reducible assumption) (by decide) | omega); k_whole); intro _ _; (try dsimp only))
    | with_reducible ( (with_reducible show wpAny _ _ (setItem (Value.ref _) (Value.ref _) _) _ _ _); k_dflt (refine' set_N (k := keyOf _ _) ?hz_hu ?hz_F ?hz_N ?hz_U ?hz_hk ?hz_D ?hz_ks ?hz_hp ?hz_z ?_; (case hz_F => k_asm); (case hz_N => k_asm); (case hz_D => with_reducible assumption); (case hz_U => k_updF); (case hz_hu => (refine units_ok ?_; dsimp only [ktrTop, Around.deeper]; first | exact roomU (by with_reducible assumption) (by decide) | omega)); (case hz_hk => exact tupB_key (News.get (by k_asm) (by k_mem))); (case hz_ks => exact keys_at (by with_reducible assumption) (tups_at (by k_asm) (by intro q hq; repeat (first | with_reducible exact hq | refine List.mem_cons_of_mem _ ?_)))); (case hz_hp => with_reducible assumption); (case hz_z => first | exact leN (by with_reducible assumption) (by decide) | omega); k_whole); intro _ _ _ F' N' D'; (try dsimp only at N'); (try k_sweep); (try dsimp only); (revert D'; intro _))
    | ( (with_reducible show wpAny _ _ (setItem (Value.ref _) (Value.ref _) _) _ _ _); k_dflt (refine' set_N (k := keyOf _ _) ?hz_hu ?hz_F ?hz_N ?hz_U ?hz_hk ?hz_D ?hz_ks ?hz_hp ?hz_z ?_; (case hz_F => k_asm); (case hz_N => k_asm); (case hz_D => with_reducible assumption); (case hz_U => k_updF); (case hz_hu => (refine units_ok ?_; dsimp only [ktrTop, Around.deeper]; first | exact roomU (by with_reducible assumption) (by decide) | omega)); (case hz_hk => exact tupB_key (News.get (by k_asm) (by k_mem))); (case hz_ks => exact keys_at (by with_reducible assumption) (tups_at (by k_asm) (by intro q hq; repeat (first | with_reducible exact hq | refine List.mem_cons_of_mem _ ?_)))); (case hz_hp => with_reducible assumption); (case hz_z => first | exact leN (by with_reducible assumption) (by decide) | omega); k_whole); intro _ _ _ F' N' D'; (try dsimp only at N'); (try k_sweep); (try dsimp only); (revert D'; intro _))
    | with_reducible ( (with_reducible show wpAny _ _ (subscriptTail _ _ (Value.ref _) (Value.ref _)) _ _ _); k_dflt (refine' get_D (k := keyOf _ _) ?hz_hu ?hz_hk ?hz_ho ?hz_D ?hz_ks ?hz_hp ?_ ?hz_a ?hz_b; (case hz_a => with_unfolding_all rfl); (case hz_b => intro _; with_unfolding_all rfl); (case hz_D => with_reducible assumption); (case hz_hp => exact atKey_new (by with_reducible assumption)); (case hz_hu => (refine units_ok ?_; dsimp only [ktrTop, Around.deeper]; first | exact roomU (by with_reducible assumption) (by decide) | omega)); (case hz_ho => exact News.get (by k_asm) (by k_mem)); (case hz_hk => exact tupB_key (News.get (by k_asm) (by k_mem))); (case hz_ks => exact keys_snoc (keys_at (by with_reducible assumption) (tups_at (by k_asm) (by intro q hq; repeat (first | with_reducible exact hq | refine List.mem_cons_of_mem _ ?_)))) (tupB_key (News.get (by k_asm) (by k_mem))))); intro _; (try dsimp only))
    | ( (with_reducible show wpAny _ _ (subscriptTail _ _ (Value.ref _) (Value.ref _)) _ _ _); k_dflt (refine' get_D (k := keyOf _ _) ?hz_hu ?hz_hk ?hz_ho ?hz_D ?hz_ks ?hz_hp ?_ ?hz_a ?hz_b; (case hz_a => with_unfolding_all rfl); (case hz_b => intro _; with_unfolding_all rfl); (case hz_D => with_reducible assumption); (case hz_hp => exact atKey_new (by with_reducible assumption)); (case hz_hu => (refine units_ok ?_; dsimp only [ktrTop, Around.deeper]; first | exact roomU (by with_reducible assumption) (by decide) | omega)); (case hz_ho => exact News.get (by k_asm) (by k_mem)); (case hz_hk => exact tupB_key (News.get (by k_asm) (by k_mem))); (case hz_ks => exact keys_snoc (keys_at (by with_reducible assumption) (tups_at (by k_asm) (by intro q hq; repeat (first | with_reducible exact hq | refine List.mem_cons_of_mem _ ?_)))) (tupB_key (News.get (by k_asm) (by k_mem))))); intro _; (try dsimp only))
    | with_reducible ( (with_reducible show wpAny _ _ (compareOp CmpOp.NotIn (Value.ref _) (Value.ref _)) _ _ _); k_dflt (refine' notin_D (k := keyOf _ _) ?hz_hu ?hz_hd ?hz_hk ?hz_ho ?hz_D ?hz_ks ?hz_hr ?_; (case hz_D => with_reducible assumption); (case hz_hd => with_reducible assumption); (case hz_hr => with_reducible assumption); (case hz_hu => (refine units_ok ?_; dsimp only [ktrTop, Around.deeper]; first | exact roomU (by with_reducible assumption) (by decide) | omega)); (case hz_ho => exact News.get (by k_asm) (by k_mem)); (case hz_hk => exact tupB_key (News.get (by k_asm) (by k_mem))); (case hz_ks => exact keys_at (by with_reducible assumption) (tups_at (by k_asm) (by intro q hq; repeat (first | with_reducible exact hq | refine List.mem_cons_of_mem _ ?_)))); k_whole); intro _; (try dsimp only))
    | ( (with_reducible show wpAny _ _ (compareOp CmpOp.NotIn (Value.ref _) (Value.ref _)) _ _ _); k_dflt (refine' notin_D (k := keyOf _ _) ?hz_hu ?hz_hd ?hz_hk ?hz_ho ?hz_D ?hz_ks ?hz_hr ?_; (case hz_D => with_reducible assumption); (case hz_hd => with_reducible assumption); (case hz_hr => with_reducible assumption); (case hz_hu => (refine units_ok ?_; dsimp only [ktrTop, Around.deeper]; first | exact roomU (by with_reducible assumption) (by decide) | omega)); (case hz_ho => exact News.get (by k_asm) (by k_mem)); (case hz_hk => exact tupB_key (News.get (by k_asm) (by k_mem))); (case hz_ks => exact keys_at (by with_reducible assumption) (tups_at (by k_asm) (by intro q hq; repeat (first | with_reducible exact hq | refine List.mem_cons_of_mem _ ?_)))); k_whole); intro _; (try dsimp only))
    | with_reducible ((with_reducible show wpAny _ _ (eval (Expr.Name _ _) _) _ _ _); (k_dflt (refine' nameX_F ?hz_N ?hz_c ?hz_m ?hz_d ?_ ?hz_a ?hz_b; (case hz_a => rfl); (case hz_b => rfl); (case hz_N => k_asm); (case hz_c => rfl); (case hz_m => k_mem); (case hz_d => with_reducible assumption); k_whole)))
    | ((with_reducible show wpAny _ _ (eval (Expr.Name _ _) _) _ _ _); (k_dflt (refine' nameX_F ?hz_N ?hz_c ?hz_m ?hz_d ?_ ?hz_a ?hz_b; (case hz_a => rfl); (case hz_b => rfl); (case hz_N => k_asm); (case hz_c => rfl); (case hz_m => k_mem); (case hz_d => with_reducible assumption); k_whole)))
    | with_reducible ((with_reducible show wpAny _ _ (newTuple _) _ _ _); (k_dflt (refine' newTup ?hz_F ?hz_N ?_ ?hz_z; (case hz_F => k_asm); (case hz_N => k_asm); (case hz_z => first | k_dflt (exact szlit rfl) | size_fits)); intro _ _ F' N' _ _ _ l1; (try k_lt l1); (try k_sweep); (try dsimp only); (revert l1; intro _)))
    | ((with_reducible show wpAny _ _ (newTuple _) _ _ _); (k_dflt (refine' newTup ?hz_F ?hz_N ?_ ?hz_z; (case hz_F => k_asm); (case hz_N => k_asm); (case hz_z => first | k_dflt (exact szlit rfl) | size_fits)); intro _ _ F' N' _ _ _ l1; (try k_lt l1); (try k_sweep); (try dsimp only); (revert l1; intro _)))
    | walk1
    | (dsimp only; walk1)
    | (leave1; walk_say "STEP leave1"; try dsimp only)
    | fail "no step")
  rename Fr _ _ _ _ => F9
  rename News _ _ _ _ => N9
  rename DObj _ (_ ++ _) _ => D9
  rename (∀ p ∈ (_ :: (f, _) :: _ : List (Addr × Obj)), p.1 < _) => lK
  rename (∀ p ∈ (_ :: _ :: (f, _) :: _ : List (Addr × Obj)), p.1 < _) => lC
  rename_i tA hA5 kA5 stA DK hK sK eK l1K h3 oN k1 DC hC sC eC l1C hE D5 h5 s5 e5 l5 l15 k5
  have lC' := fun p hp => Nat.lt_trans (lK p hp) (lC _ (List.mem_cons_self ..))
  refine hQ _ _ _ _ ⟨its.push (.ref DC), n + 1, oN, (DC, tupB a d ta td 0) :: (DK, tupB a d ta td 0) :: tups, cls ++ [(a, d)], xs ++ [(keyOf a d, DK, .bytes (oct 32 (small + (xs.length : Nat))) tA)]⟩ ⟨keep_of hs ho F9 N9 ?_, (N9 (CL, _) (by k_mem)).1, (N9 (KN, _) (by k_mem)).1, ?_, ?_, fun q hq => List.mem_cons_of_mem _ (List.mem_cons_of_mem _ hq), ⟨?_, D9, ?_, ?_, ?_, ?_⟩, rfl, ⟨[_], rfl, Nat.le_refl _⟩⟩ ?_
  · intro q hq h1 h2
    simp only [List.mem_cons] at hq
    rcases hq with rfl | rfl | rfl | rfl | rfl | rfl | rfl | hq
    · k_mem
    · k_mem
    · k_mem
    · k_mem
    · k_mem
    · exact absurd rfl h1
    · exact absurd rfl h2
    · repeat (first | exact hq | refine List.mem_cons_of_mem _ ?_)
  · intro q hq
    rcases List.mem_cons.mp hq with rfl | hq
    · exact News.get N9 (List.Mem.tail _ (List.Mem.head _))
    · rcases List.mem_cons.mp hq with rfl | hq
      · exact News.get N9 (List.Mem.tail _ (List.Mem.tail _ (List.Mem.head _)))
      · exact tups_at N9 (by intro q hq; repeat (first | exact hq | refine List.mem_cons_of_mem _ ?_)) q hq
  · intro q hq
    rcases List.mem_cons.mp hq with rfl | hq
    · exact NewOr.trans1 hs N9 (List.Mem.tail _ (List.Mem.head _))
    · rcases List.mem_cons.mp hq with rfl | hq
      · exact NewOr.trans1 hs N9 (List.Mem.tail _ (List.Mem.tail _ (List.Mem.head _)))
      · refine NewOr.trans1 hs N9 (o := q.2) ?_
        repeat (first | exact hq | refine List.mem_cons_of_mem _ ?_)
  · show CallsAre w _ (its.push _).toList _
    rw [Array.toList_push]
    exact CallsAre.snoc (q := (a, d)) ⟨_, List.mem_cons_self .., tupB_obj⟩ (M1.mono fun q hq => List.mem_cons_of_mem _ (List.mem_cons_of_mem _ hq))
  · intro x hx'
    rcases List.mem_append.mp hx' with hx' | hx'
    · exact (M3 x hx').mono fun q hq => List.mem_cons_of_mem _ (List.mem_cons_of_mem _ hq)
    · rw [List.mem_singleton] at hx'
      subst hx'
      exact ⟨_, List.mem_cons_of_mem _ (List.mem_cons_self ..), tupB_obj⟩
  · intro x hx'
    dsimp only at hx' ⊢
    rw [List.length_append, List.length_singleton]
    rcases List.mem_append.mp hx' with hx' | hx'
    · obtain ⟨j, tj, ej, j1, j2⟩ := M4 x hx'
      exact ⟨j, tj, ej, j1, Int.lt_of_lt_of_le j2 (Int.add_le_add_left (Int.ofNat_le.mpr (Nat.le_succ _)) _)⟩
    · rw [List.mem_singleton] at hx'
      subst hx'
      exact ⟨small + (xs.length : Nat), _, rfl, Int.le_trans (by assumption) (Int.le_add_of_nonneg_right (Int.natCast_nonneg _)), Int.add_lt_add_left (Int.ofNat_lt.mpr (Nat.lt_succ_self _)) _⟩
  · intro p hp
    rcases List.mem_cons.mp hp with rfl | hp
    · exact ne_of_lt_mem (a := CL) lC' (by k_mem)
    · rcases List.mem_cons.mp hp with rfl | hp
      · exact ne_of_lt_mem (a := CL) lK (by k_mem)
      · exact M5 p hp
  · intro p hp
    rcases List.mem_cons.mp hp with rfl | hp
    · exact ne_of_lt_mem (a := KN) lC' (by k_mem)
    · rcases List.mem_cons.mp hp with rfl | hp
      · exact ne_of_lt_mem (a := KN) lK (by k_mem)
      · exact M6 p hp
  · show valOf (xs ++ [_]) _ = _
    unfold valOf
    rw [atKey_new hp]
theorem mac_ {w : World} {A : Around} {s : Shared} {Q E : Value → Shared → Prop} {r : MR} {σ : MSt} {a d : B8} {ta td : Tok}
   (C : Cx w 2 30 A s.heap (r.own w σ)) (K : r.Ok) (M : MW w r σ) (hx : σ.xs.length ≤ 900) (hi : σ.cs.length ≤ 900)
   (hQ : ∀ b t h' k σ', Step w r s.heap h' σ σ' [(a, d)] → valOf σ'.xs (keyOf a d) = some b → Q (.bytes b t) { s with heap := h', toks := k }) :
   wpAny (model PG w) A (call (.ref r.f) [.bytes a ta, .bytes d td]) Q E s := by
  cases hp : atKey σ.xs (keyOf a d) with
  | none => exact mac_new C K M hx hi hp hQ
  | some p => exact mac_old C K M hx hi hp hQ
end Mine
end
section
set_option maxHeartbeats 2000000
namespace Mine
open PySem PySem.W PySem.Spec PySem.Calls PyProof.Rows
theorem off_DigI : True := by
  w_top off
  exact True.intro
theorem nsub_Dig {news : List (Addr × Obj)} : ∀ q ∈ ([] : List (Addr × Obj)), q ∈ news := fun _ h => nomatch h
theorem kk7 : (hd.heap_39 = hd.heap_39) ∧ PySem.Challenge.rw_jv0012_01 = PySem.Challenge.rw_jv0012_01 := by
  k_fill
  exact ⟨rfl, rfl⟩
noncomputable def Z32 : B8 := Array.replicate 32 0
noncomputable def O32 : B8 := Array.replicate 32 1
noncomputable def questions (sec msg a0 a1 a2 a3 : B8) : List (B8 × B8) := [(Z32, O32 ++ #[0] ++ sec ++ msg), (a0, O32), (a0, a1 ++ #[1] ++ sec ++ msg), (a2, a1), (a2, a3)]
def Chain (xs : List Ent) (sec msg a0 a1 a2 a3 a4 : B8) : Prop :=
  valOf xs (keyOf Z32 (O32 ++ #[0] ++ sec ++ msg)) = some a0 ∧ valOf xs (keyOf a0 O32) = some a1 ∧ valOf xs (keyOf a0 (a1 ++ #[1] ++ sec ++ msg)) = some a2 ∧ valOf xs (keyOf a2 a1) = some a3 ∧ valOf xs (keyOf a2 a3) = some a4
theorem fn_at {w : World} {r : MR} {σ : MSt} {g h : Heap} {L : Addr} {news : List (Addr × Obj)} (N : News g L h news) (hs : ∀ q ∈ r.own w σ, q ∈ news) : FnAt r.f h :=
  ⟨_, _, _, _, (N _ (hs (r.f, r.fn w) (List.mem_cons_self ..))).1⟩
theorem valOf_oct {w : World} {r : MR} {σ : MSt} (M : MW w r σ) {k : Key} {b : B8} (h : valOf σ.xs k = some b) : ∃ j : Int, b = oct 32 j ∧ 1 ≤ j ∧ j < r.small + σ.xs.length := by
  unfold valOf at h
  cases q : atKey σ.xs k with
  | none => rw [q] at h; cases h
  | some p =>
    rw [q] at h
    obtain ⟨j, t, e, h1, h2⟩ := M.vals _ (atKey_mem q)
    obtain ⟨ap, vp⟩ := p
    dsimp only at e
    subst e
    cases h
    exact ⟨j, rfl, h1, h2⟩
theorem valOf_size {w : World} {r : MR} {σ : MSt} (M : MW w r σ) {k : Key} {b : B8} (h : valOf σ.xs k = some b) : b.size = 32 := by
  obtain ⟨j, rfl, _⟩ := valOf_oct M h
  exact oct_size 32 j

noncomputable abbrev macDict (w : World) (k d : B8) (f : Addr) (t1 t2 t3 tk td : Tok) : Obj :=
  dictOf [⟨PyData.keyHash w.params (PySem.Str.ofString "key"), .str (PySem.Str.ofString "key") t1, .bytes k tk⟩, ⟨PyData.keyHash w.params (PySem.Str.ofString "data"), .str (PySem.Str.ofString "data") t2, .bytes d td⟩, ⟨PyData.keyHash w.params (PySem.Str.ofString "digest_fn"), .str (PySem.Str.ofString "digest_fn") t3, .ref f⟩] 3
theorem News.step2 {w : World} {r : MR} {g h h' : Heap} {L : Addr} {m : PySem.Str → Option Value} {σ σ' : MSt} {new : List (B8 × B8)} {news pre : List (Addr × Obj)} (F : Fr g L h m) (N : News g L h news) (K : r.Ok) (hs : ∀ q ∈ r.own w σ, q ∈ news) (S : Step w r h h' σ σ' new) (hp : ∀ q ∈ pre, q ∈ news ∧ @Ne Nat q.1 r.CL ∧ @Ne Nat q.1 r.KN) : News g L h' (pre ++ r.own w σ') := by
  intro q hq
  rcases List.mem_append.mp hq with hq | hq
  · obtain ⟨h1, h2, h3⟩ := hp q hq
    exact ⟨S.keep _ _ h2 h3 (N q h1).1, (N q h1).2⟩
  · exact News.step F N K hs S q hq
theorem News.step3 {w : World} {r : MR} {g h h' : Heap} {L : Addr} {m : PySem.Str → Option Value} {σ σ' : MSt} {new : List (B8 × B8)} {p1 p2 : Addr × Obj} (F : Fr g L h m) (N : News g L h (p1 :: p2 :: r.own w σ)) (K : r.Ok) (S : Step w r h h' σ σ' new) (h1 : @Ne Nat p1.1 r.CL) (h2 : @Ne Nat p1.1 r.KN) (h3 : @Ne Nat p2.1 r.CL) (h4 : @Ne Nat p2.1 r.KN) : News g L h' (p1 :: p2 :: r.own w σ') := by
  refine News.step2 (pre := [p1, p2]) F N K (fun q hq => List.mem_cons_of_mem _ (List.mem_cons_of_mem _ hq)) S fun q hq => ?_
  rw [List.mem_cons, List.mem_singleton] at hq
  rcases hq with rfl | rfl
  · exact ⟨List.mem_cons_self .., h1, h2⟩
  · exact ⟨List.mem_cons_of_mem _ (List.mem_cons_self ..), h3, h4⟩
theorem News.fresh_cons2 {h₀ h h' : Heap} {L D D' : Addr} {m : PySem.Str → Option Value} {o o' : Obj} {news : List (Addr × Obj)} (F : Fr h₀ L h m) (N : News h₀ L h news) (st : h.StaysIn h') (hD : h'.get? D = some o) (fr : h.get? D = none) (hD' : h'.get? D' = some o') (fr' : h.get? D' = none) : News h₀ L h' ((D, o) :: (D', o') :: news) := by
  intro p hp
  rcases List.mem_cons.mp hp with rfl | hp
  · exact News.fresh_cons F N st hD fr _ (List.mem_cons_self ..)
  · exact News.fresh_cons F N st hD' fr' p hp
local macro_rules | `(tactic| k_room) => `(tactic| ((try simp only [depth_under_make, depth_under_kw, depth_in1, depth_deeper, depth_caller]); (try dsimp only [ktrTop]); (show @LT.lt Nat _ _ 1000); omega))

theorem mnew {w : World} {A : Around} {s : Shared} {Q E : Value → Shared → Prop} {f : Addr} {k d : B8} {tk td : Tok}
   (C : Cx w 4 40 A s.heap [])
   (hQ : ∀ x dx t1 t2 t3 h' kk, s.heap.StaysIn h' → h'.get? x = some (instObj 52 dx) → h'.get? dx = some (macDict w k d f t1 t2 t3 tk td) → s.heap.get? x = none → s.heap.get? dx = none → @LT.lt Nat _ dx x → Q (.ref x) { s with heap := h', toks := kk }) :
   wpAny (model PG w) A (call (.ref 70) [.bytes k tk, .bytes d td, .ref f]) Q E s := by
  refine wpAny_call ?_
  refine enter (binds := [(PySem.Str.ofString "key", .bytes k tk), (PySem.Str.ofString "data", .bytes d td), (PySem.Str.ofString "digest_fn", .ref f)]) C (by k_is) (by k_is) (BindsTo.of_eq rfl) (locs rfl) rfl rfl rfl (by decide) ?_
  intro dp un gd cn cs a ccd cl outer base g h₁ L L' p loose mean mg mb hd hu F' N' B' X' T' hs hg ho
  clear C
  k_fold
  repeat' (first
    | (k_unfold; (try dsimp only))
    | (k_end; wrow_close)
    | walk1
    | (dsimp only; walk1)
    | (leave1; walk_say "STEP leave1"; try dsimp only)
    | fail "no step")
  rename Fr _ _ _ _ => F9
  rename News _ _ _ _ => N9
  have f1 := end_fresh hs N9 (List.Mem.head _) (fun hm => nomatch hm)
  have f2 := end_fresh hs N9 (List.Mem.tail _ (List.Mem.head _)) (fun hm => nomatch hm)
  exact hQ _ _ _ _ _ _ _ (end_stays hs ho F9 N9 (fun q hq => nomatch hq)) (News.get N9 (List.Mem.head _)) (News.get N9 (List.Mem.tail _ (List.Mem.head _))) f1 f2 (by assumption)
theorem mdig {w : World} {A : Around} {s : Shared} {Q E : Value → Shared → Prop} {r : MR} {σ : MSt} {x dx : Addr} {k d : B8} {t1 t2 t3 tk td : Tok}
   (C : Cx w 4 50 A s.heap ((x, instObj 52 dx) :: (dx, macDict w k d r.f t1 t2 t3 tk td) :: r.own w σ)) (K : r.Ok) (M : MW w r σ) (hx : σ.xs.length ≤ 900) (hi : σ.cs.length ≤ 900)
   (h1 : @Ne Nat x r.CL) (h2 : @Ne Nat x r.KN) (h3 : @Ne Nat dx r.CL) (h4 : @Ne Nat dx r.KN)
   (hQ : ∀ b t h' kk σ', Step w r s.heap h' σ σ' [(k, d)] → valOf σ'.xs (keyOf k d) = some b → Q (.bytes b t) { s with heap := h', toks := kk }) :
   wpAny (model PG w) A (call (.ref 49) [.ref x]) Q E s := by
  refine wpAny_call ?_
  refine enter (binds := [(PySem.Str.ofString "self", .ref x)]) C (by k_is) (by k_is) (BindsTo.of_eq rfl) (locs rfl) rfl rfl rfl (by decide) ?_
  intro dp un gd cn cs a ccd cl outer base g h₁ L L' p loose mean mg mb hd hu F' N' B' X' T' hs hg ho
  clear C
  k_fold
  have st0 : s.heap.StaysIn h₁ := end_stays hs ho F' N' (fun q hq => hq)
  repeat' (first
    | (k_unfold; (try dsimp only))
    | (k_end; wrow_close)
    | with_reducible ( (with_reducible show wpAny _ _ (call (Value.ref (MR.f _)) [Value.bytes _ _, Value.bytes _ _]) _ _ _); (rename MW _ _ _ => Mk); (refine' mac_ (Cx.of ?hz_B ?hz_F ?hz_X ?hz_T ?hz_K ?hz_d ?hz_u ?hz_N ?hz_S) ?hz_K2 Mk ?hz_hx ?hz_hi ?_); (case hz_B => k_asm); (case hz_F => k_asm); (case hz_X => k_asm); (case hz_T => k_asm); (case hz_K => first | exact rfl | assumption); (case hz_N => k_asm); (case hz_d => ((try dsimp only [Around.deeper, ktrTop]); first | exact room1 (by assumption) (by decide) | exact room0 (by assumption) (by decide) | omega)); (case hz_u => ((try dsimp only [Around.deeper, ktrTop]); first | exact room1 (by assumption) (by decide) | exact room0 (by assumption) (by decide) | omega)); (case hz_S => (intro q hq; repeat (first | with_reducible exact hq | refine List.mem_cons_of_mem _ ?_))); (case hz_K2 => assumption); (case hz_hx => first | exact leN (by with_reducible assumption) (by decide) | exact g1 (by with_reducible assumption) (by with_reducible assumption) (by decide) | exact g2 (by with_reducible assumption) (by with_reducible assumption) (by with_reducible assumption) (by decide) | exact g3 (by with_reducible assumption) (by with_reducible assumption) (by with_reducible assumption) (by with_reducible assumption) (by decide) | exact g4 (by with_reducible assumption) (by with_reducible assumption) (by with_reducible assumption) (by with_reducible assumption) (by with_reducible assumption) (by decide) | exact q1 (by with_reducible assumption) (by with_reducible assumption) (by decide) | exact q2 (by with_reducible assumption) (by with_reducible assumption) (by with_reducible assumption) (by decide) | exact q3 (by with_reducible assumption) (by with_reducible assumption) (by with_reducible assumption) (by with_reducible assumption) (by decide) | exact q4 (by with_reducible assumption) (by with_reducible assumption) (by with_reducible assumption) (by with_reducible assumption) (by with_reducible assumption) (by decide) | omega); (case hz_hi => first | exact leN (by with_reducible assumption) (by decide) | exact g1 (by with_reducible assumption) (by with_reducible assumption) (by decide) | exact g2 (by with_reducible assumption) (by with_reducible assumption) (by with_reducible assumption) (by decide) | exact g3 (by with_reducible assumption) (by with_reducible assumption) (by with_reducible assumption) (by with_reducible assumption) (by decide) | exact g4 (by with_reducible assumption) (by with_reducible assumption) (by with_reducible assumption) (by with_reducible assumption) (by with_reducible assumption) (by decide) | exact q1 (by with_reducible assumption) (by with_reducible assumption) (by decide) | exact q2 (by with_reducible assumption) (by with_reducible assumption) (by with_reducible assumption) (by decide) | exact q3 (by with_reducible assumption) (by with_reducible assumption) (by with_reducible assumption) (by with_reducible assumption) (by decide) | exact q4 (by with_reducible assumption) (by with_reducible assumption) (by with_reducible assumption) (by with_reducible assumption) (by with_reducible assumption) (by decide) | omega); intro b' _ h' _ sg' St' hv'; (have F' := Fr.step (by k_asm) (by k_asm) (by intro q hq; repeat (first | with_reducible exact hq | refine List.mem_cons_of_mem _ ?_)) St'); (have N' := News.step3 (by k_asm) (by k_asm) (by assumption) St' (by assumption) (by assumption) (by assumption) (by assumption)); (try dsimp only [List.cons_append, List.nil_append] at N'); (try dsimp only); (try k_fold))
    | ( (with_reducible show wpAny _ _ (call (Value.ref (MR.f _)) [Value.bytes _ _, Value.bytes _ _]) _ _ _); (rename MW _ _ _ => Mk); (refine' mac_ (Cx.of ?hz_B ?hz_F ?hz_X ?hz_T ?hz_K ?hz_d ?hz_u ?hz_N ?hz_S) ?hz_K2 Mk ?hz_hx ?hz_hi ?_); (case hz_B => k_asm); (case hz_F => k_asm); (case hz_X => k_asm); (case hz_T => k_asm); (case hz_K => first | exact rfl | assumption); (case hz_N => k_asm); (case hz_d => ((try dsimp only [Around.deeper, ktrTop]); first | exact room1 (by assumption) (by decide) | exact room0 (by assumption) (by decide) | omega)); (case hz_u => ((try dsimp only [Around.deeper, ktrTop]); first | exact room1 (by assumption) (by decide) | exact room0 (by assumption) (by decide) | omega)); (case hz_S => (intro q hq; repeat (first | with_reducible exact hq | refine List.mem_cons_of_mem _ ?_))); (case hz_K2 => assumption); (case hz_hx => first | exact leN (by with_reducible assumption) (by decide) | exact g1 (by with_reducible assumption) (by with_reducible assumption) (by decide) | exact g2 (by with_reducible assumption) (by with_reducible assumption) (by with_reducible assumption) (by decide) | exact g3 (by with_reducible assumption) (by with_reducible assumption) (by with_reducible assumption) (by with_reducible assumption) (by decide) | exact g4 (by with_reducible assumption) (by with_reducible assumption) (by with_reducible assumption) (by with_reducible assumption) (by with_reducible assumption) (by decide) | exact q1 (by with_reducible assumption) (by with_reducible assumption) (by decide) | exact q2 (by with_reducible assumption) (by with_reducible assumption) (by with_reducible assumption) (by decide) | exact q3 (by with_reducible assumption) (by with_reducible assumption) (by with_reducible assumption) (by with_reducible assumption) (by decide) | exact q4 (by with_reducible assumption) (by with_reducible assumption) (by with_reducible assumption) (by with_reducible assumption) (by with_reducible assumption) (by decide) | omega); (case hz_hi => first | exact leN (by with_reducible assumption) (by decide) | exact g1 (by with_reducible assumption) (by with_reducible assumption) (by decide) | exact g2 (by with_reducible assumption) (by with_reducible assumption) (by with_reducible assumption) (by decide) | exact g3 (by with_reducible assumption) (by with_reducible assumption) (by with_reducible assumption) (by with_reducible assumption) (by decide) | exact g4 (by with_reducible assumption) (by with_reducible assumption) (by with_reducible assumption) (by with_reducible assumption) (by with_reducible assumption) (by decide) | exact q1 (by with_reducible assumption) (by with_reducible assumption) (by decide) | exact q2 (by with_reducible assumption) (by with_reducible assumption) (by with_reducible assumption) (by decide) | exact q3 (by with_reducible assumption) (by with_reducible assumption) (by with_reducible assumption) (by with_reducible assumption) (by decide) | exact q4 (by with_reducible assumption) (by with_reducible assumption) (by with_reducible assumption) (by with_reducible assumption) (by with_reducible assumption) (by decide) | omega); intro b' _ h' _ sg' St' hv'; (have F' := Fr.step (by k_asm) (by k_asm) (by intro q hq; repeat (first | with_reducible exact hq | refine List.mem_cons_of_mem _ ?_)) St'); (have N' := News.step3 (by k_asm) (by k_asm) (by assumption) St' (by assumption) (by assumption) (by assumption) (by assumption)); (try dsimp only [List.cons_append, List.nil_append] at N'); (try dsimp only); (try k_fold))
    | with_reducible ( (with_reducible show FnAt (MR.f _) _ ∧ _); k_dflt (refine' ⟨fn_at (by k_asm) (by intro q hq; repeat (first | with_reducible exact hq | refine List.mem_cons_of_mem _ ?_)), ?_⟩); (try dsimp only [List.nil_append, List.cons_append]))
    | ( (with_reducible show FnAt (MR.f _) _ ∧ _); k_dflt (refine' ⟨fn_at (by k_asm) (by intro q hq; repeat (first | with_reducible exact hq | refine List.mem_cons_of_mem _ ?_)), ?_⟩); (try dsimp only [List.nil_append, List.cons_append]))
    | with_reducible ( (with_reducible show wpAny _ _ (callWith _ (Value.ref (MR.f _)) _ _ _) _ _ _); k_dflt (refine' callWith_F ?hz_X ?_; (case hz_X => exact fn_at (by k_asm) (by intro q hq; repeat (first | with_reducible exact hq | refine List.mem_cons_of_mem _ ?_))); k_whole))
    | ( (with_reducible show wpAny _ _ (callWith _ (Value.ref (MR.f _)) _ _ _) _ _ _); k_dflt (refine' callWith_F ?hz_X ?_; (case hz_X => exact fn_at (by k_asm) (by intro q hq; repeat (first | with_reducible exact hq | refine List.mem_cons_of_mem _ ?_))); k_whole))
    | walk1
    | (dsimp only; walk1)
    | (leave1; walk_say "STEP leave1"; try dsimp only)
    | fail "no step")
  rename Fr _ _ _ _ => F9
  rename News _ _ _ _ => N9
  rename Step _ _ _ _ _ _ _ => S9
  rename valOf _ _ = some _ => v9
  refine hQ _ _ _ _ _ ⟨keep_of hs ho F9 N9 ?_, S9.cl, S9.kn, S9.tup, ?_, S9.mono, S9.mw, S9.asked, S9.grow⟩ v9
  · intro q hq e1 e2
    rcases List.mem_cons.mp hq with rfl | hq
    · exact List.mem_cons_self ..
    rcases List.mem_cons.mp hq with rfl | hq
    · exact List.mem_cons_of_mem _ (List.mem_cons_self ..)
    refine List.mem_cons_of_mem _ (List.mem_cons_of_mem _ ?_)
    unfold MR.own at hq ⊢
    simp only [List.mem_cons] at hq ⊢
    rcases hq with rfl | rfl | rfl | rfl | rfl | rfl | rfl | hq
    · exact .inl rfl
    · exact .inr (.inl rfl)
    · exact .inr (.inr (.inl rfl))
    · exact .inr (.inr (.inr (.inl rfl)))
    · exact .inr (.inr (.inr (.inr (.inl rfl))))
    · exact absurd rfl e1
    · exact absurd rfl e2
    · exact .inr (.inr (.inr (.inr (.inr (.inr (.inr (S9.mono q hq)))))))
  · intro q hq
    rcases S9.fresh q hq with h | h
    · refine .inl ?_
      cases e : s.heap.get? q.1 with
      | none => rfl
      | some o =>
        have h' := st0 _ _ e
        rw [h] at h'
        cases h'
    · exact .inr h
end Mine
end
section
set_option maxHeartbeats 4000000
namespace Mine
open PySem PySem.W PySem.Spec PySem.Calls PyProof.Rows
theorem off_Dgk2I : True := by
  w_top off
  exact True.intro
theorem nsub_Dgk2 {news : List (Addr × Obj)} : ∀ q ∈ ([] : List (Addr × Obj)), q ∈ news := fun _ h => nomatch h
theorem kk8 : (hd.heap_39 = hd.heap_39) ∧ PySem.Challenge.rw_jv0012_01 = PySem.Challenge.rw_jv0012_01 := by
  k_fill
  exact ⟨rfl, rfl⟩
theorem ne_own {w : World} {r : MR} {σ : MSt} {g h : Heap} {L D : Addr} {news : List (Addr × Obj)} (N : News g L h news) (hs : ∀ q ∈ r.own w σ, q ∈ news) (fr : h.get? D = none) : @Ne Nat D r.CL ∧ @Ne Nat D r.KN :=
  ⟨News.ne_fresh N (hs (r.CL, listOf σ.its σ.n) (by unfold MR.own; simp)) fr, News.ne_fresh N (hs (r.KN, σ.od) (by unfold MR.own; simp)) fr⟩
theorem own_keep {w : World} {r : MR} {σ σ' : MSt} (m : ∀ q ∈ σ.tups, q ∈ σ'.tups) : ∀ q ∈ r.own w σ, @Ne Nat q.1 r.CL → @Ne Nat q.1 r.KN → q ∈ r.own w σ' := by
  intro q hq e1 e2
  unfold MR.own at hq ⊢
  simp only [List.mem_cons] at hq ⊢
  rcases hq with rfl | rfl | rfl | rfl | rfl | rfl | rfl | hq
  · exact .inl rfl
  · exact .inr (.inl rfl)
  · exact .inr (.inr (.inl rfl))
  · exact .inr (.inr (.inr (.inl rfl)))
  · exact .inr (.inr (.inr (.inr (.inl rfl))))
  · exact absurd rfl e1
  · exact absurd rfl e2
  · exact .inr (.inr (.inr (.inr (.inr (.inr (.inr (m q hq)))))))
theorem own_CL {w : World} {r : MR} {σ : MSt} : (r.CL, listOf σ.its σ.n) ∈ r.own w σ := by unfold MR.own; simp
theorem own_KN {w : World} {r : MR} {σ : MSt} : (r.KN, σ.od) ∈ r.own w σ := by unfold MR.own; simp
theorem own_tup {w : World} {r : MR} {σ : MSt} {q : Addr × Obj} (h : q ∈ σ.tups) : q ∈ r.own w σ := by unfold MR.own; simp only [List.mem_cons]; exact .inr (.inr (.inr (.inr (.inr (.inr (.inr h))))))
theorem asked_questions {c0 c1 c2 c3 c4 c5 : List (B8 × B8)} {sec msg a0 a1 a2 a3 : B8} (h1 : c1 = c0 ++ [(Z32, O32 ++ #[0] ++ sec ++ msg)]) (h2 : c2 = c1 ++ [(a0, O32)]) (h3 : c3 = c2 ++ [(a0, a1 ++ #[1] ++ sec ++ msg)]) (h4 : c4 = c3 ++ [(a2, a1)]) (h5 : c5 = c4 ++ [(a2, a3)]) : c5 = c0 ++ questions sec msg a0 a1 a2 a3 := by
  subst h1 h2 h3 h4 h5
  simp [questions]
theorem dgk {w : World} {A : Around} {s : Shared} {Q E : Value → Shared → Prop} {r : MR} {σ : MSt} {msg sec : B8} {tm ts : Tok}
   (C : Cx w 6 60 A s.heap (r.own w σ)) (K : r.Ok) (M : MW w r σ) (hx : σ.xs.length ≤ 800) (hi : σ.cs.length ≤ 800) (hm : msg.size ≤ 100) (hs' : sec.size ≤ 100)
   (hQ : ∀ (a0 a1 a2 a3 a4 : B8) (t : Tok) (h' : Heap) (k : Nat) (σ' : MSt), Step w r s.heap h' σ σ' (questions sec msg a0 a1 a2 a3) → Chain σ'.xs sec msg a0 a1 a2 a3 a4 → Q (.int (beN a4 : Nat) t) { s with heap := h', toks := k }) :
   wpAny (model PG w) A (call (.ref 144) [.bytes msg tm, .bytes sec ts, .ref r.f]) Q E s := by
  refine wpAny_call ?_
  refine enter (binds := [(PySem.Str.ofString "msg_hash", .bytes msg tm), (PySem.Str.ofString "private_key_bytes", .bytes sec ts), (PySem.Str.ofString "digest_fn", .ref r.f)]) C (by k_is) (by k_is) (BindsTo.of_eq rfl) (locs rfl) rfl rfl rfl (by decide) ?_
  intro dp un gd cn cs a ccd cl outer base g h₁ L L' p' loose mean mg mb hd hu F' N' B' X' T' hs hg ho
  clear C
  k_fold
  repeat' (first
    | (k_unfold; (try dsimp only))
    | (k_end; wrow_close)
    | with_reducible ( (with_reducible show wpAny _ _ (call (Value.ref 21) [Value.bytes _ _]) _ _ _); (refine' bti (Cx.of ?hz_B ?hz_F ?hz_X ?hz_T ?hz_K ?hz_d ?hz_u ?hz_N ?hz_S) ?hz_z ?_); (case hz_B => k_asm); (case hz_F => k_asm); (case hz_X => k_asm); (case hz_T => k_asm); (case hz_K => first | exact rfl | assumption); (case hz_N => k_asm); (case hz_d => ((try dsimp only [Around.deeper, ktrTop]); first | exact room1 (by assumption) (by decide) | exact room0 (by assumption) (by decide) | omega)); (case hz_u => ((try dsimp only [Around.deeper, ktrTop]); first | exact room1 (by assumption) (by decide) | exact room0 (by assumption) (by decide) | omega)); (case hz_S => exact nsub_Dgk2); (case hz_z => first | exact leN (by with_reducible assumption) (by decide) | exact eqN (by with_reducible assumption) (by decide) | exact g1 (by with_reducible assumption) (by with_reducible assumption) (by decide) | omega); intro _ h' _ st'; (have F' := Fr.stay (by k_asm) st'); (have N' := News.stay (by k_asm) st'); (try dsimp only); (try k_fold))
    | ( (with_reducible show wpAny _ _ (call (Value.ref 21) [Value.bytes _ _]) _ _ _); (refine' bti (Cx.of ?hz_B ?hz_F ?hz_X ?hz_T ?hz_K ?hz_d ?hz_u ?hz_N ?hz_S) ?hz_z ?_); (case hz_B => k_asm); (case hz_F => k_asm); (case hz_X => k_asm); (case hz_T => k_asm); (case hz_K => first | exact rfl | assumption); (case hz_N => k_asm); (case hz_d => ((try dsimp only [Around.deeper, ktrTop]); first | exact room1 (by assumption) (by decide) | exact room0 (by assumption) (by decide) | omega)); (case hz_u => ((try dsimp only [Around.deeper, ktrTop]); first | exact room1 (by assumption) (by decide) | exact room0 (by assumption) (by decide) | omega)); (case hz_S => exact nsub_Dgk2); (case hz_z => first | exact leN (by with_reducible assumption) (by decide) | exact eqN (by with_reducible assumption) (by decide) | exact g1 (by with_reducible assumption) (by with_reducible assumption) (by decide) | omega); intro _ h' _ st'; (have F' := Fr.stay (by k_asm) st'); (have N' := News.stay (by k_asm) st'); (try dsimp only); (try k_fold))
    | with_reducible ( (k_dflt (show wpAny _ _ (call (Value.ref 49) [Value.ref _]) _ _ _)); (rename MW _ _ _ => Mk); (refine' mdig (Cx.of ?hz_B ?hz_F ?hz_X ?hz_T ?hz_K ?hz_d ?hz_u ?hz_N ?hz_S) ?hz_K2 Mk ?hz_hx ?hz_hi ?hz_n1 ?hz_n2 ?hz_n3 ?hz_n4 ?_); (case hz_B => k_asm); (case hz_F => k_asm); (case hz_X => k_asm); (case hz_T => k_asm); (case hz_K => first | exact rfl | assumption); (case hz_N => k_asm); (case hz_d => ((try dsimp only [Around.deeper, ktrTop]); first | exact room1 (by assumption) (by decide) | exact room0 (by assumption) (by decide) | omega)); (case hz_u => ((try dsimp only [Around.deeper, ktrTop]); first | exact room1 (by assumption) (by decide) | exact room0 (by assumption) (by decide) | omega)); (case hz_S => exact fun q hq => hq); (case hz_K2 => assumption); (case hz_hx => first | exact leN (by with_reducible assumption) (by decide) | exact g1 (by with_reducible assumption) (by with_reducible assumption) (by decide) | exact g2 (by with_reducible assumption) (by with_reducible assumption) (by with_reducible assumption) (by decide) | exact g3 (by with_reducible assumption) (by with_reducible assumption) (by with_reducible assumption) (by with_reducible assumption) (by decide) | exact g4 (by with_reducible assumption) (by with_reducible assumption) (by with_reducible assumption) (by with_reducible assumption) (by with_reducible assumption) (by decide) | exact q1 (by with_reducible assumption) (by with_reducible assumption) (by decide) | exact q2 (by with_reducible assumption) (by with_reducible assumption) (by with_reducible assumption) (by decide) | exact q3 (by with_reducible assumption) (by with_reducible assumption) (by with_reducible assumption) (by with_reducible assumption) (by decide) | exact q4 (by with_reducible assumption) (by with_reducible assumption) (by with_reducible assumption) (by with_reducible assumption) (by with_reducible assumption) (by decide) | omega); (case hz_hi => first | exact leN (by with_reducible assumption) (by decide) | exact g1 (by with_reducible assumption) (by with_reducible assumption) (by decide) | exact g2 (by with_reducible assumption) (by with_reducible assumption) (by with_reducible assumption) (by decide) | exact g3 (by with_reducible assumption) (by with_reducible assumption) (by with_reducible assumption) (by with_reducible assumption) (by decide) | exact g4 (by with_reducible assumption) (by with_reducible assumption) (by with_reducible assumption) (by with_reducible assumption) (by with_reducible assumption) (by decide) | exact q1 (by with_reducible assumption) (by with_reducible assumption) (by decide) | exact q2 (by with_reducible assumption) (by with_reducible assumption) (by with_reducible assumption) (by decide) | exact q3 (by with_reducible assumption) (by with_reducible assumption) (by with_reducible assumption) (by with_reducible assumption) (by decide) | exact q4 (by with_reducible assumption) (by with_reducible assumption) (by with_reducible assumption) (by with_reducible assumption) (by with_reducible assumption) (by decide) | omega); (case hz_n1 => exact And.left (by assumption)); (case hz_n2 => exact And.right (by assumption)); (case hz_n3 => exact And.left (by assumption)); (case hz_n4 => exact And.right (by assumption)); intro b' _ h' _ sg' St' hv'; (have F' := Fr.step (by k_asm) (by k_asm) (by intro q hq; repeat (first | with_reducible exact hq | refine List.mem_cons_of_mem _ ?_)) St'); (have N' := News.step (by k_asm) (by k_asm) (by assumption) (by intro q hq; repeat (first | with_reducible exact hq | refine List.mem_cons_of_mem _ ?_)) St'); (have M' := St'.mw); (have zb := valOf_size M' hv'); (have la := congrArg List.length St'.asked); (have lb := St'.grow.length); (rw [List.length_append, List.length_singleton] at la); (dsimp only [List.length_cons, List.length_nil] at lb); clear Mk; (try k_sweep); (try dsimp only); (try k_fold))
    | ( (k_dflt (show wpAny _ _ (call (Value.ref 49) [Value.ref _]) _ _ _)); (rename MW _ _ _ => Mk); (refine' mdig (Cx.of ?hz_B ?hz_F ?hz_X ?hz_T ?hz_K ?hz_d ?hz_u ?hz_N ?hz_S) ?hz_K2 Mk ?hz_hx ?hz_hi ?hz_n1 ?hz_n2 ?hz_n3 ?hz_n4 ?_); (case hz_B => k_asm); (case hz_F => k_asm); (case hz_X => k_asm); (case hz_T => k_asm); (case hz_K => first | exact rfl | assumption); (case hz_N => k_asm); (case hz_d => ((try dsimp only [Around.deeper, ktrTop]); first | exact room1 (by assumption) (by decide) | exact room0 (by assumption) (by decide) | omega)); (case hz_u => ((try dsimp only [Around.deeper, ktrTop]); first | exact room1 (by assumption) (by decide) | exact room0 (by assumption) (by decide) | omega)); (case hz_S => exact fun q hq => hq); (case hz_K2 => assumption); (case hz_hx => first | exact leN (by with_reducible assumption) (by decide) | exact g1 (by with_reducible assumption) (by with_reducible assumption) (by decide) | exact g2 (by with_reducible assumption) (by with_reducible assumption) (by with_reducible assumption) (by decide) | exact g3 (by with_reducible assumption) (by with_reducible assumption) (by with_reducible assumption) (by with_reducible assumption) (by decide) | exact g4 (by with_reducible assumption) (by with_reducible assumption) (by with_reducible assumption) (by with_reducible assumption) (by with_reducible assumption) (by decide) | exact q1 (by with_reducible assumption) (by with_reducible assumption) (by decide) | exact q2 (by with_reducible assumption) (by with_reducible assumption) (by with_reducible assumption) (by decide) | exact q3 (by with_reducible assumption) (by with_reducible assumption) (by with_reducible assumption) (by with_reducible assumption) (by decide) | exact q4 (by with_reducible assumption) (by with_reducible assumption) (by with_reducible assumption) (by with_reducible assumption) (by with_reducible assumption) (by decide) | omega); (case hz_hi => first | exact leN (by with_reducible assumption) (by decide) | exact g1 (by with_reducible assumption) (by with_reducible assumption) (by decide) | exact g2 (by with_reducible assumption) (by with_reducible assumption) (by with_reducible assumption) (by decide) | exact g3 (by with_reducible assumption) (by with_reducible assumption) (by with_reducible assumption) (by with_reducible assumption) (by decide) | exact g4 (by with_reducible assumption) (by with_reducible assumption) (by with_reducible assumption) (by with_reducible assumption) (by with_reducible assumption) (by decide) | exact q1 (by with_reducible assumption) (by with_reducible assumption) (by decide) | exact q2 (by with_reducible assumption) (by with_reducible assumption) (by with_reducible assumption) (by decide) | exact q3 (by with_reducible assumption) (by with_reducible assumption) (by with_reducible assumption) (by with_reducible assumption) (by decide) | exact q4 (by with_reducible assumption) (by with_reducible assumption) (by with_reducible assumption) (by with_reducible assumption) (by with_reducible assumption) (by decide) | omega); (case hz_n1 => exact And.left (by assumption)); (case hz_n2 => exact And.right (by assumption)); (case hz_n3 => exact And.left (by assumption)); (case hz_n4 => exact And.right (by assumption)); intro b' _ h' _ sg' St' hv'; (have F' := Fr.step (by k_asm) (by k_asm) (by intro q hq; repeat (first | with_reducible exact hq | refine List.mem_cons_of_mem _ ?_)) St'); (have N' := News.step (by k_asm) (by k_asm) (by assumption) (by intro q hq; repeat (first | with_reducible exact hq | refine List.mem_cons_of_mem _ ?_)) St'); (have M' := St'.mw); (have zb := valOf_size M' hv'); (have la := congrArg List.length St'.asked); (have lb := St'.grow.length); (rw [List.length_append, List.length_singleton] at la); (dsimp only [List.length_cons, List.length_nil] at lb); clear Mk; (try k_sweep); (try dsimp only); (try k_fold))
    | with_reducible ( (with_reducible show wpAny _ _ (call (Value.ref 70) [Value.bytes _ _, Value.bytes _ _, Value.ref _]) _ _ _); (refine' mnew (Cx.of ?hz_B ?hz_F ?hz_X ?hz_T ?hz_K ?hz_d ?hz_u ?hz_N ?hz_S) ?_); (case hz_B => k_asm); (case hz_F => k_asm); (case hz_X => k_asm); (case hz_T => k_asm); (case hz_K => first | exact rfl | assumption); (case hz_N => k_asm); (case hz_d => ((try dsimp only [Around.deeper, ktrTop]); first | exact room1 (by assumption) (by decide) | exact room0 (by assumption) (by decide) | omega)); (case hz_u => ((try dsimp only [Around.deeper, ktrTop]); first | exact room1 (by assumption) (by decide) | exact room0 (by assumption) (by decide) | omega)); (case hz_S => exact nsub_Dgk2); intro x' dx' _ _ _ h' _ st' hx' hdx' fx' fdx' lt'; (have n1' := ne_own (by k_asm) (by intro q hq; repeat (first | with_reducible exact hq | refine List.mem_cons_of_mem _ ?_)) fx'); (have n2' := ne_own (by k_asm) (by intro q hq; repeat (first | with_reducible exact hq | refine List.mem_cons_of_mem _ ?_)) fdx'); (have F' := Fr.stay (by k_asm) st'); (have N' := News.fresh_cons2 (by k_asm) (by k_asm) st' hx' fx' hdx' fdx'); (try k_sweep); (try dsimp only); (try k_fold))
    | ( (with_reducible show wpAny _ _ (call (Value.ref 70) [Value.bytes _ _, Value.bytes _ _, Value.ref _]) _ _ _); (refine' mnew (Cx.of ?hz_B ?hz_F ?hz_X ?hz_T ?hz_K ?hz_d ?hz_u ?hz_N ?hz_S) ?_); (case hz_B => k_asm); (case hz_F => k_asm); (case hz_X => k_asm); (case hz_T => k_asm); (case hz_K => first | exact rfl | assumption); (case hz_N => k_asm); (case hz_d => ((try dsimp only [Around.deeper, ktrTop]); first | exact room1 (by assumption) (by decide) | exact room0 (by assumption) (by decide) | omega)); (case hz_u => ((try dsimp only [Around.deeper, ktrTop]); first | exact room1 (by assumption) (by decide) | exact room0 (by assumption) (by decide) | omega)); (case hz_S => exact nsub_Dgk2); intro x' dx' _ _ _ h' _ st' hx' hdx' fx' fdx' lt'; (have n1' := ne_own (by k_asm) (by intro q hq; repeat (first | with_reducible exact hq | refine List.mem_cons_of_mem _ ?_)) fx'); (have n2' := ne_own (by k_asm) (by intro q hq; repeat (first | with_reducible exact hq | refine List.mem_cons_of_mem _ ?_)) fdx'); (have F' := Fr.stay (by k_asm) st'); (have N' := News.fresh_cons2 (by k_asm) (by k_asm) st' hx' fx' hdx' fdx'); (try k_sweep); (try dsimp only); (try k_fold))
    | with_reducible ( (with_reducible show wpAny _ _ (binaryOp Operator.Add (Value.bytes _ _) (Value.bytes _ _)) _ _ _); refine' KBy.add_bytes ?hz_z ?_; (case hz_z => (simp only [Array.size_append, List.size_toArray, List.length_cons, List.length_nil]; (first | exact w1e (by with_reducible assumption) (by decide) | exact w2e (by with_reducible assumption) (by with_reducible assumption) (by decide) | exact w3e (by with_reducible assumption) (by with_reducible assumption) (by with_reducible assumption) (by decide) | exact w1 (by with_reducible assumption) (by decide) | exact w2 (by with_reducible assumption) (by with_reducible assumption) (by decide) | exact w3 (by with_reducible assumption) (by with_reducible assumption) (by with_reducible assumption) (by decide) | exact tq1 (by with_reducible assumption) (by decide) | exact tq2 (by with_reducible assumption) (by with_reducible assumption) (by decide) | decide | omega))); intro _ _; (try dsimp only))
    | ( (with_reducible show wpAny _ _ (binaryOp Operator.Add (Value.bytes _ _) (Value.bytes _ _)) _ _ _); refine' KBy.add_bytes ?hz_z ?_; (case hz_z => (simp only [Array.size_append, List.size_toArray, List.length_cons, List.length_nil]; (first | exact w1e (by with_reducible assumption) (by decide) | exact w2e (by with_reducible assumption) (by with_reducible assumption) (by decide) | exact w3e (by with_reducible assumption) (by with_reducible assumption) (by with_reducible assumption) (by decide) | exact w1 (by with_reducible assumption) (by decide) | exact w2 (by with_reducible assumption) (by with_reducible assumption) (by decide) | exact w3 (by with_reducible assumption) (by with_reducible assumption) (by with_reducible assumption) (by decide) | exact tq1 (by with_reducible assumption) (by decide) | exact tq2 (by with_reducible assumption) (by with_reducible assumption) (by decide) | decide | omega))); intro _ _; (try dsimp only))
    | walk1
    | (dsimp only; walk1)
    | (leave1; walk_say "STEP leave1"; try dsimp only)
    | fail "no step")
  rename Fr _ _ _ _ => F9
  rename News _ _ _ _ => N9
  rename MW _ _ _ => M9
  rename Step _ _ _ _ _ _ _ => S5
  have A5 := S5.asked
  have G5 := S5.grow
  have T5 := S5.mono
  clear S5
  rename valOf _ _ = some _ => y5
  have v5 := And.intro y5 True.intro
  clear y5
  rename Step _ _ _ _ _ _ _ => S4
  have A4 := S4.asked
  have G4 := S4.grow
  have T4 := S4.mono
  clear S4
  rename valOf _ _ = some _ => y4
  have v4 := And.intro y4 True.intro
  clear y4
  rename Step _ _ _ _ _ _ _ => S3
  have A3 := S3.asked
  have G3 := S3.grow
  have T3 := S3.mono
  clear S3
  rename valOf _ _ = some _ => y3
  have v3 := And.intro y3 True.intro
  clear y3
  rename Step _ _ _ _ _ _ _ => S2
  have A2 := S2.asked
  have G2 := S2.grow
  have T2 := S2.mono
  clear S2
  rename valOf _ _ = some _ => y2
  have v2 := And.intro y2 True.intro
  clear y2
  rename Step _ _ _ _ _ _ _ => S1
  have A1 := S1.asked
  have G1 := S1.grow
  have T1 := S1.mono
  clear S1
  rename valOf _ _ = some _ => y1
  have v1 := And.intro y1 True.intro
  clear y1
  refine hQ _ _ _ _ _ _ _ _ _ ⟨keep_of hs ho F9 N9 (own_keep fun q hq => T5 q (T4 q (T3 q (T2 q (T1 q hq))))), (N9 _ own_CL).1, (N9 _ own_KN).1, fun q hq => (N9 _ (own_tup hq)).1, fun q hq => NewOr.trans1 hs N9 (o := q.2) (own_tup hq), fun q hq => T5 q (T4 q (T3 q (T2 q (T1 q hq)))), M9, asked_questions A1 A2 A3 A4 A5, G1.trans (G2.trans (G3.trans (G4.trans G5)))⟩ ⟨(G2.trans (G3.trans (G4.trans G5))).val v1.1, (G3.trans (G4.trans G5)).val v2.1, (G4.trans G5).val v3.1, G5.val v4.1, v5.1⟩
end Mine
end
section
set_option maxHeartbeats 1000000
namespace Mine
open PySem PySem.W PySem.Spec PySem.Calls PyProof.Rows
theorem off_SignI : True := by
  w_top off
  exact True.intro
theorem nsub_Sign {news : List (Addr × Obj)} : ∀ q ∈ ([] : List (Addr × Obj)), q ∈ news := fun _ h => nomatch h
theorem kk9 : (hd.heap_39 = hd.heap_39) ∧ PySem.Challenge.rw_jv0012_01 = PySem.Challenge.rw_jv0012_01 := by
  k_fill
  exact ⟨rfl, rfl⟩
noncomputable def sgF (z d k : Int) : I3 :=
  let s := ivF k NN * (z + (fmF k).1 * d) % NN
  (27 + Builtin.bitXor ((fmF k).2 % 2) (if s * 2 < NN then 0 else 1) - 27, (fmF k).1, if s * 2 < NN then s else NN - s)
theorem sg_pos {z d k : Int} (h : (ivF k NN * (z + (fmF k).1 * d) % NN) * 2 < NN) : sgF z d k = (27 + Builtin.bitXor ((fmF k).2 % 2) 0 - 27, (fmF k).1, ivF k NN * (z + (fmF k).1 * d) % NN) := by
  unfold sgF
  dsimp only
  rw [if_pos h, if_pos h]
theorem sg_neg {z d k : Int} (h : ¬ (ivF k NN * (z + (fmF k).1 * d) % NN) * 2 < NN) : sgF z d k = (27 + Builtin.bitXor ((fmF k).2 % 2) 1 - 27, (fmF k).1, NN - ivF k NN * (z + (fmF k).1 * d) % NN) := by
  unfold sgF
  dsimp only
  rw [if_neg h, if_neg h]
theorem allLt_mem {D : Addr} {l : List (Addr × Obj)} (a : AllLt D l) : ∀ p ∈ l, p.1 < D := by
  induction l with
  | nil => exact fun p hp => nomatch hp
  | cons q r ih =>
    intro p hp
    unfold AllLt at a
    rcases List.mem_cons.mp hp with e | hp
    · rw [e]
      exact a.1
    · exact ih a.2 p hp
theorem fmF_sz1 (k : Int) : Sz 256 (fmF k).1 := (fjF_sz _).1
theorem ivN_sz (a : Int) : Sz 256 (ivF a 115792089237316195423570985008687907852837564279074904382605163141518161494337) := szN (ivF_range (by decide)).1 (ivF_range (by decide)).2
theorem beN_sz {b : B8} (h : b.size ≤ 32) : Sz 256 ((beN b : Nat) : Int) := by
  unfold Sz
  rw [Int.natAbs_natCast]
  have h1 := beN_lt b
  have h2 : (256 : Nat) ^ b.size ≤ 256 ^ 32 := Nat.pow_le_pow_right (by decide) h
  exact Nat.lt_of_lt_of_le h1 (Nat.le_trans h2 (by decide))
theorem fold_little : ∀ (n : Nat) (x : Int), 0 ≤ x → x < 256 ^ n → (KTBy.little n x).foldr (fun c a => a * 256 + c) 0 = x
  | 0, x, h0, h1 => by
    have e : (256 : Int) ^ 0 = 1 := rfl
    rw [e] at h1
    exact Int.le_antisymm h0 (Int.lt_add_one_iff.mp h1)
  | n + 1, x, h0, h1 => by
    rw [Int.pow_succ] at h1
    show (KTBy.little n (x / 256)).foldr (fun c a => a * 256 + c) 0 * 256 + x % 256 = x
    rw [fold_little n (x / 256) (Int.ediv_nonneg h0 (by decide)) (Int.ediv_lt_of_lt_mul (by decide) h1), Int.mul_comm]
    exact Int.mul_ediv_add_emod x 256
theorem beN_oct {n : Nat} {x : Int} (h0 : 0 ≤ x) (h1 : x < 256 ^ n) : ((beN (oct n x) : Nat) : Int) = x := by
  have e1 := KFB.fold_cast (oct n x).toList 0
  have e2 : (oct n x).toList = (KTBy.low x n).reverse := rfl
  unfold beN
  rw [e1, e2, List.map_reverse, KTBy.low_ints h0 h1, ← KTBy.little_eq, List.foldl_reverse]
  exact fold_little n x h0 h1
theorem nonce_range {w : World} {r : MR} {σ : MSt} (K : r.Ok) (M : MW w r σ) (hx : σ.xs.length ≤ 500) {k : Key} {b : B8} (h : valOf σ.xs k = some b) : 0 ≤ ((beN b : Nat) : Int) ∧ ((beN b : Nat) : Int) < 2 ^ 10 := by
  obtain ⟨j, rfl, h1, h2⟩ := valOf_oct M h
  have := K.hi
  have hj : j < 1000 := Int.lt_of_lt_of_le h2 (Int.le_trans (Int.add_le_add this (Int.ofNat_le.mpr hx)) (by decide))
  have h0 : 0 ≤ j := Int.le_trans (by decide) h1
  rw [beN_oct (n := 32) h0 (Int.lt_of_lt_of_le hj (by decide))]
  exact ⟨h0, Int.lt_of_lt_of_le hj (by decide)⟩
theorem pad_oct {x : Int} (h0 : 0 ≤ x) (h1 : Sz 256 x) : Array.replicate (32 - (oct (octs x) x).size) 0 ++ oct (octs x) x = oct 32 x := by
  rw [oct_size]
  exact oct_pad h0 (octs_lt h0) (octs_le (n := 32) h1 (by decide))
theorem octs_size {x : Int} (h1 : Sz 256 x) : (oct (octs x) x).size ≤ 32 := by
  rw [oct_size]
  exact octs_le (n := 32) h1 (by decide)
theorem sign {w : World} {A : Around} {s : Shared} {Q E : Value → Shared → Prop} {r : MR} {σ : MSt} {msg sec : B8} {tm ts : Tok}
   (C : Cx w 40 500 A s.heap (r.own w σ)) (K : r.Ok) (M : MW w r σ) (hx : σ.xs.length ≤ 300) (hi : σ.cs.length ≤ 300) (hm : msg.size ≤ 32) (hs' : sec.size ≤ 32)
   (hQ : ∀ (a0 a1 a2 a3 a4 : B8) (D : Addr) (t1 t2 t3 : Tok) (c : Nat) (h' : Heap) (k : Nat) (σ' : MSt), Step w r s.heap h' σ σ' (questions sec (oct 32 ((beN msg : Nat) % NN)) a0 a1 a2 a3) → Chain σ'.xs sec (oct 32 ((beN msg : Nat) % NN)) a0 a1 a2 a3 a4 →
     h'.get? D = some (tupJ (sgF (beN msg : Nat) (beN sec : Nat) (beN a4 : Nat)) t1 t2 t3 c) → NewOr (r.own w σ) s.heap D → @Ne Nat D r.CL → @Ne Nat D r.KN → Q (.ref D) { s with heap := h', toks := k }) :
   wpAny (model PG w) A (call (.ref 151) [.bytes msg tm, .bytes sec ts, .ref r.f]) Q E s := by
  refine wpAny_call ?_
  refine enter (binds := [(PySem.Str.ofString "msg_hash", .bytes msg tm), (PySem.Str.ofString "private_key_bytes", .bytes sec ts), (PySem.Str.ofString "digest_fn", .ref r.f)]) C (by k_is) (by k_is) (BindsTo.of_eq rfl) (locs rfl) rfl rfl rfl (by decide) ?_
  intro dp un gd cn cs a ccd cl outer base g h₁ L L' p loose mean mg mb hd hu F' N' B' X' T' hs hg ho
  clear C
  k_fold
  have zm := beN_sz hm
  have zs := beN_sz hs'
  repeat' (first
    | (k_unfold; (try dsimp only))
    | (k_end; wrow_close)
    | with_reducible ( (with_reducible show wpAny _ _ (call (Value.ref 144) [Value.bytes _ _, Value.bytes _ _, Value.ref _]) _ _ _); (refine' dgk (Cx.of ?hz_B ?hz_F ?hz_X ?hz_T ?hz_K ?hz_d ?hz_u ?hz_N ?hz_S) ?hz_K2 ?hz_M2 ?hz_hx ?hz_hi ?hz_hm ?hz_hs ?_); (case hz_B => k_asm); (case hz_F => k_asm); (case hz_X => k_asm); (case hz_T => k_asm); (case hz_K => first | exact rfl | assumption); (case hz_N => k_asm); (case hz_d => ((try dsimp only [Around.deeper, ktrTop]); first | exact room1 (by assumption) (by decide) | exact room0 (by assumption) (by decide) | omega)); (case hz_u => ((try dsimp only [Around.deeper, ktrTop]); first | exact room1 (by assumption) (by decide) | exact room0 (by assumption) (by decide) | omega)); (case hz_S => (intro q hq; repeat (first | with_reducible exact hq | refine List.mem_cons_of_mem _ ?_))); (case hz_K2 => assumption); (case hz_M2 => assumption); (case hz_hx => first | exact leN (by with_reducible assumption) (by decide) | exact g1 (by with_reducible assumption) (by with_reducible assumption) (by decide) | exact g2 (by with_reducible assumption) (by with_reducible assumption) (by with_reducible assumption) (by decide) | exact g3 (by with_reducible assumption) (by with_reducible assumption) (by with_reducible assumption) (by with_reducible assumption) (by decide) | exact g4 (by with_reducible assumption) (by with_reducible assumption) (by with_reducible assumption) (by with_reducible assumption) (by with_reducible assumption) (by decide) | exact q1 (by with_reducible assumption) (by with_reducible assumption) (by decide) | exact q2 (by with_reducible assumption) (by with_reducible assumption) (by with_reducible assumption) (by decide) | exact q3 (by with_reducible assumption) (by with_reducible assumption) (by with_reducible assumption) (by with_reducible assumption) (by decide) | exact q4 (by with_reducible assumption) (by with_reducible assumption) (by with_reducible assumption) (by with_reducible assumption) (by with_reducible assumption) (by decide) | omega); (case hz_hi => first | exact leN (by with_reducible assumption) (by decide) | exact g1 (by with_reducible assumption) (by with_reducible assumption) (by decide) | exact g2 (by with_reducible assumption) (by with_reducible assumption) (by with_reducible assumption) (by decide) | exact g3 (by with_reducible assumption) (by with_reducible assumption) (by with_reducible assumption) (by with_reducible assumption) (by decide) | exact g4 (by with_reducible assumption) (by with_reducible assumption) (by with_reducible assumption) (by with_reducible assumption) (by with_reducible assumption) (by decide) | exact q1 (by with_reducible assumption) (by with_reducible assumption) (by decide) | exact q2 (by with_reducible assumption) (by with_reducible assumption) (by with_reducible assumption) (by decide) | exact q3 (by with_reducible assumption) (by with_reducible assumption) (by with_reducible assumption) (by with_reducible assumption) (by decide) | exact q4 (by with_reducible assumption) (by with_reducible assumption) (by with_reducible assumption) (by with_reducible assumption) (by with_reducible assumption) (by decide) | omega); (case hz_hm => first | omega | (rw [oct_size]; decide)); (case hz_hs => first | exact leN (by with_reducible assumption) (by decide) | exact g1 (by with_reducible assumption) (by with_reducible assumption) (by decide) | exact g2 (by with_reducible assumption) (by with_reducible assumption) (by with_reducible assumption) (by decide) | exact g3 (by with_reducible assumption) (by with_reducible assumption) (by with_reducible assumption) (by with_reducible assumption) (by decide) | exact g4 (by with_reducible assumption) (by with_reducible assumption) (by with_reducible assumption) (by with_reducible assumption) (by with_reducible assumption) (by decide) | exact q1 (by with_reducible assumption) (by with_reducible assumption) (by decide) | exact q2 (by with_reducible assumption) (by with_reducible assumption) (by with_reducible assumption) (by decide) | exact q3 (by with_reducible assumption) (by with_reducible assumption) (by with_reducible assumption) (by with_reducible assumption) (by decide) | exact q4 (by with_reducible assumption) (by with_reducible assumption) (by with_reducible assumption) (by with_reducible assumption) (by with_reducible assumption) (by decide) | omega); intro a0 a1 a2 a3 a4 _ h' _ sg' St' Ch'; (have F' := Fr.step (by k_asm) (by k_asm) (by intro q hq; repeat (first | with_reducible exact hq | refine List.mem_cons_of_mem _ ?_)) St'); (have N' := News.step (by k_asm) (by k_asm) (by assumption) (by intro q hq; repeat (first | with_reducible exact hq | refine List.mem_cons_of_mem _ ?_)) St'); (have lb := St'.grow.length); (dsimp only [questions, List.length_cons, List.length_nil] at lb); (have kr := nonce_range (by assumption) St'.mw (by omega) Ch'.2.2.2.2); (try k_sweep); (try dsimp only); (try k_fold))
    | ( (with_reducible show wpAny _ _ (call (Value.ref 144) [Value.bytes _ _, Value.bytes _ _, Value.ref _]) _ _ _); (refine' dgk (Cx.of ?hz_B ?hz_F ?hz_X ?hz_T ?hz_K ?hz_d ?hz_u ?hz_N ?hz_S) ?hz_K2 ?hz_M2 ?hz_hx ?hz_hi ?hz_hm ?hz_hs ?_); (case hz_B => k_asm); (case hz_F => k_asm); (case hz_X => k_asm); (case hz_T => k_asm); (case hz_K => first | exact rfl | assumption); (case hz_N => k_asm); (case hz_d => ((try dsimp only [Around.deeper, ktrTop]); first | exact room1 (by assumption) (by decide) | exact room0 (by assumption) (by decide) | omega)); (case hz_u => ((try dsimp only [Around.deeper, ktrTop]); first | exact room1 (by assumption) (by decide) | exact room0 (by assumption) (by decide) | omega)); (case hz_S => (intro q hq; repeat (first | with_reducible exact hq | refine List.mem_cons_of_mem _ ?_))); (case hz_K2 => assumption); (case hz_M2 => assumption); (case hz_hx => first | exact leN (by with_reducible assumption) (by decide) | exact g1 (by with_reducible assumption) (by with_reducible assumption) (by decide) | exact g2 (by with_reducible assumption) (by with_reducible assumption) (by with_reducible assumption) (by decide) | exact g3 (by with_reducible assumption) (by with_reducible assumption) (by with_reducible assumption) (by with_reducible assumption) (by decide) | exact g4 (by with_reducible assumption) (by with_reducible assumption) (by with_reducible assumption) (by with_reducible assumption) (by with_reducible assumption) (by decide) | exact q1 (by with_reducible assumption) (by with_reducible assumption) (by decide) | exact q2 (by with_reducible assumption) (by with_reducible assumption) (by with_reducible assumption) (by decide) | exact q3 (by with_reducible assumption) (by with_reducible assumption) (by with_reducible assumption) (by with_reducible assumption) (by decide) | exact q4 (by with_reducible assumption) (by with_reducible assumption) (by with_reducible assumption) (by with_reducible assumption) (by with_reducible assumption) (by decide) | omega); (case hz_hi => first | exact leN (by with_reducible assumption) (by decide) | exact g1 (by with_reducible assumption) (by with_reducible assumption) (by decide) | exact g2 (by with_reducible assumption) (by with_reducible assumption) (by with_reducible assumption) (by decide) | exact g3 (by with_reducible assumption) (by with_reducible assumption) (by with_reducible assumption) (by with_reducible assumption) (by decide) | exact g4 (by with_reducible assumption) (by with_reducible assumption) (by with_reducible assumption) (by with_reducible assumption) (by with_reducible assumption) (by decide) | exact q1 (by with_reducible assumption) (by with_reducible assumption) (by decide) | exact q2 (by with_reducible assumption) (by with_reducible assumption) (by with_reducible assumption) (by decide) | exact q3 (by with_reducible assumption) (by with_reducible assumption) (by with_reducible assumption) (by with_reducible assumption) (by decide) | exact q4 (by with_reducible assumption) (by with_reducible assumption) (by with_reducible assumption) (by with_reducible assumption) (by with_reducible assumption) (by decide) | omega); (case hz_hm => first | omega | (rw [oct_size]; decide)); (case hz_hs => first | exact leN (by with_reducible assumption) (by decide) | exact g1 (by with_reducible assumption) (by with_reducible assumption) (by decide) | exact g2 (by with_reducible assumption) (by with_reducible assumption) (by with_reducible assumption) (by decide) | exact g3 (by with_reducible assumption) (by with_reducible assumption) (by with_reducible assumption) (by with_reducible assumption) (by decide) | exact g4 (by with_reducible assumption) (by with_reducible assumption) (by with_reducible assumption) (by with_reducible assumption) (by with_reducible assumption) (by decide) | exact q1 (by with_reducible assumption) (by with_reducible assumption) (by decide) | exact q2 (by with_reducible assumption) (by with_reducible assumption) (by with_reducible assumption) (by decide) | exact q3 (by with_reducible assumption) (by with_reducible assumption) (by with_reducible assumption) (by with_reducible assumption) (by decide) | exact q4 (by with_reducible assumption) (by with_reducible assumption) (by with_reducible assumption) (by with_reducible assumption) (by with_reducible assumption) (by decide) | omega); intro a0 a1 a2 a3 a4 _ h' _ sg' St' Ch'; (have F' := Fr.step (by k_asm) (by k_asm) (by intro q hq; repeat (first | with_reducible exact hq | refine List.mem_cons_of_mem _ ?_)) St'); (have N' := News.step (by k_asm) (by k_asm) (by assumption) (by intro q hq; repeat (first | with_reducible exact hq | refine List.mem_cons_of_mem _ ?_)) St'); (have lb := St'.grow.length); (dsimp only [questions, List.length_cons, List.length_nil] at lb); (have kr := nonce_range (by assumption) St'.mw (by omega) Ch'.2.2.2.2); (try k_sweep); (try dsimp only); (try k_fold))
    | with_reducible ( (with_reducible show wpAny _ _ (call (Value.ref 95) [Value.int _ _, Value.int _ _]) _ _ _); (refine' inv_ (Cx.of ?hz_B ?hz_F ?hz_X ?hz_T ?hz_K ?hz_d ?hz_u ?hz_N ?hz_S) ?hz_z ?hz_z' ?_); (case hz_B => k_asm); (case hz_F => k_asm); (case hz_X => k_asm); (case hz_T => k_asm); (case hz_K => first | exact rfl | assumption); (case hz_N => k_asm); (case hz_d => ((try dsimp only [Around.deeper, ktrTop]); first | exact room1 (by assumption) (by decide) | exact room0 (by assumption) (by decide) | omega)); (case hz_u => ((try dsimp only [Around.deeper, ktrTop]); first | exact room1 (by assumption) (by decide) | exact room0 (by assumption) (by decide) | omega)); (case hz_S => exact nsub_Sign); (case hz_z => decide); (case hz_z' => exact szNN); intro _ h' _ st'; (have F' := Fr.stay (by k_asm) st'); (have N' := News.stay (by k_asm) st'); (try k_sweep); (try dsimp only); (try k_fold))
    | ( (with_reducible show wpAny _ _ (call (Value.ref 95) [Value.int _ _, Value.int _ _]) _ _ _); (refine' inv_ (Cx.of ?hz_B ?hz_F ?hz_X ?hz_T ?hz_K ?hz_d ?hz_u ?hz_N ?hz_S) ?hz_z ?hz_z' ?_); (case hz_B => k_asm); (case hz_F => k_asm); (case hz_X => k_asm); (case hz_T => k_asm); (case hz_K => first | exact rfl | assumption); (case hz_N => k_asm); (case hz_d => ((try dsimp only [Around.deeper, ktrTop]); first | exact room1 (by assumption) (by decide) | exact room0 (by assumption) (by decide) | omega)); (case hz_u => ((try dsimp only [Around.deeper, ktrTop]); first | exact room1 (by assumption) (by decide) | exact room0 (by assumption) (by decide) | omega)); (case hz_S => exact nsub_Sign); (case hz_z => decide); (case hz_z' => exact szNN); intro _ h' _ st'; (have F' := Fr.stay (by k_asm) st'); (have N' := News.stay (by k_asm) st'); (try k_sweep); (try dsimp only); (try k_fold))
    | with_reducible ( (with_reducible show wpAny _ _ (call (Value.ref 137) [Value.ref 81, Value.int _ _]) _ _ _); (refine' fastmul (Cx.of ?hz_B ?hz_F ?hz_X ?hz_T ?hz_K ?hz_d ?hz_u ?hz_N ?hz_S) ?hz_z ?hz_z' ?_); (case hz_B => k_asm); (case hz_F => k_asm); (case hz_X => k_asm); (case hz_T => k_asm); (case hz_K => first | exact rfl | assumption); (case hz_N => k_asm); (case hz_d => ((try dsimp only [Around.deeper, ktrTop]); first | exact room1 (by assumption) (by decide) | exact room0 (by assumption) (by decide) | omega)); (case hz_u => ((try dsimp only [Around.deeper, ktrTop]); first | exact room1 (by assumption) (by decide) | exact room0 (by assumption) (by decide) | omega)); (case hz_S => exact nsub_Sign); (case hz_z => exact And.left (by assumption)); (case hz_z' => exact And.right (by assumption)); intro D' _ _ _ h' _ st' hD' fr'; (have F' := Fr.stay (by k_asm) st'); (have N' := News.fresh_cons (by k_asm) (by k_asm) st' hD' fr'); (try k_sweep); (try dsimp only); (try k_fold))
    | ( (with_reducible show wpAny _ _ (call (Value.ref 137) [Value.ref 81, Value.int _ _]) _ _ _); (refine' fastmul (Cx.of ?hz_B ?hz_F ?hz_X ?hz_T ?hz_K ?hz_d ?hz_u ?hz_N ?hz_S) ?hz_z ?hz_z' ?_); (case hz_B => k_asm); (case hz_F => k_asm); (case hz_X => k_asm); (case hz_T => k_asm); (case hz_K => first | exact rfl | assumption); (case hz_N => k_asm); (case hz_d => ((try dsimp only [Around.deeper, ktrTop]); first | exact room1 (by assumption) (by decide) | exact room0 (by assumption) (by decide) | omega)); (case hz_u => ((try dsimp only [Around.deeper, ktrTop]); first | exact room1 (by assumption) (by decide) | exact room0 (by assumption) (by decide) | omega)); (case hz_S => exact nsub_Sign); (case hz_z => exact And.left (by assumption)); (case hz_z' => exact And.right (by assumption)); intro D' _ _ _ h' _ st' hD' fr'; (have F' := Fr.stay (by k_asm) st'); (have N' := News.fresh_cons (by k_asm) (by k_asm) st' hD' fr'); (try k_sweep); (try dsimp only); (try k_fold))
    | with_reducible ( (with_reducible show wpAny _ _ (call (Value.ref 88) [Value.bytes _ _]) _ _ _); (refine' pad (Cx.of ?hz_B ?hz_F ?hz_X ?hz_T ?hz_K ?hz_d ?hz_u ?hz_N ?hz_S) ?hz_z ?_); (case hz_B => k_asm); (case hz_F => k_asm); (case hz_X => k_asm); (case hz_T => k_asm); (case hz_K => first | exact rfl | assumption); (case hz_N => k_asm); (case hz_d => ((try dsimp only [Around.deeper, ktrTop]); first | exact room1 (by assumption) (by decide) | exact room0 (by assumption) (by decide) | omega)); (case hz_u => ((try dsimp only [Around.deeper, ktrTop]); first | exact room1 (by assumption) (by decide) | exact room0 (by assumption) (by decide) | omega)); (case hz_S => exact nsub_Sign); (case hz_z => exact octs_size (by assumption)); intro _ h' _ st'; (try (rw [pad_oct (by assumption) (by assumption)])); (have F' := Fr.stay (by k_asm) st'); (have N' := News.stay (by k_asm) st'); (try k_sweep); (try dsimp only); (try k_fold))
    | ( (with_reducible show wpAny _ _ (call (Value.ref 88) [Value.bytes _ _]) _ _ _); (refine' pad (Cx.of ?hz_B ?hz_F ?hz_X ?hz_T ?hz_K ?hz_d ?hz_u ?hz_N ?hz_S) ?hz_z ?_); (case hz_B => k_asm); (case hz_F => k_asm); (case hz_X => k_asm); (case hz_T => k_asm); (case hz_K => first | exact rfl | assumption); (case hz_N => k_asm); (case hz_d => ((try dsimp only [Around.deeper, ktrTop]); first | exact room1 (by assumption) (by decide) | exact room0 (by assumption) (by decide) | omega)); (case hz_u => ((try dsimp only [Around.deeper, ktrTop]); first | exact room1 (by assumption) (by decide) | exact room0 (by assumption) (by decide) | omega)); (case hz_S => exact nsub_Sign); (case hz_z => exact octs_size (by assumption)); intro _ h' _ st'; (try (rw [pad_oct (by assumption) (by assumption)])); (have F' := Fr.stay (by k_asm) st'); (have N' := News.stay (by k_asm) st'); (try k_sweep); (try dsimp only); (try k_fold))
    | with_reducible ( (with_reducible show wpAny _ _ (call (Value.ref 28) [Value.int _ _]) _ _ _); (refine' itb (Cx.of ?hz_B ?hz_F ?hz_X ?hz_T ?hz_K ?hz_d ?hz_u ?hz_N ?hz_S) ?hz_z ?hz_z' ?_); (case hz_B => k_asm); (case hz_F => k_asm); (case hz_X => k_asm); (case hz_T => k_asm); (case hz_K => first | exact rfl | assumption); (case hz_N => k_asm); (case hz_d => ((try dsimp only [Around.deeper, ktrTop]); first | exact room1 (by assumption) (by decide) | exact room0 (by assumption) (by decide) | omega)); (case hz_u => ((try dsimp only [Around.deeper, ktrTop]); first | exact room1 (by assumption) (by decide) | exact room0 (by assumption) (by decide) | omega)); (case hz_S => exact nsub_Sign); (case hz_z => assumption); (case hz_z' => assumption); intro _ h' _ st'; (have F' := Fr.stay (by k_asm) st'); (have N' := News.stay (by k_asm) st'); (try k_sweep); (try dsimp only); (try k_fold))
    | ( (with_reducible show wpAny _ _ (call (Value.ref 28) [Value.int _ _]) _ _ _); (refine' itb (Cx.of ?hz_B ?hz_F ?hz_X ?hz_T ?hz_K ?hz_d ?hz_u ?hz_N ?hz_S) ?hz_z ?hz_z' ?_); (case hz_B => k_asm); (case hz_F => k_asm); (case hz_X => k_asm); (case hz_T => k_asm); (case hz_K => first | exact rfl | assumption); (case hz_N => k_asm); (case hz_d => ((try dsimp only [Around.deeper, ktrTop]); first | exact room1 (by assumption) (by decide) | exact room0 (by assumption) (by decide) | omega)); (case hz_u => ((try dsimp only [Around.deeper, ktrTop]); first | exact room1 (by assumption) (by decide) | exact room0 (by assumption) (by decide) | omega)); (case hz_S => exact nsub_Sign); (case hz_z => assumption); (case hz_z' => assumption); intro _ h' _ st'; (have F' := Fr.stay (by k_asm) st'); (have N' := News.stay (by k_asm) st'); (try k_sweep); (try dsimp only); (try k_fold))
    | with_reducible ( (with_reducible show wpAny _ _ (call (Value.ref 21) [Value.bytes _ _]) _ _ _); (refine' bti (Cx.of ?hz_B ?hz_F ?hz_X ?hz_T ?hz_K ?hz_d ?hz_u ?hz_N ?hz_S) ?hz_z ?_); (case hz_B => k_asm); (case hz_F => k_asm); (case hz_X => k_asm); (case hz_T => k_asm); (case hz_K => first | exact rfl | assumption); (case hz_N => k_asm); (case hz_d => ((try dsimp only [Around.deeper, ktrTop]); first | exact room1 (by assumption) (by decide) | exact room0 (by assumption) (by decide) | omega)); (case hz_u => ((try dsimp only [Around.deeper, ktrTop]); first | exact room1 (by assumption) (by decide) | exact room0 (by assumption) (by decide) | omega)); (case hz_S => exact nsub_Sign); (case hz_z => first | exact leN (by with_reducible assumption) (by decide) | exact eqN (by with_reducible assumption) (by decide) | exact g1 (by with_reducible assumption) (by with_reducible assumption) (by decide) | omega); intro _ h' _ st'; (have F' := Fr.stay (by k_asm) st'); (have N' := News.stay (by k_asm) st'); (try k_sweep); (try dsimp only); (try k_fold))
    | ( (with_reducible show wpAny _ _ (call (Value.ref 21) [Value.bytes _ _]) _ _ _); (refine' bti (Cx.of ?hz_B ?hz_F ?hz_X ?hz_T ?hz_K ?hz_d ?hz_u ?hz_N ?hz_S) ?hz_z ?_); (case hz_B => k_asm); (case hz_F => k_asm); (case hz_X => k_asm); (case hz_T => k_asm); (case hz_K => first | exact rfl | assumption); (case hz_N => k_asm); (case hz_d => ((try dsimp only [Around.deeper, ktrTop]); first | exact room1 (by assumption) (by decide) | exact room0 (by assumption) (by decide) | omega)); (case hz_u => ((try dsimp only [Around.deeper, ktrTop]); first | exact room1 (by assumption) (by decide) | exact room0 (by assumption) (by decide) | omega)); (case hz_S => exact nsub_Sign); (case hz_z => first | exact leN (by with_reducible assumption) (by decide) | exact eqN (by with_reducible assumption) (by decide) | exact g1 (by with_reducible assumption) (by with_reducible assumption) (by decide) | omega); intro _ h' _ st'; (have F' := Fr.stay (by k_asm) st'); (have N' := News.stay (by k_asm) st'); (try k_sweep); (try dsimp only); (try k_fold))
    | with_reducible ((with_reducible refine' modN ?_); intro v _ _ hv h0 h1; (have zv := szN h0 h1); (try dsimp only))
    | ((with_reducible refine' modN ?_); intro v _ _ hv h0 h1; (have zv := szN h0 h1); (try dsimp only))
    | with_reducible ((with_reducible refine' modG (b := 2) ?hz_p ?_); (case hz_p => decide); intro _ _ _ hv _ _; subst hv; (try dsimp only))
    | ((with_reducible refine' modG (b := 2) ?hz_p ?_); (case hz_p => decide); intro _ _ _ hv _ _; subst hv; (try dsimp only))
    | with_reducible ((with_reducible refine subS ?_); intro _ _; (try dsimp only))
    | ((with_reducible refine subS ?_); intro _ _; (try dsimp only))
    | with_reducible ((with_reducible refine addS ?_); intro _ _; (try dsimp only))
    | ((with_reducible refine addS ?_); intro _ _; (try dsimp only))
    | with_reducible ((with_reducible refine' mulS ?hz_a ?hz_b ?hz_c ?hz_d ?_); (case hz_a => repeat' (first | assumption | exact sz0 | exact sz1 | exact sz2 | exact fmF_sz1 _ | exact ivN_sz _ | apply Sz.mul | apply Sz.add | apply Sz.sub)); (case hz_b => repeat' (first | assumption | exact sz0 | exact sz1 | exact sz2 | exact fmF_sz1 _ | exact ivN_sz _ | apply Sz.mul | apply Sz.add | apply Sz.sub)); (case hz_c => decide); (case hz_d => decide); intro _ _; (try dsimp only))
    | ((with_reducible refine' mulS ?hz_a ?hz_b ?hz_c ?hz_d ?_); (case hz_a => repeat' (first | assumption | exact sz0 | exact sz1 | exact sz2 | exact fmF_sz1 _ | exact ivN_sz _ | apply Sz.mul | apply Sz.add | apply Sz.sub)); (case hz_b => repeat' (first | assumption | exact sz0 | exact sz1 | exact sz2 | exact fmF_sz1 _ | exact ivN_sz _ | apply Sz.mul | apply Sz.add | apply Sz.sub)); (case hz_c => decide); (case hz_d => decide); intro _ _; (try dsimp only))
    | walk1
    | (dsimp only; walk1)
    | (leave1; walk_say "STEP leave1"; try dsimp only)
    | fail "no step")
  all_goals (rename Fr _ _ _ _ => F9)
  all_goals (rename News _ _ _ _ => N9)
  · rename Step _ _ _ _ _ _ _ => S9
    rename Chain _ _ _ _ _ _ _ _ => C9
    rename _ ∧ AllLt _ _ => l9
    have e := (N9 _ (List.mem_cons_self ..)).1
    have M9 := S9.mw
    have m9 := S9.mono
    have A9 := S9.asked
    have G9 := S9.grow
    have N8 : News g L' _ (r.own w _) := fun q hq => N9 q (List.mem_cons_of_mem _ (List.mem_cons_of_mem _ hq))
    have d1 := ne_of_lt_mem (allLt_mem l9.2) own_CL
    have d2 := ne_of_lt_mem (allLt_mem l9.2) own_KN
    have dn := NewOr.trans1 hs N9 (List.mem_cons_self ..)
    have K8 := keep_of hs ho F9 N8 (own_keep m9)
    clear S9 F9
    rename (_ : Int) * 2 < _ => hc
    rename _ = _ * (_ + _) % NN => hv2
    subst hv2
    rename _ = ((beN _ : Nat) : Int) % NN => hv1
    subst hv1
    have hQ' := fun D t1 t2 t3 c h' k st => hQ _ _ _ _ _ D t1 t2 t3 c h' k _ st C9
    rw [sg_pos hc] at hQ'
    dsimp only at e ⊢
    exact hQ' _ _ _ _ _ _ _ ⟨K8, (N8 _ own_CL).1, (N8 _ own_KN).1, fun q hq => (N8 _ (own_tup hq)).1, fun q hq => NewOr.trans1 hs N8 (o := q.2) (own_tup hq), m9, M9, A9, G9⟩ e dn d1 d2
  · rename Step _ _ _ _ _ _ _ => S9
    rename Chain _ _ _ _ _ _ _ _ => C9
    rename _ ∧ AllLt _ _ => l9
    have e := (N9 _ (List.mem_cons_self ..)).1
    have M9 := S9.mw
    have m9 := S9.mono
    have A9 := S9.asked
    have G9 := S9.grow
    have N8 : News g L' _ (r.own w _) := fun q hq => N9 q (List.mem_cons_of_mem _ (List.mem_cons_of_mem _ hq))
    have d1 := ne_of_lt_mem (allLt_mem l9.2) own_CL
    have d2 := ne_of_lt_mem (allLt_mem l9.2) own_KN
    have dn := NewOr.trans1 hs N9 (List.mem_cons_self ..)
    have K8 := keep_of hs ho F9 N8 (own_keep m9)
    clear S9 F9
    rename ¬ ((_ : Int) * 2 < _) => hc
    rename _ = _ * (_ + _) % NN => hv2
    subst hv2
    rename _ = ((beN _ : Nat) : Int) % NN => hv1
    subst hv1
    have hQ' := fun D t1 t2 t3 c h' k st => hQ _ _ _ _ _ D t1 t2 t3 c h' k _ st C9
    rw [sg_neg hc] at hQ'
    dsimp only at e ⊢
    exact hQ' _ _ _ _ _ _ _ ⟨K8, (N8 _ own_CL).1, (N8 _ own_KN).1, fun q hq => (N8 _ (own_tup hq)).1, fun q hq => NewOr.trans1 hs N8 (o := q.2) (own_tup hq), m9, M9, A9, G9⟩ e dn d1 d2
end Mine
end
section
set_option maxHeartbeats 1000000
namespace Mine
open PySem PySem.W PySem.Spec PySem.Calls PyProof.Rows
theorem off_TakeI : True := by
  w_top off
  exact True.intro
theorem nsub_Take {news : List (Addr × Obj)} : ∀ q ∈ ([] : List (Addr × Obj)), q ∈ news := fun _ h => nomatch h
theorem kk10 : (hd.heap_39 = hd.heap_39) ∧ PySem.Challenge.rw_jv0012_01 = PySem.Challenge.rw_jv0012_01 := by
  k_fill
  exact ⟨rfl, rfl⟩
noncomputable abbrev boxOf (RW : Addr) (at' : Int) (t : Tok) (n : Nat) : Obj := listOf #[.ref RW, .int at' t] n
def KeepBut (BX : Addr) (h h' : Heap) : Prop := ∀ b o, b ≠ BX → h.get? b = some o → h'.get? b = some o
theorem keepBut_of {H g h' : Heap} {L' BX : Addr} {m : PySem.Str → Option Value} {o : Obj} (hs : ∀ b o', H.get? b = some o' → b ∉ [((BX : Addr), o)].map (·.1) → g.get? b = some o') (F : Fr g L' h' m) : KeepBut BX H h' :=
  fun b o' hb e => F.keep _ _ (hs _ _ e fun hm => hb (by rw [List.map_cons, List.map_nil, List.mem_singleton] at hm; exact hm))
theorem take {w : World} {A : Around} {s : Shared} {Q E : Value → Shared → Prop} {BX RW : Addr} {at' many : Int} {t tm : Tok} {n : Nat} {vs : List Value} {ns : List Int}
   (C : Cx w 1 20 A s.heap [(BX, boxOf RW at' t n)]) (hR : s.heap.IsList RW vs.toArray) (hI : IntsAre vs ns) (hl : ns.length ≤ 40) (h0 : 0 ≤ at') (h1 : at' ≤ 10000) (m0 : 0 < many) (m1 : many ≤ 300) (hne : RW ≠ BX)
   (hQ : ∀ v t' t2 h' k, 0 ≤ v → v < many → KeepBut BX s.heap h' → h'.get? BX = some (boxOf RW (at' + 1) t2 n) → Q (.int v t') { s with heap := h', toks := k }) :
   wpAny (model PG w) A (call (.ref 158) [.ref BX, .int many tm]) Q E s := by
  refine wpAny_call ?_
  refine enter (binds := [(PySem.Str.ofString "box", .ref BX), (PySem.Str.ofString "many", .int many tm)]) C (by k_is) (by k_is) (BindsTo.of_eq rfl) (locs rfl) rfl rfl rfl (by decide) ?_
  intro dp un gd cn cs a ccd cl outer base g h₁ L L' p loose mean mg mb hd hu F' N' B' X' T' hs hg ho
  k_fold
  have hRg : g.IsList RW vs.toArray := by
    obtain ⟨o, e, r⟩ := hR
    exact ⟨o, hs _ _ e (fun hm => by rw [List.map_cons, List.map_nil, List.mem_singleton] at hm; exact hne hm), r⟩
  clear C hR
  repeat' (first
    | (k_unfold; (try dsimp only))
    | (k_end; wrow_close)
    | with_reducible ((with_reducible refine' modG ?hz_p ?_); (case hz_p => with_reducible assumption); intro _ _ _ hv _ _; clear hv; (try dsimp only))
    | ((with_reducible refine' modG ?hz_p ?_); (case hz_p => with_reducible assumption); intro _ _ _ hv _ _; clear hv; (try dsimp only))
    | with_reducible ((with_reducible refine addS ?_); intro _ _; (try dsimp only))
    | ((with_reducible refine addS ?_); intro _ _; (try dsimp only))
    | walk1
    | (dsimp only; walk1)
    | (leave1; walk_say "STEP leave1"; try dsimp only)
    | fail "no step")
  all_goals
    rename Fr _ _ _ _ => F9
    rename News _ _ _ _ => N9
    (try dsimp only)
    exact hQ _ _ _ _ _ (by assumption) (by assumption) (keepBut_of hs F9) (N9 (BX, _) (by k_mem)).1
end Mine
end
section
set_option maxHeartbeats 1000000
namespace Mine
open PySem PySem.W PySem.Spec PySem.Calls PyProof.Rows
theorem off_SecI : True := by
  w_top off
  exact True.intro
theorem nsub_Sec {news : List (Addr × Obj)} : ∀ q ∈ ([] : List (Addr × Obj)), q ∈ news := fun _ h => nomatch h
theorem kk11 : (hd.heap_39 = hd.heap_39) ∧ PySem.Challenge.rw_jv0012_01 = PySem.Challenge.rw_jv0012_01 := by
  k_fill
  exact ⟨rfl, rfl⟩
theorem but_F {g h h' : Heap} {L BX : Addr} {m : PySem.Str → Option Value} {o o' : Obj} {news : List (Addr × Obj)} {gf : Obj → List (Addr × Obj)} (F : Fr g L h m) (N : News g L h news) (U : UpdF BX o news gf) (kb : KeepBut BX h h') (ho' : h'.get? BX = some o') : Fr g L h' m ∧ News g L h' (gf o') := by
  obtain ⟨own, rest, rfl, hg, h1, h2⟩ := U.split
  have hm := N (BX, o) (List.mem_append_right _ (.head _))
  constructor
  · obtain ⟨⟨oL, es, ep, hL, hr⟩, kp, ab⟩ := F
    refine ⟨⟨oL, es, ep, kb _ _ (Ne.symm hm.2.1) hL, hr⟩, fun b ob e => kb _ _ (fun q => ?_) (kp _ _ e), ab⟩
    rw [q, hm.2.2] at e
    cases e
  · rw [hg o']
    intro q hq
    rcases List.mem_append.mp hq with hq | hq
    · have := N q (List.mem_append_left _ hq)
      exact ⟨kb _ _ (h1 q hq) this.1, this.2⟩
    · rcases List.mem_cons.mp hq with hq | hq
      · subst hq
        exact ⟨ho', hm.2⟩
      · have := N q (List.mem_append_right _ (List.mem_cons_of_mem _ hq))
        exact ⟨kb _ _ (h2 q hq) this.1, this.2⟩
def Rw (RW BX : Addr) (vs : List Value) (ns : List Int) (h : Heap) : Prop := h.IsList RW vs.toArray ∧ IntsAre vs ns ∧ ns.length ≤ 40 ∧ RW ≠ BX
theorem Rw.fr {RW BX L : Addr} {vs : List Value} {ns : List Int} {g h : Heap} {m : PySem.Str → Option Value} (R : Rw RW BX vs ns g) (F : Fr g L h m) : Rw RW BX vs ns h := by
  obtain ⟨⟨o, e, r⟩, b⟩ := R
  exact ⟨⟨o, F.keep _ _ e, r⟩, b⟩
theorem Rw.but {RW BX : Addr} {vs : List Value} {ns : List Int} {g h : Heap} (R : Rw RW BX vs ns g) (k : KeepBut BX g h) : Rw RW BX vs ns h := by
  obtain ⟨⟨o, e, r⟩, b⟩ := R
  exact ⟨⟨o, k _ _ b.2.2 e, r⟩, b⟩
theorem Rw.gnd {RW BX : Addr} {vs : List Value} {ns : List Int} {H g : Heap} {o : Obj} (R : Rw RW BX vs ns H) (hs : ∀ b o', H.get? b = some o' → b ∉ [((BX : Addr), o)].map (·.1) → g.get? b = some o') : Rw RW BX vs ns g := by
  obtain ⟨⟨o, e, r⟩, b⟩ := R
  exact ⟨⟨o, hs _ _ e (fun hm => by rw [List.map_cons, List.map_nil, List.mem_singleton] at hm; exact b.2.2 hm), r⟩, b⟩
theorem takeR {w : World} {A : Around} {s : Shared} {Q E : Value → Shared → Prop} {BX RW : Addr} {at' many : Int} {t tm : Tok} {n : Nat} {vs : List Value} {ns : List Int}
   (C : Cx w 1 20 A s.heap [(BX, boxOf RW at' t n)]) (R : Rw RW BX vs ns s.heap) (h0 : 0 ≤ at') (h1 : at' ≤ 10000) (m0 : 0 < many) (m1 : many ≤ 300)
   (hQ : ∀ v t' t2 h' k, 0 ≤ v → v < many → KeepBut BX s.heap h' → h'.get? BX = some (boxOf RW (at' + 1) t2 n) → Q (.int v t') { s with heap := h', toks := k }) :
   wpAny (model PG w) A (call (.ref 158) [.ref BX, .int many tm]) Q E s :=
  take C R.1 R.2.1 R.2.2.1 h0 h1 m0 m1 R.2.2.2 hQ
theorem posN1 {v : Int} (h0 : 0 ≤ v) (h1 : v ≤ 10) : 0 ≤ NN - 1 - v := Int.sub_nonneg_of_le (Int.le_trans h1 (by decide))
theorem szN1 {v : Int} (h0 : 0 ≤ v) (h1 : v ≤ 10) : Sz 256 (NN - 1 - v) := szN (posN1 h0 h1) (Int.lt_of_le_of_lt (Int.sub_le_self _ h0) (by decide))
theorem posN2 {v : Int} (h0 : 0 ≤ v) (h1 : v ≤ 10) : 0 ≤ NN - 2 + v := Int.add_nonneg (by decide) h0
theorem szN2 {v : Int} (h0 : 0 ≤ v) (h1 : v ≤ 10) : Sz 256 (NN - 2 + v) := Sz.of_lt (posN2 h0 h1) (Int.lt_of_le_of_lt (Int.add_le_add_left h1 _) (by decide))
theorem secret {w : World} {A : Around} {s : Shared} {Q E : Value → Shared → Prop} {BX RW : Addr} {at' : Int} {t : Tok} {n : Nat} {vs : List Value} {ns : List Int}
   (C : Cx w 2 30 A s.heap [(BX, boxOf RW at' t n)]) (R : Rw RW BX vs ns s.heap) (h0 : 0 ≤ at') (h1 : at' ≤ 9000)
   (hQ : ∀ b t' at2 t2 h' k, b.size = 32 → at' ≤ at2 → at2 ≤ at' + 40 → KeepBut BX s.heap h' → h'.get? BX = some (boxOf RW at2 t2 n) → Q (.bytes b t') { s with heap := h', toks := k }) :
   wpAny (model PG w) A (call (.ref 172) [.ref BX]) Q E s := by
  refine wpAny_call ?_
  refine enter (binds := [(PySem.Str.ofString "box", .ref BX)]) C (by k_is) (by k_is) (BindsTo.of_eq rfl) (locs rfl) rfl rfl rfl (by decide) ?_
  intro dp un gd cn cs a ccd cl outer base g h₁ L L' p loose mean mg mb hd hu F' N' B' X' T' hs hg ho
  k_fold
  have hRg := R.gnd hs
  clear C R
  repeat' (first
    | (k_unfold; (try dsimp only))
    | (k_end; wrow_close)
    | with_reducible ( (with_reducible show wpAny _ _ (call (Value.ref 158) [Value.ref _, Value.int _ _]) _ _ _); (refine' takeR (Cx.of ?hz_B ?hz_F ?hz_X ?hz_T ?hz_K ?hz_d ?hz_u ?hz_N ?hz_S) ?hz_R ?hz_a0 ?hz_a1 ?hz_m0 ?hz_m1 ?_); (case hz_B => k_asm); (case hz_F => k_asm); (case hz_X => k_asm); (case hz_T => k_asm); (case hz_K => first | exact rfl | assumption); (case hz_N => k_asm); (case hz_d => ((try dsimp only [Around.deeper, ktrTop]); first | exact room1 (by assumption) (by decide) | exact room0 (by assumption) (by decide) | omega)); (case hz_u => ((try dsimp only [Around.deeper, ktrTop]); first | exact room1 (by assumption) (by decide) | exact room0 (by assumption) (by decide) | omega)); (case hz_S => (intro q hq; rw [List.mem_singleton] at hq; subst hq; k_mem)); (case hz_R => exact Rw.fr (by assumption) (by k_asm)); (case hz_a0 => first | with_reducible assumption | decide | exact geI (by with_reducible assumption) (by decide) | exact leI (by with_reducible assumption) (by decide) | exact pgeI (by with_reducible assumption) (by decide) | exact pleI (by with_reducible assumption) (by decide) | exact pge2I (by with_reducible assumption) (by decide) | exact self2I (by decide) | exact self1I (by decide) | exact self0I (by decide) | exact addgeI (by with_reducible assumption) (by decide) | exact addltI (by with_reducible assumption) (by decide) | exact addleI (by with_reducible assumption) (by decide) | exact ge2I (by with_reducible assumption) (by with_reducible assumption) (by decide) | exact ge2pI (by with_reducible assumption) (by with_reducible assumption) (by decide) | exact bdA (by with_reducible assumption) (by decide) | exact bdB (by with_reducible assumption) (by with_reducible assumption) (by decide) | exact bdC (by with_reducible assumption) (by with_reducible assumption) (by decide) | exact bdD (by with_reducible assumption) (by with_reducible assumption) (by with_reducible assumption) (by decide) (by decide) | exact bdE (by with_reducible assumption) (by with_reducible assumption) (by with_reducible assumption) (by with_reducible assumption) (by decide) (by decide) | exact bdF (by with_reducible assumption) (by with_reducible assumption) (by with_reducible assumption) (by with_reducible assumption) (by decide) (by decide) | exact natPos (by with_reducible assumption) | exact natLe (by with_reducible assumption) (by decide) | exact ltLe (by with_reducible assumption) (by decide) | omega); (case hz_a1 => first | with_reducible assumption | decide | exact geI (by with_reducible assumption) (by decide) | exact leI (by with_reducible assumption) (by decide) | exact pgeI (by with_reducible assumption) (by decide) | exact pleI (by with_reducible assumption) (by decide) | exact pge2I (by with_reducible assumption) (by decide) | exact self2I (by decide) | exact self1I (by decide) | exact self0I (by decide) | exact addgeI (by with_reducible assumption) (by decide) | exact addltI (by with_reducible assumption) (by decide) | exact addleI (by with_reducible assumption) (by decide) | exact ge2I (by with_reducible assumption) (by with_reducible assumption) (by decide) | exact ge2pI (by with_reducible assumption) (by with_reducible assumption) (by decide) | exact bdA (by with_reducible assumption) (by decide) | exact bdB (by with_reducible assumption) (by with_reducible assumption) (by decide) | exact bdC (by with_reducible assumption) (by with_reducible assumption) (by decide) | exact bdD (by with_reducible assumption) (by with_reducible assumption) (by with_reducible assumption) (by decide) (by decide) | exact bdE (by with_reducible assumption) (by with_reducible assumption) (by with_reducible assumption) (by with_reducible assumption) (by decide) (by decide) | exact bdF (by with_reducible assumption) (by with_reducible assumption) (by with_reducible assumption) (by with_reducible assumption) (by decide) (by decide) | exact natPos (by with_reducible assumption) | exact natLe (by with_reducible assumption) (by decide) | exact ltLe (by with_reducible assumption) (by decide) | omega); (case hz_m0 => first | with_reducible assumption | decide | exact geI (by with_reducible assumption) (by decide) | exact leI (by with_reducible assumption) (by decide) | exact pgeI (by with_reducible assumption) (by decide) | exact pleI (by with_reducible assumption) (by decide) | exact pge2I (by with_reducible assumption) (by decide) | exact self2I (by decide) | exact self1I (by decide) | exact self0I (by decide) | exact addgeI (by with_reducible assumption) (by decide) | exact addltI (by with_reducible assumption) (by decide) | exact addleI (by with_reducible assumption) (by decide) | exact ge2I (by with_reducible assumption) (by with_reducible assumption) (by decide) | exact ge2pI (by with_reducible assumption) (by with_reducible assumption) (by decide) | exact bdA (by with_reducible assumption) (by decide) | exact bdB (by with_reducible assumption) (by with_reducible assumption) (by decide) | exact bdC (by with_reducible assumption) (by with_reducible assumption) (by decide) | exact bdD (by with_reducible assumption) (by with_reducible assumption) (by with_reducible assumption) (by decide) (by decide) | exact bdE (by with_reducible assumption) (by with_reducible assumption) (by with_reducible assumption) (by with_reducible assumption) (by decide) (by decide) | exact bdF (by with_reducible assumption) (by with_reducible assumption) (by with_reducible assumption) (by with_reducible assumption) (by decide) (by decide) | exact natPos (by with_reducible assumption) | exact natLe (by with_reducible assumption) (by decide) | exact ltLe (by with_reducible assumption) (by decide) | omega); (case hz_m1 => first | with_reducible assumption | decide | exact geI (by with_reducible assumption) (by decide) | exact leI (by with_reducible assumption) (by decide) | exact pgeI (by with_reducible assumption) (by decide) | exact pleI (by with_reducible assumption) (by decide) | exact pge2I (by with_reducible assumption) (by decide) | exact self2I (by decide) | exact self1I (by decide) | exact self0I (by decide) | exact addgeI (by with_reducible assumption) (by decide) | exact addltI (by with_reducible assumption) (by decide) | exact addleI (by with_reducible assumption) (by decide) | exact ge2I (by with_reducible assumption) (by with_reducible assumption) (by decide) | exact ge2pI (by with_reducible assumption) (by with_reducible assumption) (by decide) | exact bdA (by with_reducible assumption) (by decide) | exact bdB (by with_reducible assumption) (by with_reducible assumption) (by decide) | exact bdC (by with_reducible assumption) (by with_reducible assumption) (by decide) | exact bdD (by with_reducible assumption) (by with_reducible assumption) (by with_reducible assumption) (by decide) (by decide) | exact bdE (by with_reducible assumption) (by with_reducible assumption) (by with_reducible assumption) (by with_reducible assumption) (by decide) (by decide) | exact bdF (by with_reducible assumption) (by with_reducible assumption) (by with_reducible assumption) (by with_reducible assumption) (by decide) (by decide) | exact natPos (by with_reducible assumption) | exact natLe (by with_reducible assumption) (by decide) | exact ltLe (by with_reducible assumption) (by decide) | omega); intro v' _ _ h' _ v0 v1 kb' ho'; (have X' := but_F (by k_asm) (by k_asm) (by k_updF) kb' ho'); (have F' := X'.1); (have N' := X'.2); clear X' kb' ho'; (try dsimp only at N'); (try k_sweep); (try dsimp only); (try k_fold))
    | ( (with_reducible show wpAny _ _ (call (Value.ref 158) [Value.ref _, Value.int _ _]) _ _ _); (refine' takeR (Cx.of ?hz_B ?hz_F ?hz_X ?hz_T ?hz_K ?hz_d ?hz_u ?hz_N ?hz_S) ?hz_R ?hz_a0 ?hz_a1 ?hz_m0 ?hz_m1 ?_); (case hz_B => k_asm); (case hz_F => k_asm); (case hz_X => k_asm); (case hz_T => k_asm); (case hz_K => first | exact rfl | assumption); (case hz_N => k_asm); (case hz_d => ((try dsimp only [Around.deeper, ktrTop]); first | exact room1 (by assumption) (by decide) | exact room0 (by assumption) (by decide) | omega)); (case hz_u => ((try dsimp only [Around.deeper, ktrTop]); first | exact room1 (by assumption) (by decide) | exact room0 (by assumption) (by decide) | omega)); (case hz_S => (intro q hq; rw [List.mem_singleton] at hq; subst hq; k_mem)); (case hz_R => exact Rw.fr (by assumption) (by k_asm)); (case hz_a0 => first | with_reducible assumption | decide | exact geI (by with_reducible assumption) (by decide) | exact leI (by with_reducible assumption) (by decide) | exact pgeI (by with_reducible assumption) (by decide) | exact pleI (by with_reducible assumption) (by decide) | exact pge2I (by with_reducible assumption) (by decide) | exact self2I (by decide) | exact self1I (by decide) | exact self0I (by decide) | exact addgeI (by with_reducible assumption) (by decide) | exact addltI (by with_reducible assumption) (by decide) | exact addleI (by with_reducible assumption) (by decide) | exact ge2I (by with_reducible assumption) (by with_reducible assumption) (by decide) | exact ge2pI (by with_reducible assumption) (by with_reducible assumption) (by decide) | exact bdA (by with_reducible assumption) (by decide) | exact bdB (by with_reducible assumption) (by with_reducible assumption) (by decide) | exact bdC (by with_reducible assumption) (by with_reducible assumption) (by decide) | exact bdD (by with_reducible assumption) (by with_reducible assumption) (by with_reducible assumption) (by decide) (by decide) | exact bdE (by with_reducible assumption) (by with_reducible assumption) (by with_reducible assumption) (by with_reducible assumption) (by decide) (by decide) | exact bdF (by with_reducible assumption) (by with_reducible assumption) (by with_reducible assumption) (by with_reducible assumption) (by decide) (by decide) | exact natPos (by with_reducible assumption) | exact natLe (by with_reducible assumption) (by decide) | exact ltLe (by with_reducible assumption) (by decide) | omega); (case hz_a1 => first | with_reducible assumption | decide | exact geI (by with_reducible assumption) (by decide) | exact leI (by with_reducible assumption) (by decide) | exact pgeI (by with_reducible assumption) (by decide) | exact pleI (by with_reducible assumption) (by decide) | exact pge2I (by with_reducible assumption) (by decide) | exact self2I (by decide) | exact self1I (by decide) | exact self0I (by decide) | exact addgeI (by with_reducible assumption) (by decide) | exact addltI (by with_reducible assumption) (by decide) | exact addleI (by with_reducible assumption) (by decide) | exact ge2I (by with_reducible assumption) (by with_reducible assumption) (by decide) | exact ge2pI (by with_reducible assumption) (by with_reducible assumption) (by decide) | exact bdA (by with_reducible assumption) (by decide) | exact bdB (by with_reducible assumption) (by with_reducible assumption) (by decide) | exact bdC (by with_reducible assumption) (by with_reducible assumption) (by decide) | exact bdD (by with_reducible assumption) (by with_reducible assumption) (by with_reducible assumption) (by decide) (by decide) | exact bdE (by with_reducible assumption) (by with_reducible assumption) (by with_reducible assumption) (by with_reducible assumption) (by decide) (by decide) | exact bdF (by with_reducible assumption) (by with_reducible assumption) (by with_reducible assumption) (by with_reducible assumption) (by decide) (by decide) | exact natPos (by with_reducible assumption) | exact natLe (by with_reducible assumption) (by decide) | exact ltLe (by with_reducible assumption) (by decide) | omega); (case hz_m0 => first | with_reducible assumption | decide | exact geI (by with_reducible assumption) (by decide) | exact leI (by with_reducible assumption) (by decide) | exact pgeI (by with_reducible assumption) (by decide) | exact pleI (by with_reducible assumption) (by decide) | exact pge2I (by with_reducible assumption) (by decide) | exact self2I (by decide) | exact self1I (by decide) | exact self0I (by decide) | exact addgeI (by with_reducible assumption) (by decide) | exact addltI (by with_reducible assumption) (by decide) | exact addleI (by with_reducible assumption) (by decide) | exact ge2I (by with_reducible assumption) (by with_reducible assumption) (by decide) | exact ge2pI (by with_reducible assumption) (by with_reducible assumption) (by decide) | exact bdA (by with_reducible assumption) (by decide) | exact bdB (by with_reducible assumption) (by with_reducible assumption) (by decide) | exact bdC (by with_reducible assumption) (by with_reducible assumption) (by decide) | exact bdD (by with_reducible assumption) (by with_reducible assumption) (by with_reducible assumption) (by decide) (by decide) | exact bdE (by with_reducible assumption) (by with_reducible assumption) (by with_reducible assumption) (by with_reducible assumption) (by decide) (by decide) | exact bdF (by with_reducible assumption) (by with_reducible assumption) (by with_reducible assumption) (by with_reducible assumption) (by decide) (by decide) | exact natPos (by with_reducible assumption) | exact natLe (by with_reducible assumption) (by decide) | exact ltLe (by with_reducible assumption) (by decide) | omega); (case hz_m1 => first | with_reducible assumption | decide | exact geI (by with_reducible assumption) (by decide) | exact leI (by with_reducible assumption) (by decide) | exact pgeI (by with_reducible assumption) (by decide) | exact pleI (by with_reducible assumption) (by decide) | exact pge2I (by with_reducible assumption) (by decide) | exact self2I (by decide) | exact self1I (by decide) | exact self0I (by decide) | exact addgeI (by with_reducible assumption) (by decide) | exact addltI (by with_reducible assumption) (by decide) | exact addleI (by with_reducible assumption) (by decide) | exact ge2I (by with_reducible assumption) (by with_reducible assumption) (by decide) | exact ge2pI (by with_reducible assumption) (by with_reducible assumption) (by decide) | exact bdA (by with_reducible assumption) (by decide) | exact bdB (by with_reducible assumption) (by with_reducible assumption) (by decide) | exact bdC (by with_reducible assumption) (by with_reducible assumption) (by decide) | exact bdD (by with_reducible assumption) (by with_reducible assumption) (by with_reducible assumption) (by decide) (by decide) | exact bdE (by with_reducible assumption) (by with_reducible assumption) (by with_reducible assumption) (by with_reducible assumption) (by decide) (by decide) | exact bdF (by with_reducible assumption) (by with_reducible assumption) (by with_reducible assumption) (by with_reducible assumption) (by decide) (by decide) | exact natPos (by with_reducible assumption) | exact natLe (by with_reducible assumption) (by decide) | exact ltLe (by with_reducible assumption) (by decide) | omega); intro v' _ _ h' _ v0 v1 kb' ho'; (have X' := but_F (by k_asm) (by k_asm) (by k_updF) kb' ho'); (have F' := X'.1); (have N' := X'.2); clear X' kb' ho'; (try dsimp only at N'); (try k_sweep); (try dsimp only); (try k_fold))
    | with_reducible ( (with_reducible show wpAny _ _ (call (Value.ref 165) [Value.int _ _]) _ _ _); (refine' octets (Cx.of ?hz_B ?hz_F ?hz_X ?hz_T ?hz_K ?hz_d ?hz_u ?hz_N ?hz_S) ?hz_z ?hz_z' ?_); (case hz_B => k_asm); (case hz_F => k_asm); (case hz_X => k_asm); (case hz_T => k_asm); (case hz_K => first | exact rfl | assumption); (case hz_N => k_asm); (case hz_d => ((try dsimp only [Around.deeper, ktrTop]); first | exact room1 (by assumption) (by decide) | exact room0 (by assumption) (by decide) | omega)); (case hz_u => ((try dsimp only [Around.deeper, ktrTop]); first | exact room1 (by assumption) (by decide) | exact room0 (by assumption) (by decide) | omega)); (case hz_S => exact nsub_Sec); (case hz_z => first | exact geI (by with_reducible assumption) (by decide) | exact addgeI (by with_reducible assumption) (by decide) | exact posN1 (by with_reducible assumption) (ltLe (by with_reducible assumption) (by decide)) | exact posN2 (by with_reducible assumption) (ltLe (by with_reducible assumption) (by decide)) | omega); (case hz_z' => first | exact szSmall (by first | with_reducible assumption | decide | exact geI (by with_reducible assumption) (by decide) | exact leI (by with_reducible assumption) (by decide) | exact pgeI (by with_reducible assumption) (by decide) | exact pleI (by with_reducible assumption) (by decide) | exact pge2I (by with_reducible assumption) (by decide) | exact self2I (by decide) | exact self1I (by decide) | exact self0I (by decide) | exact addgeI (by with_reducible assumption) (by decide) | exact addltI (by with_reducible assumption) (by decide) | exact addleI (by with_reducible assumption) (by decide) | exact ge2I (by with_reducible assumption) (by with_reducible assumption) (by decide) | exact ge2pI (by with_reducible assumption) (by with_reducible assumption) (by decide) | exact bdA (by with_reducible assumption) (by decide) | exact bdB (by with_reducible assumption) (by with_reducible assumption) (by decide) | exact bdC (by with_reducible assumption) (by with_reducible assumption) (by decide) | exact bdD (by with_reducible assumption) (by with_reducible assumption) (by with_reducible assumption) (by decide) (by decide) | exact bdE (by with_reducible assumption) (by with_reducible assumption) (by with_reducible assumption) (by with_reducible assumption) (by decide) (by decide) | exact bdF (by with_reducible assumption) (by with_reducible assumption) (by with_reducible assumption) (by with_reducible assumption) (by decide) (by decide) | exact natPos (by with_reducible assumption) | exact natLe (by with_reducible assumption) (by decide) | exact ltLe (by with_reducible assumption) (by decide) | omega) (by first | with_reducible assumption | decide | exact geI (by with_reducible assumption) (by decide) | exact leI (by with_reducible assumption) (by decide) | exact pgeI (by with_reducible assumption) (by decide) | exact pleI (by with_reducible assumption) (by decide) | exact pge2I (by with_reducible assumption) (by decide) | exact self2I (by decide) | exact self1I (by decide) | exact self0I (by decide) | exact addgeI (by with_reducible assumption) (by decide) | exact addltI (by with_reducible assumption) (by decide) | exact addleI (by with_reducible assumption) (by decide) | exact ge2I (by with_reducible assumption) (by with_reducible assumption) (by decide) | exact ge2pI (by with_reducible assumption) (by with_reducible assumption) (by decide) | exact bdA (by with_reducible assumption) (by decide) | exact bdB (by with_reducible assumption) (by with_reducible assumption) (by decide) | exact bdC (by with_reducible assumption) (by with_reducible assumption) (by decide) | exact bdD (by with_reducible assumption) (by with_reducible assumption) (by with_reducible assumption) (by decide) (by decide) | exact bdE (by with_reducible assumption) (by with_reducible assumption) (by with_reducible assumption) (by with_reducible assumption) (by decide) (by decide) | exact bdF (by with_reducible assumption) (by with_reducible assumption) (by with_reducible assumption) (by with_reducible assumption) (by decide) (by decide) | exact natPos (by with_reducible assumption) | exact natLe (by with_reducible assumption) (by decide) | exact ltLe (by with_reducible assumption) (by decide) | omega) | exact szN1 (by with_reducible assumption) (ltLe (by with_reducible assumption) (by decide)) | exact szN2 (by with_reducible assumption) (ltLe (by with_reducible assumption) (by decide))); intro _ h' _ st'; (have F' := Fr.stay (by k_asm) st'); (have N' := News.stay (by k_asm) st'); (try k_sweep); (try dsimp only); (try k_fold))
    | ( (with_reducible show wpAny _ _ (call (Value.ref 165) [Value.int _ _]) _ _ _); (refine' octets (Cx.of ?hz_B ?hz_F ?hz_X ?hz_T ?hz_K ?hz_d ?hz_u ?hz_N ?hz_S) ?hz_z ?hz_z' ?_); (case hz_B => k_asm); (case hz_F => k_asm); (case hz_X => k_asm); (case hz_T => k_asm); (case hz_K => first | exact rfl | assumption); (case hz_N => k_asm); (case hz_d => ((try dsimp only [Around.deeper, ktrTop]); first | exact room1 (by assumption) (by decide) | exact room0 (by assumption) (by decide) | omega)); (case hz_u => ((try dsimp only [Around.deeper, ktrTop]); first | exact room1 (by assumption) (by decide) | exact room0 (by assumption) (by decide) | omega)); (case hz_S => exact nsub_Sec); (case hz_z => first | exact geI (by with_reducible assumption) (by decide) | exact addgeI (by with_reducible assumption) (by decide) | exact posN1 (by with_reducible assumption) (ltLe (by with_reducible assumption) (by decide)) | exact posN2 (by with_reducible assumption) (ltLe (by with_reducible assumption) (by decide)) | omega); (case hz_z' => first | exact szSmall (by first | with_reducible assumption | decide | exact geI (by with_reducible assumption) (by decide) | exact leI (by with_reducible assumption) (by decide) | exact pgeI (by with_reducible assumption) (by decide) | exact pleI (by with_reducible assumption) (by decide) | exact pge2I (by with_reducible assumption) (by decide) | exact self2I (by decide) | exact self1I (by decide) | exact self0I (by decide) | exact addgeI (by with_reducible assumption) (by decide) | exact addltI (by with_reducible assumption) (by decide) | exact addleI (by with_reducible assumption) (by decide) | exact ge2I (by with_reducible assumption) (by with_reducible assumption) (by decide) | exact ge2pI (by with_reducible assumption) (by with_reducible assumption) (by decide) | exact bdA (by with_reducible assumption) (by decide) | exact bdB (by with_reducible assumption) (by with_reducible assumption) (by decide) | exact bdC (by with_reducible assumption) (by with_reducible assumption) (by decide) | exact bdD (by with_reducible assumption) (by with_reducible assumption) (by with_reducible assumption) (by decide) (by decide) | exact bdE (by with_reducible assumption) (by with_reducible assumption) (by with_reducible assumption) (by with_reducible assumption) (by decide) (by decide) | exact bdF (by with_reducible assumption) (by with_reducible assumption) (by with_reducible assumption) (by with_reducible assumption) (by decide) (by decide) | exact natPos (by with_reducible assumption) | exact natLe (by with_reducible assumption) (by decide) | exact ltLe (by with_reducible assumption) (by decide) | omega) (by first | with_reducible assumption | decide | exact geI (by with_reducible assumption) (by decide) | exact leI (by with_reducible assumption) (by decide) | exact pgeI (by with_reducible assumption) (by decide) | exact pleI (by with_reducible assumption) (by decide) | exact pge2I (by with_reducible assumption) (by decide) | exact self2I (by decide) | exact self1I (by decide) | exact self0I (by decide) | exact addgeI (by with_reducible assumption) (by decide) | exact addltI (by with_reducible assumption) (by decide) | exact addleI (by with_reducible assumption) (by decide) | exact ge2I (by with_reducible assumption) (by with_reducible assumption) (by decide) | exact ge2pI (by with_reducible assumption) (by with_reducible assumption) (by decide) | exact bdA (by with_reducible assumption) (by decide) | exact bdB (by with_reducible assumption) (by with_reducible assumption) (by decide) | exact bdC (by with_reducible assumption) (by with_reducible assumption) (by decide) | exact bdD (by with_reducible assumption) (by with_reducible assumption) (by with_reducible assumption) (by decide) (by decide) | exact bdE (by with_reducible assumption) (by with_reducible assumption) (by with_reducible assumption) (by with_reducible assumption) (by decide) (by decide) | exact bdF (by with_reducible assumption) (by with_reducible assumption) (by with_reducible assumption) (by with_reducible assumption) (by decide) (by decide) | exact natPos (by with_reducible assumption) | exact natLe (by with_reducible assumption) (by decide) | exact ltLe (by with_reducible assumption) (by decide) | omega) | exact szN1 (by with_reducible assumption) (ltLe (by with_reducible assumption) (by decide)) | exact szN2 (by with_reducible assumption) (ltLe (by with_reducible assumption) (by decide))); intro _ h' _ st'; (have F' := Fr.stay (by k_asm) st'); (have N' := News.stay (by k_asm) st'); (try k_sweep); (try dsimp only); (try k_fold))
    | with_reducible ((with_reducible refine subS ?_); intro _ _; (try dsimp only))
    | ((with_reducible refine subS ?_); intro _ _; (try dsimp only))
    | with_reducible ((with_reducible refine addS ?_); intro _ _; (try dsimp only))
    | ((with_reducible refine addS ?_); intro _ _; (try dsimp only))
    | walk1
    | (dsimp only; walk1)
    | (leave1; walk_say "STEP leave1"; try dsimp only)
    | fail "no step")
  all_goals
    rename Fr _ _ _ _ => F9
    rename News _ _ _ _ => N9
    (try dsimp only)
    exact hQ _ _ (at' + 1 + 1) _ _ _ (oct_size _ _) (self02I (by decide)) (self2I (by decide)) (keepBut_of hs F9) (N9 (BX, _) (by k_mem)).1
end Mine
end
section
set_option maxHeartbeats 1000000
namespace Mine
open PySem PySem.W PySem.Spec PySem.Calls PyProof.Rows
theorem enterC {w : World} {d u : Nat} {A : Around} {s : Shared} {own : List (Addr × Obj)} {R : Result → Shared → Prop} {name qual : PySem.Str} {params : Arguments} {body : List Stmt} {scope : Scope} {dV kV doc pm cdv ct oc : Value} {an od : Option Addr} {osl : Array (Option Value)} {f : Addr} {args : Args} {binds : List (PySem.Str × Value)}
    (C : Cx w (d + 1) u A s.heap own)
    (ho : (hd.heap_39 w.params).lookup f = some ⟨oc, od, .func (fnOf name qual params body scope dV kV doc pm an cdv ct), osl⟩) (hcd : codeIn (hd.heap_39 w.params) cdv qual = true)
    (hbind : BindsTo s (fnOf name qual params body scope dV kV doc pm an cdv ct) args binds) (hkind : (binds.all fun y => scope.names.lookup y.1 == some .local || scope.names.lookup y.1 == some .cell) = true)
    (hco : scope.isCoroutine = false) (hgen : scope.isGenerator = false) (hk : scope.kind = .function)
    (hnd : ((cellsFrom 0 scope.names []).map (·.1)).Nodup)
    (h : ∀ (dp un : Nat) (gd : Option (List Code)) (cn : PySem.Str) (cs : Scope) (a : Addr) (ccd : Value) (cl : List (PySem.Str × Addr)) (outer : List Env) (base g h₁ : Heap) (L L' : Addr) (tk : Nat) (cells : List (Addr × Obj))
      (p : Program) (loose : List PySem.Str) (mean : ExcName → Option Value) (mg mb : PySem.Str → Option Value),
      dp + (d + 1) ≤ 900 → un + u ≤ 9000 → Fr g L' h₁ (bindL (envOfC qual scope L' f cdv).kindOf binds fun _ => none) → News g L' h₁ (cells ++ own) →
      CellsAre (bindC (envOfC qual scope L' f cdv).kindOf binds fun _ => none) (cellsFrom (L' + 1) scope.names []) cells →
      Below (ktrTop dp un gd cn cs L a ccd cl outer) base (envX cn cs L a ccd cl :: outer) g → (hd.heap_39 w.params).In g → Top p loose mean mg mb g → (∀ p ∈ own, p.1 < L') →
      (∀ b o, s.heap.get? b = some o → b ∉ own.map (·.1) → g.get? b = some o) → (∀ b o, g.get? b = some o → s.heap.get? b = some o) → (∀ q ∈ own, s.heap.get? q.1 = some q.2) →
      wpAny (model PG w) ((ktrTop dp un gd cn cs L a ccd cl outer).deeper (envOfC qual scope L' f cdv)) (execs body (envOfC qual scope L' f cdv))
        (fun fl s' => R (.ok (.ret (match fl with | .ret v => v | _ => .none))) s')
        (fun e s' => wpAny (model PG w) ((ktrTop dp un gd cn cs L a ccd cl outer).deeper (envOfC qual scope L' f cdv)) (leaving (envOfC qual scope L' f cdv) e) (fun _ s'' => R (.error e) s'') (fun e' s'' => R (.error e') s'') s')
        { s with heap := h₁, toks := tk }) : codeAny (model PG w) A (.call (.ref f) args) R s := by
  obtain ⟨dp, un, gd, cn, cs, a, ccd, cl, outer, A₀, base, h₀, L, m, p, loose, mean, mg, mb, rfl, B, F, X₀, T, hke, hd, hu, N⟩ := C
  obtain ⟨FG, BG, st, _⟩ := groundX (R := R) (A := ktrTop dp un gd cn cs L a ccd cl outer) (env := envX cn cs L a ccd cl) B F N rfl rfl hke
  have hroom : (ktrTop dp un gd cn cs L a ccd cl outer).depth < recursionLimit := Nat.lt_of_le_of_lt (Nat.le_trans (Nat.le_add_right _ _) hd) (by decide)
  have X := X₀.keeps F.keep
  refine codeAny_call_function (body := body) (fd := fnOf name qual params body scope dV kV doc pm an cdv ct) hroom (X _ _ ho) rfl hco hgen rfl (codeRec_of X hcd) (hbind _ _ _ _ ?_)
  refine wpAny_newFunctionEnv_cells hk (kindsX hkind _) fun env' he s' x => ?_
  subst he
  refine ⟨(T.nolimit.keeps F.keep).keeps x.toInCall.keep, codeAny_func ?_⟩
  obtain ⟨h₁, tk, rfl, _⟩ := x.done
  have hk₁ := x.toInCall.keep
  obtain ⟨cells, NC, Y⟩ := Cl.news (h₀ := s.heap) (Nat.le_refl _) fun n c hm => ⟨x.cell n c (lookup_of_mem_nodup (cellsFrom_names scope.names 0 (s.heap.objs.size + 1) [] [] rfl ▸ hnd) hm), x.above n c hm⟩
  refine h dp un gd cn cs a ccd cl outer base _ h₁ L s.heap.objs.size tk cells p loose mean mg mb hd hu ⟨x.toInCall.ns, fun b o e => hk₁ b o (of_hideAll _ e), Nat.le_of_eq (hideAll_size _ _)⟩ (fun p hp => ?_) Y BG (X₀.keeps st) (T.keeps st) (fun p hp => Heap.lt_size (N p hp).1) (fun b o e n => hideAll_get _ e n) (fun b o e => of_hideAll _ e) (fun q hq => (N q hq).1)
  rcases List.mem_append.mp hp with hp | hp
  · refine ⟨(NC p hp).1, (NC p hp).2.1, ?_⟩
    cases q : (hideAll s.heap (own.map (·.1))).get? p.1 with
    | none => rfl
    | some o => have := of_hideAll _ q; rw [(NC p hp).2.2] at this; cases this
  · exact ⟨hk₁ _ _ (N p hp).1, Nat.ne_of_lt (Heap.lt_size (N p hp).1), hideAll_none _ (List.mem_map_of_mem hp)⟩

theorem off3_app {I C D : Addr} {l r : List (Addr × Obj)} : LCg.Off3 I C D (l ++ r) ↔ LCg.Off3 I C D l ∧ LCg.Off3 I C D r := by
  induction l with
  | nil => exact ⟨fun h => ⟨trivial, h⟩, fun h => h.2⟩
  | cons p l ih => exact ⟨fun h => ⟨⟨h.1, (ih.mp h.2).1⟩, (ih.mp h.2).2⟩, fun h => ⟨h.1.1, ih.mpr ⟨h.1.2, h.2⟩⟩⟩
theorem off3_upd {BX I C D : Addr} {o a b : Obj} {news : List (Addr × Obj)} {gf : Obj → List (Addr × Obj)} (U : UpdF BX o news gf) (h : LCg.Off3 I C D (gf a)) : LCg.Off3 I C D (gf b) := by
  obtain ⟨own, rest, _, hg, _, _⟩ := U.split
  rw [hg] at h ⊢
  rw [off3_app] at h ⊢
  exact ⟨h.1, h.2.1, h.2.2⟩
theorem upd_self {BX : Addr} {o : Obj} {news : List (Addr × Obj)} {gf : Obj → List (Addr × Obj)} (U : UpdF BX o news gf) : gf o = news := by
  obtain ⟨own, rest, e, hg, _, _⟩ := U.split
  rw [hg, e]
section
variable {w : World} {A : Around} {E : Value → Shared → Prop} {s : Shared} {h₀ : Heap} {L : Addr} {m : PySem.Str → Option Value} {env : Env} {elt : Expr} {x : PySem.Str} {scope : Scope} {cl : List (PySem.Str × Addr)} {P : Nat → Value → Prop} {Fin : List Value → List (Addr × Obj) → Prop}
def BoxPost (BX RW : Addr) (n : Nat) (c : Int) (at' : Int) (gf : Obj → List (Addr × Obj)) (G : Value → Prop) (s : Shared) (h₀ : Heap) (L : Addr) (m : PySem.Str → Option Value) (I : Addr) (oI : Obj) (C : Addr) (oC : Obj) (D : Addr) (ys : List Value) (y : Value) (s' : Shared) : Prop :=
  ∃ at2 t2 h' tk', s' = { s with heap := h', toks := tk' } ∧ at' ≤ at2 ∧ at2 ≤ at' + c ∧ G y ∧ Fr h₀ L h' m ∧ News h₀ L h' ((I, oI) :: (C, oC) :: (D, LCg.lst ys) :: gf (boxOf RW at2 t2 n))
theorem BoxPost.intro {BX RW : Addr} {n : Nat} {c : Int} {at' at2 : Int} {t2 : Tok} {gf : Obj → List (Addr × Obj)} {G : Value → Prop} {s : Shared} {h₀ : Heap} {L : Addr} {m : PySem.Str → Option Value} {I : Addr} {oI : Obj} {C : Addr} {oC : Obj} {D : Addr} {ys : List Value} {y : Value} {h' : Heap} {tk' : Nat}
   (F : Fr h₀ L h' m) (N : News h₀ L h' ((I, oI) :: (C, oC) :: (D, LCg.lst ys) :: gf (boxOf RW at2 t2 n))) (a : at' ≤ at2) (b : at2 ≤ at' + c) (g : G y) : BoxPost BX RW n c at' gf G s h₀ L m I oI C oC D ys y { s with heap := h', toks := tk' } := ⟨at2, t2, h', tk', rfl, a, b, g, F, N⟩
theorem boxComp {BX RW : Addr} {n : Nat} {lo : Int} {t0 : Tok} {news : List (Addr × Obj)} {gf : Obj → List (Addr × Obj)} (_hm : (BX, boxOf RW lo t0 n) ∈ news) (U : UpdF BX (boxOf RW lo t0 n) news gf) (G : Value → Prop) (N : Nat) (c : Int) (hc : 0 ≤ c)
    (step : ∀ i v I oI C oC D m₂ h tk (E' : Value → Shared → Prop) ys at' t, i < N → P i v → lo ≤ at' → at' ≤ lo + c * (i : Int) → LCg.NsObj oC m₂ → m₂ x = some v → Fr h₀ L h m → News h₀ L h ((I, oI) :: (C, oC) :: (D, LCg.lst ys) :: gf (boxOf RW at' t n)) → LCg.Off3 I C D (gf (boxOf RW at' t n)) → ((@Ne Nat I C) ∧ (@Ne Nat I D) ∧ (@Ne Nat C D)) →
      wpAny (model PG w) A (eval elt (compEnvC scope cl C env)) (BoxPost BX RW n c at' gf G s h₀ L m I oI C oC D ys) E' { s with heap := h, toks := tk })
    (fin : ∀ ys at' t, ys.length = N → (∀ y ∈ ys, G y) → lo ≤ at' → at' ≤ lo + c * (N : Int) → Fin ys (gf (boxOf RW at' t n))) :
    LCg.CompRest PG w A h₀ L m env elt x scope cl s (fun _ => True) P Fin N 0 [] news := by
  have main : ∀ k i ys at' t, i + k = N → ys.length = i → (∀ y ∈ ys, G y) → lo ≤ at' → at' ≤ lo + c * (i : Int) → LCg.CompRest PG w A h₀ L m env elt x scope cl s (fun _ => True) P Fin k i ys (gf (boxOf RW at' t n)) := by
    intro k
    induction k with
    | zero =>
      intro i ys at' t e hl hG h0 h1
      have e' : i = N := e
      subst e'
      exact LCg.CompRest.zero (fin ys at' t hl hG h0 h1)
    | succ k ih =>
      intro i ys at' t e hl hG h0 h1
      refine LCg.CompRest.succ fun v I oI C oC D m₂ h tk E' hP hC hx F N' off ne => ?_
      refine wpAny_mono (step i v I oI C oC D m₂ h tk E' ys at' t (sumL e) hP h0 h1 hC hx F N' off ne) (fun y s' hy => ?_) fun _ _ e => e
      obtain ⟨at2, t2, h', tk', rfl, b0, b1, hGy, F2, N2⟩ := hy
      refine ⟨h', tk', gf (boxOf RW at2 t2 n), rfl, F2, N2, off3_upd U off, trivial, ?_⟩
      refine ih (i + 1) (ys ++ [y]) at2 t2 (sumE e) (by rw [List.length_append, List.length_singleton, hl]) (fun z hz => ?_) (Int.le_trans h0 b0) (stepB h1 b1)
      rcases List.mem_append.mp hz with hz | hz
      · exact hG z hz
      · rw [List.mem_singleton] at hz
        rw [hz]
        exact hGy
  have r := main N 0 [] lo t0 (Nat.zero_add N) rfl (fun _ h => nomatch h) (Int.le_refl _) mul0
  rw [upd_self U] at r
  exact r
end
def IsByte (v : Value) : Prop := ∃ n t, v = .int n t ∧ 0 ≤ n ∧ n < 256
theorem ints_of : ∀ {ys : List Value}, (∀ y ∈ ys, IsByte y) → ∃ ns, IntsAre ys ns ∧ (∀ n ∈ ns, 0 ≤ n ∧ n < 256)
  | [], _ => ⟨[], .nil, fun _ h => nomatch h⟩
  | y :: ys, h => by
    obtain ⟨ns, a, b⟩ := ints_of (ys := ys) fun z hz => h z (.tail _ hz)
    obtain ⟨n, t, e, c⟩ := h y (.head _)
    subst e
    refine ⟨n :: ns, .cons n t a, fun k hk => ?_⟩
    rcases List.mem_cons.mp hk with hk | hk
    · rw [hk]; exact c
    · exact b k hk
theorem bytesOf {w : World} {A : Around} {E : Value → Shared → Prop} {s : Shared} {h₀ : Heap} {L D : Addr} {m : PySem.Str → Option Value} {news : List (Addr × Obj)} {ys : List Value} {Q : Value → Shared → Prop} (F : Fr h₀ L s.heap m) (N : News h₀ L s.heap news) (hm : (D, LCg.lst ys) ∈ news) (hG : ∀ y ∈ ys, IsByte y) (hz : ys.length ≤ 1000) (hh : A.handled = none)
    (h : ∀ h' b t k, Fr h₀ L h' m → News h₀ L h' news → b.size = ys.length → Q (.bytes b t) { s with heap := h', toks := k }) : wpAny (model PG w) A (call (.type "bytes") [.ref D]) Q E s := by
  obtain ⟨ns, hi, hr⟩ := ints_of hG
  refine call_bytes_ints (News.isList N hm) hi hr (by rw [sizeLine_eq]; exact Nat.le_trans hz (by decide)) hh fun h' t k hk => h h' _ t k (F.keeps hk) (N.grown hk) ?_
  show (List.map _ ns).toArray.size = _
  rw [List.size_toArray, List.length_map, hi.length]
end Mine
end
section
set_option maxHeartbeats 1000000
namespace Mine
open PySem PySem.W PySem.Spec PySem.Calls PyProof.Rows
theorem off_HashI : True := by
  w_top off
  exact True.intro
theorem nsub_Hash {news : List (Addr × Obj)} : ∀ q ∈ ([] : List (Addr × Obj)), q ∈ news := fun _ h => nomatch h
theorem kk12 : (hd.heap_39 = hd.heap_39) ∧ PySem.Challenge.rw_jv0012_01 = PySem.Challenge.rw_jv0012_01 := by
  k_fill
  exact ⟨rfl, rfl⟩
theorem hash {w : World} {A : Around} {s : Shared} {Q E : Value → Shared → Prop} {BX RW : Addr} {at' : Int} {t : Tok} {n : Nat} {vs : List Value} {ns : List Int}
   (C : Cx w 2 30 A s.heap [(BX, boxOf RW at' t n)]) (R : Rw RW BX vs ns s.heap) (h0 : 0 ≤ at') (h1 : at' ≤ 8000)
   (hQ : ∀ b t' at2 t2 h' k, b.size = 32 → at' ≤ at2 → at2 ≤ at' + 1300 → KeepBut BX s.heap h' → h'.get? BX = some (boxOf RW at2 t2 n) → Q (.bytes b t') { s with heap := h', toks := k }) :
   wpAny (model PG w) A (call (.ref 177) [.ref BX]) Q E s := by
  refine wpAny_call ?_
  refine enterC (binds := [(PySem.Str.ofString "box", .ref BX)]) C (by k_is) (by k_is) (BindsTo.of_eq rfl) rfl rfl rfl rfl (by decide +kernel) ?_
  intro dp un gd cn cs a ccd cl outer base g h₁ L L' tk cells p loose mean mg mb hd hu F' N' Y' B' X' T' l1 hs hg ho
  k_fold
  k_lt l1
  k_cells Y'
  (try simp only [List.cons_append, List.nil_append] at N')
  (try dsimp only)
  have hRg := R.gnd hs
  clear C R
  repeat' (first
    | (k_unfold; (try dsimp only))
    | (k_end; wrow_close)
    | with_reducible ((with_reducible show IsByte _); ( (rw [Int.fmod_eq_emod_of_nonneg _ (by decide : (0 : Int) ≤ 256)]); exact ⟨_, _, rfl, Int.emod_nonneg _ (by decide), Int.emod_lt_of_pos _ (by decide)⟩))
    | ((with_reducible show IsByte _); ( (rw [Int.fmod_eq_emod_of_nonneg _ (by decide : (0 : Int) ≤ 256)]); exact ⟨_, _, rfl, Int.emod_nonneg _ (by decide), Int.emod_lt_of_pos _ (by decide)⟩))
    | with_reducible ((with_reducible show BoxPost _ _ _ _ _ _ _ _ _ _ _ _ _ _ _ _ _ _ _); ( k_dflt (refine' BoxPost.intro ?hz_F ?hz_N ?hz_a ?hz_b ?hz_g); (case hz_F => k_asm); (case hz_N => k_asm); (case hz_a => first | with_reducible assumption | decide | exact geI (by with_reducible assumption) (by decide) | exact leI (by with_reducible assumption) (by decide) | exact pgeI (by with_reducible assumption) (by decide) | exact pleI (by with_reducible assumption) (by decide) | exact pge2I (by with_reducible assumption) (by decide) | exact self2I (by decide) | exact self1I (by decide) | exact self0I (by decide) | exact addgeI (by with_reducible assumption) (by decide) | exact addltI (by with_reducible assumption) (by decide) | exact addleI (by with_reducible assumption) (by decide) | exact ge2I (by with_reducible assumption) (by with_reducible assumption) (by decide) | exact ge2pI (by with_reducible assumption) (by with_reducible assumption) (by decide) | exact bdA (by with_reducible assumption) (by decide) | exact bdB (by with_reducible assumption) (by with_reducible assumption) (by decide) | exact bdC (by with_reducible assumption) (by with_reducible assumption) (by decide) | exact bdD (by with_reducible assumption) (by with_reducible assumption) (by with_reducible assumption) (by decide) (by decide) | exact bdE (by with_reducible assumption) (by with_reducible assumption) (by with_reducible assumption) (by with_reducible assumption) (by decide) (by decide) | exact bdF (by with_reducible assumption) (by with_reducible assumption) (by with_reducible assumption) (by with_reducible assumption) (by decide) (by decide) | exact natPos (by with_reducible assumption) | exact natLe (by with_reducible assumption) (by decide) | exact ltLe (by with_reducible assumption) (by decide) | exact dropI (by with_reducible assumption) (by decide) | exact upI (by with_reducible assumption) (by decide) | exact hbI (by with_reducible assumption) (by with_reducible assumption) (by with_reducible assumption) (by decide) | omega); (case hz_b => first | with_reducible assumption | decide | exact geI (by with_reducible assumption) (by decide) | exact leI (by with_reducible assumption) (by decide) | exact pgeI (by with_reducible assumption) (by decide) | exact pleI (by with_reducible assumption) (by decide) | exact pge2I (by with_reducible assumption) (by decide) | exact self2I (by decide) | exact self1I (by decide) | exact self0I (by decide) | exact addgeI (by with_reducible assumption) (by decide) | exact addltI (by with_reducible assumption) (by decide) | exact addleI (by with_reducible assumption) (by decide) | exact ge2I (by with_reducible assumption) (by with_reducible assumption) (by decide) | exact ge2pI (by with_reducible assumption) (by with_reducible assumption) (by decide) | exact bdA (by with_reducible assumption) (by decide) | exact bdB (by with_reducible assumption) (by with_reducible assumption) (by decide) | exact bdC (by with_reducible assumption) (by with_reducible assumption) (by decide) | exact bdD (by with_reducible assumption) (by with_reducible assumption) (by with_reducible assumption) (by decide) (by decide) | exact bdE (by with_reducible assumption) (by with_reducible assumption) (by with_reducible assumption) (by with_reducible assumption) (by decide) (by decide) | exact bdF (by with_reducible assumption) (by with_reducible assumption) (by with_reducible assumption) (by with_reducible assumption) (by decide) (by decide) | exact natPos (by with_reducible assumption) | exact natLe (by with_reducible assumption) (by decide) | exact ltLe (by with_reducible assumption) (by decide) | exact dropI (by with_reducible assumption) (by decide) | exact upI (by with_reducible assumption) (by decide) | exact hbI (by with_reducible assumption) (by with_reducible assumption) (by with_reducible assumption) (by decide) | omega)))
    | ((with_reducible show BoxPost _ _ _ _ _ _ _ _ _ _ _ _ _ _ _ _ _ _ _); ( k_dflt (refine' BoxPost.intro ?hz_F ?hz_N ?hz_a ?hz_b ?hz_g); (case hz_F => k_asm); (case hz_N => k_asm); (case hz_a => first | with_reducible assumption | decide | exact geI (by with_reducible assumption) (by decide) | exact leI (by with_reducible assumption) (by decide) | exact pgeI (by with_reducible assumption) (by decide) | exact pleI (by with_reducible assumption) (by decide) | exact pge2I (by with_reducible assumption) (by decide) | exact self2I (by decide) | exact self1I (by decide) | exact self0I (by decide) | exact addgeI (by with_reducible assumption) (by decide) | exact addltI (by with_reducible assumption) (by decide) | exact addleI (by with_reducible assumption) (by decide) | exact ge2I (by with_reducible assumption) (by with_reducible assumption) (by decide) | exact ge2pI (by with_reducible assumption) (by with_reducible assumption) (by decide) | exact bdA (by with_reducible assumption) (by decide) | exact bdB (by with_reducible assumption) (by with_reducible assumption) (by decide) | exact bdC (by with_reducible assumption) (by with_reducible assumption) (by decide) | exact bdD (by with_reducible assumption) (by with_reducible assumption) (by with_reducible assumption) (by decide) (by decide) | exact bdE (by with_reducible assumption) (by with_reducible assumption) (by with_reducible assumption) (by with_reducible assumption) (by decide) (by decide) | exact bdF (by with_reducible assumption) (by with_reducible assumption) (by with_reducible assumption) (by with_reducible assumption) (by decide) (by decide) | exact natPos (by with_reducible assumption) | exact natLe (by with_reducible assumption) (by decide) | exact ltLe (by with_reducible assumption) (by decide) | exact dropI (by with_reducible assumption) (by decide) | exact upI (by with_reducible assumption) (by decide) | exact hbI (by with_reducible assumption) (by with_reducible assumption) (by with_reducible assumption) (by decide) | omega); (case hz_b => first | with_reducible assumption | decide | exact geI (by with_reducible assumption) (by decide) | exact leI (by with_reducible assumption) (by decide) | exact pgeI (by with_reducible assumption) (by decide) | exact pleI (by with_reducible assumption) (by decide) | exact pge2I (by with_reducible assumption) (by decide) | exact self2I (by decide) | exact self1I (by decide) | exact self0I (by decide) | exact addgeI (by with_reducible assumption) (by decide) | exact addltI (by with_reducible assumption) (by decide) | exact addleI (by with_reducible assumption) (by decide) | exact ge2I (by with_reducible assumption) (by with_reducible assumption) (by decide) | exact ge2pI (by with_reducible assumption) (by with_reducible assumption) (by decide) | exact bdA (by with_reducible assumption) (by decide) | exact bdB (by with_reducible assumption) (by with_reducible assumption) (by decide) | exact bdC (by with_reducible assumption) (by with_reducible assumption) (by decide) | exact bdD (by with_reducible assumption) (by with_reducible assumption) (by with_reducible assumption) (by decide) (by decide) | exact bdE (by with_reducible assumption) (by with_reducible assumption) (by with_reducible assumption) (by with_reducible assumption) (by decide) (by decide) | exact bdF (by with_reducible assumption) (by with_reducible assumption) (by with_reducible assumption) (by with_reducible assumption) (by decide) (by decide) | exact natPos (by with_reducible assumption) | exact natLe (by with_reducible assumption) (by decide) | exact ltLe (by with_reducible assumption) (by decide) | exact dropI (by with_reducible assumption) (by decide) | exact upI (by with_reducible assumption) (by decide) | exact hbI (by with_reducible assumption) (by with_reducible assumption) (by with_reducible assumption) (by decide) | omega)))
    | with_reducible ( (with_reducible show wpAny _ _ (call (Value.type "bytes") [Value.ref _]) _ _ _); k_dflt (refine' bytesOf ?hz_F ?hz_N ?hz_m ?hz_G ?hz_z ?hz_h ?_; (case hz_F => k_asm); (case hz_N => k_asm); (case hz_m => k_mem); (case hz_G => assumption); (case hz_z => first | with_reducible assumption | exact leN (by with_reducible assumption) (by decide) | exact eqN (by with_reducible assumption) (by decide) | exact leN3 (by with_reducible assumption) (by with_reducible assumption) (by with_reducible assumption) (by decide) | exact lenA (by with_reducible assumption) (by with_reducible assumption) (by decide) | exact lenB (by with_reducible assumption) (by with_reducible assumption) (by decide) | exact sizeB (by with_reducible assumption) (by with_reducible assumption) (by with_reducible assumption) (by decide) | exact tnA (by with_reducible assumption) (by decide) | exact tnB (by with_reducible assumption) (by decide) | exact posNat (by with_reducible assumption) | exact eq0 (by with_reducible assumption) | omega); (case hz_h => rfl)); intro h' b' t' k' F' N' hb'; (try k_sweep); (try dsimp only))
    | ( (with_reducible show wpAny _ _ (call (Value.type "bytes") [Value.ref _]) _ _ _); k_dflt (refine' bytesOf ?hz_F ?hz_N ?hz_m ?hz_G ?hz_z ?hz_h ?_; (case hz_F => k_asm); (case hz_N => k_asm); (case hz_m => k_mem); (case hz_G => assumption); (case hz_z => first | with_reducible assumption | exact leN (by with_reducible assumption) (by decide) | exact eqN (by with_reducible assumption) (by decide) | exact leN3 (by with_reducible assumption) (by with_reducible assumption) (by with_reducible assumption) (by decide) | exact lenA (by with_reducible assumption) (by with_reducible assumption) (by decide) | exact lenB (by with_reducible assumption) (by with_reducible assumption) (by decide) | exact sizeB (by with_reducible assumption) (by with_reducible assumption) (by with_reducible assumption) (by decide) | exact tnA (by with_reducible assumption) (by decide) | exact tnB (by with_reducible assumption) (by decide) | exact posNat (by with_reducible assumption) | exact eq0 (by with_reducible assumption) | omega); (case hz_h => rfl)); intro h' b' t' k' F' N' hb'; (try k_sweep); (try dsimp only))
    | with_reducible ((with_reducible show LCg.CompSrc _ _ _ _ _ _ _ _ _ _ _ _ _ _); ( k_dflt (refine LCg.CompSrc.range (n := 32) (by rfl) (by k_asm) (by k_asm) (by assumption) (by first | decide | rfl) (by first | rfl | decide) (by exact Nat.le_of_ble_eq_true rfl) ?_); intro g'; k_dflt (refine' boxComp ?hz_M ?hz_U IsByte 32 40 (by decide) ?_ ?_); (case hz_M => k_dflt k_mem); (case hz_U => k_updF); (try (intro i v I oI C oC D m₂ h tk E' ys at' t hi hP h0 h1 hC hx F' N' off ne; (have hP' := hP); obtain ⟨tv, hv⟩ := hP'; subst hv; clear hP; (try dsimp only at N'); (simp only [LCg.Off3, and_true] at off); (obtain ⟨⟨p1, p2, p3⟩, o1, o2, o3⟩ := off); (have p4 := Ne.symm p1); (have p5 := Ne.symm p2); (have p6 := Ne.symm p3); (have o4 := Ne.symm o1); (have o5 := Ne.symm o2); (have o6 := Ne.symm o3); (try dsimp only); (try k_sweep)))))
    | ((with_reducible show LCg.CompSrc _ _ _ _ _ _ _ _ _ _ _ _ _ _); ( k_dflt (refine LCg.CompSrc.range (n := 32) (by rfl) (by k_asm) (by k_asm) (by assumption) (by first | decide | rfl) (by first | rfl | decide) (by exact Nat.le_of_ble_eq_true rfl) ?_); intro g'; k_dflt (refine' boxComp ?hz_M ?hz_U IsByte 32 40 (by decide) ?_ ?_); (case hz_M => k_dflt k_mem); (case hz_U => k_updF); (try (intro i v I oI C oC D m₂ h tk E' ys at' t hi hP h0 h1 hC hx F' N' off ne; (have hP' := hP); obtain ⟨tv, hv⟩ := hP'; subst hv; clear hP; (try dsimp only at N'); (simp only [LCg.Off3, and_true] at off); (obtain ⟨⟨p1, p2, p3⟩, o1, o2, o3⟩ := off); (have p4 := Ne.symm p1); (have p5 := Ne.symm p2); (have p6 := Ne.symm p3); (have o4 := Ne.symm o1); (have o5 := Ne.symm o2); (have o6 := Ne.symm o3); (try dsimp only); (try k_sweep)))))
    | with_reducible ( (with_reducible show wpAny _ _ (call (Value.ref 158) [Value.ref _, Value.int _ _]) _ _ _); (refine' takeR (Cx.of ?hz_B ?hz_F ?hz_X ?hz_T ?hz_K ?hz_d ?hz_u ?hz_N ?hz_S) ?hz_R ?hz_a0 ?hz_a1 ?hz_m0 ?hz_m1 ?_); (case hz_B => k_asm); (case hz_F => k_asm); (case hz_X => k_asm); (case hz_T => k_asm); (case hz_K => first | exact rfl | assumption); (case hz_N => k_asm); (case hz_d => ((try dsimp only [Around.deeper, ktrTop]); first | exact room1 (by assumption) (by decide) | exact room0 (by assumption) (by decide) | omega)); (case hz_u => ((try dsimp only [Around.deeper, ktrTop]); first | exact room1 (by assumption) (by decide) | exact room0 (by assumption) (by decide) | omega)); (case hz_S => (intro q hq; rw [List.mem_singleton] at hq; subst hq; k_mem)); (case hz_R => exact Rw.fr (by assumption) (by k_asm)); (case hz_a0 => first | with_reducible assumption | decide | exact geI (by with_reducible assumption) (by decide) | exact leI (by with_reducible assumption) (by decide) | exact pgeI (by with_reducible assumption) (by decide) | exact pleI (by with_reducible assumption) (by decide) | exact pge2I (by with_reducible assumption) (by decide) | exact self2I (by decide) | exact self1I (by decide) | exact self0I (by decide) | exact addgeI (by with_reducible assumption) (by decide) | exact addltI (by with_reducible assumption) (by decide) | exact addleI (by with_reducible assumption) (by decide) | exact ge2I (by with_reducible assumption) (by with_reducible assumption) (by decide) | exact ge2pI (by with_reducible assumption) (by with_reducible assumption) (by decide) | exact bdA (by with_reducible assumption) (by decide) | exact bdB (by with_reducible assumption) (by with_reducible assumption) (by decide) | exact bdC (by with_reducible assumption) (by with_reducible assumption) (by decide) | exact bdD (by with_reducible assumption) (by with_reducible assumption) (by with_reducible assumption) (by decide) (by decide) | exact bdE (by with_reducible assumption) (by with_reducible assumption) (by with_reducible assumption) (by with_reducible assumption) (by decide) (by decide) | exact bdF (by with_reducible assumption) (by with_reducible assumption) (by with_reducible assumption) (by with_reducible assumption) (by decide) (by decide) | exact natPos (by with_reducible assumption) | exact natLe (by with_reducible assumption) (by decide) | exact ltLe (by with_reducible assumption) (by decide) | exact dropI (by with_reducible assumption) (by decide) | exact upI (by with_reducible assumption) (by decide) | exact hbI (by with_reducible assumption) (by with_reducible assumption) (by with_reducible assumption) (by decide) | omega); (case hz_a1 => first | with_reducible assumption | decide | exact geI (by with_reducible assumption) (by decide) | exact leI (by with_reducible assumption) (by decide) | exact pgeI (by with_reducible assumption) (by decide) | exact pleI (by with_reducible assumption) (by decide) | exact pge2I (by with_reducible assumption) (by decide) | exact self2I (by decide) | exact self1I (by decide) | exact self0I (by decide) | exact addgeI (by with_reducible assumption) (by decide) | exact addltI (by with_reducible assumption) (by decide) | exact addleI (by with_reducible assumption) (by decide) | exact ge2I (by with_reducible assumption) (by with_reducible assumption) (by decide) | exact ge2pI (by with_reducible assumption) (by with_reducible assumption) (by decide) | exact bdA (by with_reducible assumption) (by decide) | exact bdB (by with_reducible assumption) (by with_reducible assumption) (by decide) | exact bdC (by with_reducible assumption) (by with_reducible assumption) (by decide) | exact bdD (by with_reducible assumption) (by with_reducible assumption) (by with_reducible assumption) (by decide) (by decide) | exact bdE (by with_reducible assumption) (by with_reducible assumption) (by with_reducible assumption) (by with_reducible assumption) (by decide) (by decide) | exact bdF (by with_reducible assumption) (by with_reducible assumption) (by with_reducible assumption) (by with_reducible assumption) (by decide) (by decide) | exact natPos (by with_reducible assumption) | exact natLe (by with_reducible assumption) (by decide) | exact ltLe (by with_reducible assumption) (by decide) | exact dropI (by with_reducible assumption) (by decide) | exact upI (by with_reducible assumption) (by decide) | exact hbI (by with_reducible assumption) (by with_reducible assumption) (by with_reducible assumption) (by decide) | omega); (case hz_m0 => first | with_reducible assumption | decide | exact geI (by with_reducible assumption) (by decide) | exact leI (by with_reducible assumption) (by decide) | exact pgeI (by with_reducible assumption) (by decide) | exact pleI (by with_reducible assumption) (by decide) | exact pge2I (by with_reducible assumption) (by decide) | exact self2I (by decide) | exact self1I (by decide) | exact self0I (by decide) | exact addgeI (by with_reducible assumption) (by decide) | exact addltI (by with_reducible assumption) (by decide) | exact addleI (by with_reducible assumption) (by decide) | exact ge2I (by with_reducible assumption) (by with_reducible assumption) (by decide) | exact ge2pI (by with_reducible assumption) (by with_reducible assumption) (by decide) | exact bdA (by with_reducible assumption) (by decide) | exact bdB (by with_reducible assumption) (by with_reducible assumption) (by decide) | exact bdC (by with_reducible assumption) (by with_reducible assumption) (by decide) | exact bdD (by with_reducible assumption) (by with_reducible assumption) (by with_reducible assumption) (by decide) (by decide) | exact bdE (by with_reducible assumption) (by with_reducible assumption) (by with_reducible assumption) (by with_reducible assumption) (by decide) (by decide) | exact bdF (by with_reducible assumption) (by with_reducible assumption) (by with_reducible assumption) (by with_reducible assumption) (by decide) (by decide) | exact natPos (by with_reducible assumption) | exact natLe (by with_reducible assumption) (by decide) | exact ltLe (by with_reducible assumption) (by decide) | exact dropI (by with_reducible assumption) (by decide) | exact upI (by with_reducible assumption) (by decide) | exact hbI (by with_reducible assumption) (by with_reducible assumption) (by with_reducible assumption) (by decide) | omega); (case hz_m1 => first | with_reducible assumption | decide | exact geI (by with_reducible assumption) (by decide) | exact leI (by with_reducible assumption) (by decide) | exact pgeI (by with_reducible assumption) (by decide) | exact pleI (by with_reducible assumption) (by decide) | exact pge2I (by with_reducible assumption) (by decide) | exact self2I (by decide) | exact self1I (by decide) | exact self0I (by decide) | exact addgeI (by with_reducible assumption) (by decide) | exact addltI (by with_reducible assumption) (by decide) | exact addleI (by with_reducible assumption) (by decide) | exact ge2I (by with_reducible assumption) (by with_reducible assumption) (by decide) | exact ge2pI (by with_reducible assumption) (by with_reducible assumption) (by decide) | exact bdA (by with_reducible assumption) (by decide) | exact bdB (by with_reducible assumption) (by with_reducible assumption) (by decide) | exact bdC (by with_reducible assumption) (by with_reducible assumption) (by decide) | exact bdD (by with_reducible assumption) (by with_reducible assumption) (by with_reducible assumption) (by decide) (by decide) | exact bdE (by with_reducible assumption) (by with_reducible assumption) (by with_reducible assumption) (by with_reducible assumption) (by decide) (by decide) | exact bdF (by with_reducible assumption) (by with_reducible assumption) (by with_reducible assumption) (by with_reducible assumption) (by decide) (by decide) | exact natPos (by with_reducible assumption) | exact natLe (by with_reducible assumption) (by decide) | exact ltLe (by with_reducible assumption) (by decide) | exact dropI (by with_reducible assumption) (by decide) | exact upI (by with_reducible assumption) (by decide) | exact hbI (by with_reducible assumption) (by with_reducible assumption) (by with_reducible assumption) (by decide) | omega); intro v' _ _ h' _ v0 v1 kb' ho'; (have X' := but_F (by k_asm) (by k_asm) (by k_updF) kb' ho'); (have F' := X'.1); (have N' := X'.2); clear X' kb' ho'; (try dsimp only at N'); (try k_sweep); (try dsimp only); (try k_fold))
    | ( (with_reducible show wpAny _ _ (call (Value.ref 158) [Value.ref _, Value.int _ _]) _ _ _); (refine' takeR (Cx.of ?hz_B ?hz_F ?hz_X ?hz_T ?hz_K ?hz_d ?hz_u ?hz_N ?hz_S) ?hz_R ?hz_a0 ?hz_a1 ?hz_m0 ?hz_m1 ?_); (case hz_B => k_asm); (case hz_F => k_asm); (case hz_X => k_asm); (case hz_T => k_asm); (case hz_K => first | exact rfl | assumption); (case hz_N => k_asm); (case hz_d => ((try dsimp only [Around.deeper, ktrTop]); first | exact room1 (by assumption) (by decide) | exact room0 (by assumption) (by decide) | omega)); (case hz_u => ((try dsimp only [Around.deeper, ktrTop]); first | exact room1 (by assumption) (by decide) | exact room0 (by assumption) (by decide) | omega)); (case hz_S => (intro q hq; rw [List.mem_singleton] at hq; subst hq; k_mem)); (case hz_R => exact Rw.fr (by assumption) (by k_asm)); (case hz_a0 => first | with_reducible assumption | decide | exact geI (by with_reducible assumption) (by decide) | exact leI (by with_reducible assumption) (by decide) | exact pgeI (by with_reducible assumption) (by decide) | exact pleI (by with_reducible assumption) (by decide) | exact pge2I (by with_reducible assumption) (by decide) | exact self2I (by decide) | exact self1I (by decide) | exact self0I (by decide) | exact addgeI (by with_reducible assumption) (by decide) | exact addltI (by with_reducible assumption) (by decide) | exact addleI (by with_reducible assumption) (by decide) | exact ge2I (by with_reducible assumption) (by with_reducible assumption) (by decide) | exact ge2pI (by with_reducible assumption) (by with_reducible assumption) (by decide) | exact bdA (by with_reducible assumption) (by decide) | exact bdB (by with_reducible assumption) (by with_reducible assumption) (by decide) | exact bdC (by with_reducible assumption) (by with_reducible assumption) (by decide) | exact bdD (by with_reducible assumption) (by with_reducible assumption) (by with_reducible assumption) (by decide) (by decide) | exact bdE (by with_reducible assumption) (by with_reducible assumption) (by with_reducible assumption) (by with_reducible assumption) (by decide) (by decide) | exact bdF (by with_reducible assumption) (by with_reducible assumption) (by with_reducible assumption) (by with_reducible assumption) (by decide) (by decide) | exact natPos (by with_reducible assumption) | exact natLe (by with_reducible assumption) (by decide) | exact ltLe (by with_reducible assumption) (by decide) | exact dropI (by with_reducible assumption) (by decide) | exact upI (by with_reducible assumption) (by decide) | exact hbI (by with_reducible assumption) (by with_reducible assumption) (by with_reducible assumption) (by decide) | omega); (case hz_a1 => first | with_reducible assumption | decide | exact geI (by with_reducible assumption) (by decide) | exact leI (by with_reducible assumption) (by decide) | exact pgeI (by with_reducible assumption) (by decide) | exact pleI (by with_reducible assumption) (by decide) | exact pge2I (by with_reducible assumption) (by decide) | exact self2I (by decide) | exact self1I (by decide) | exact self0I (by decide) | exact addgeI (by with_reducible assumption) (by decide) | exact addltI (by with_reducible assumption) (by decide) | exact addleI (by with_reducible assumption) (by decide) | exact ge2I (by with_reducible assumption) (by with_reducible assumption) (by decide) | exact ge2pI (by with_reducible assumption) (by with_reducible assumption) (by decide) | exact bdA (by with_reducible assumption) (by decide) | exact bdB (by with_reducible assumption) (by with_reducible assumption) (by decide) | exact bdC (by with_reducible assumption) (by with_reducible assumption) (by decide) | exact bdD (by with_reducible assumption) (by with_reducible assumption) (by with_reducible assumption) (by decide) (by decide) | exact bdE (by with_reducible assumption) (by with_reducible assumption) (by with_reducible assumption) (by with_reducible assumption) (by decide) (by decide) | exact bdF (by with_reducible assumption) (by with_reducible assumption) (by with_reducible assumption) (by with_reducible assumption) (by decide) (by decide) | exact natPos (by with_reducible assumption) | exact natLe (by with_reducible assumption) (by decide) | exact ltLe (by with_reducible assumption) (by decide) | exact dropI (by with_reducible assumption) (by decide) | exact upI (by with_reducible assumption) (by decide) | exact hbI (by with_reducible assumption) (by with_reducible assumption) (by with_reducible assumption) (by decide) | omega); (case hz_m0 => first | with_reducible assumption | decide | exact geI (by with_reducible assumption) (by decide) | exact leI (by with_reducible assumption) (by decide) | exact pgeI (by with_reducible assumption) (by decide) | exact pleI (by with_reducible assumption) (by decide) | exact pge2I (by with_reducible assumption) (by decide) | exact self2I (by decide) | exact self1I (by decide) | exact self0I (by decide) | exact addgeI (by with_reducible assumption) (by decide) | exact addltI (by with_reducible assumption) (by decide) | exact addleI (by with_reducible assumption) (by decide) | exact ge2I (by with_reducible assumption) (by with_reducible assumption) (by decide) | exact ge2pI (by with_reducible assumption) (by with_reducible assumption) (by decide) | exact bdA (by with_reducible assumption) (by decide) | exact bdB (by with_reducible assumption) (by with_reducible assumption) (by decide) | exact bdC (by with_reducible assumption) (by with_reducible assumption) (by decide) | exact bdD (by with_reducible assumption) (by with_reducible assumption) (by with_reducible assumption) (by decide) (by decide) | exact bdE (by with_reducible assumption) (by with_reducible assumption) (by with_reducible assumption) (by with_reducible assumption) (by decide) (by decide) | exact bdF (by with_reducible assumption) (by with_reducible assumption) (by with_reducible assumption) (by with_reducible assumption) (by decide) (by decide) | exact natPos (by with_reducible assumption) | exact natLe (by with_reducible assumption) (by decide) | exact ltLe (by with_reducible assumption) (by decide) | exact dropI (by with_reducible assumption) (by decide) | exact upI (by with_reducible assumption) (by decide) | exact hbI (by with_reducible assumption) (by with_reducible assumption) (by with_reducible assumption) (by decide) | omega); (case hz_m1 => first | with_reducible assumption | decide | exact geI (by with_reducible assumption) (by decide) | exact leI (by with_reducible assumption) (by decide) | exact pgeI (by with_reducible assumption) (by decide) | exact pleI (by with_reducible assumption) (by decide) | exact pge2I (by with_reducible assumption) (by decide) | exact self2I (by decide) | exact self1I (by decide) | exact self0I (by decide) | exact addgeI (by with_reducible assumption) (by decide) | exact addltI (by with_reducible assumption) (by decide) | exact addleI (by with_reducible assumption) (by decide) | exact ge2I (by with_reducible assumption) (by with_reducible assumption) (by decide) | exact ge2pI (by with_reducible assumption) (by with_reducible assumption) (by decide) | exact bdA (by with_reducible assumption) (by decide) | exact bdB (by with_reducible assumption) (by with_reducible assumption) (by decide) | exact bdC (by with_reducible assumption) (by with_reducible assumption) (by decide) | exact bdD (by with_reducible assumption) (by with_reducible assumption) (by with_reducible assumption) (by decide) (by decide) | exact bdE (by with_reducible assumption) (by with_reducible assumption) (by with_reducible assumption) (by with_reducible assumption) (by decide) (by decide) | exact bdF (by with_reducible assumption) (by with_reducible assumption) (by with_reducible assumption) (by with_reducible assumption) (by decide) (by decide) | exact natPos (by with_reducible assumption) | exact natLe (by with_reducible assumption) (by decide) | exact ltLe (by with_reducible assumption) (by decide) | exact dropI (by with_reducible assumption) (by decide) | exact upI (by with_reducible assumption) (by decide) | exact hbI (by with_reducible assumption) (by with_reducible assumption) (by with_reducible assumption) (by decide) | omega); intro v' _ _ h' _ v0 v1 kb' ho'; (have X' := but_F (by k_asm) (by k_asm) (by k_updF) kb' ho'); (have F' := X'.1); (have N' := X'.2); clear X' kb' ho'; (try dsimp only at N'); (try k_sweep); (try dsimp only); (try k_fold))
    | with_reducible ( (with_reducible show wpAny _ _ (call (Value.ref 165) [Value.int _ _]) _ _ _); (refine' octets (Cx.of ?hz_B ?hz_F ?hz_X ?hz_T ?hz_K ?hz_d ?hz_u ?hz_N ?hz_S) ?hz_z ?hz_z' ?_); (case hz_B => k_asm); (case hz_F => k_asm); (case hz_X => k_asm); (case hz_T => k_asm); (case hz_K => first | exact rfl | assumption); (case hz_N => k_asm); (case hz_d => ((try dsimp only [Around.deeper, ktrTop]); first | exact room1 (by assumption) (by decide) | exact room0 (by assumption) (by decide) | omega)); (case hz_u => ((try dsimp only [Around.deeper, ktrTop]); first | exact room1 (by assumption) (by decide) | exact room0 (by assumption) (by decide) | omega)); (case hz_S => exact nsub_Hash); (case hz_z => first | exact geI (by with_reducible assumption) (by decide) | exact addgeI (by with_reducible assumption) (by decide) | exact posN1 (by with_reducible assumption) (ltLe (by with_reducible assumption) (by decide)) | exact posN2 (by with_reducible assumption) (ltLe (by with_reducible assumption) (by decide)) | omega); (case hz_z' => first | exact szSmall (by first | with_reducible assumption | decide | exact geI (by with_reducible assumption) (by decide) | exact leI (by with_reducible assumption) (by decide) | exact pgeI (by with_reducible assumption) (by decide) | exact pleI (by with_reducible assumption) (by decide) | exact pge2I (by with_reducible assumption) (by decide) | exact self2I (by decide) | exact self1I (by decide) | exact self0I (by decide) | exact addgeI (by with_reducible assumption) (by decide) | exact addltI (by with_reducible assumption) (by decide) | exact addleI (by with_reducible assumption) (by decide) | exact ge2I (by with_reducible assumption) (by with_reducible assumption) (by decide) | exact ge2pI (by with_reducible assumption) (by with_reducible assumption) (by decide) | exact bdA (by with_reducible assumption) (by decide) | exact bdB (by with_reducible assumption) (by with_reducible assumption) (by decide) | exact bdC (by with_reducible assumption) (by with_reducible assumption) (by decide) | exact bdD (by with_reducible assumption) (by with_reducible assumption) (by with_reducible assumption) (by decide) (by decide) | exact bdE (by with_reducible assumption) (by with_reducible assumption) (by with_reducible assumption) (by with_reducible assumption) (by decide) (by decide) | exact bdF (by with_reducible assumption) (by with_reducible assumption) (by with_reducible assumption) (by with_reducible assumption) (by decide) (by decide) | exact natPos (by with_reducible assumption) | exact natLe (by with_reducible assumption) (by decide) | exact ltLe (by with_reducible assumption) (by decide) | exact dropI (by with_reducible assumption) (by decide) | exact upI (by with_reducible assumption) (by decide) | exact hbI (by with_reducible assumption) (by with_reducible assumption) (by with_reducible assumption) (by decide) | omega) (by first | with_reducible assumption | decide | exact geI (by with_reducible assumption) (by decide) | exact leI (by with_reducible assumption) (by decide) | exact pgeI (by with_reducible assumption) (by decide) | exact pleI (by with_reducible assumption) (by decide) | exact pge2I (by with_reducible assumption) (by decide) | exact self2I (by decide) | exact self1I (by decide) | exact self0I (by decide) | exact addgeI (by with_reducible assumption) (by decide) | exact addltI (by with_reducible assumption) (by decide) | exact addleI (by with_reducible assumption) (by decide) | exact ge2I (by with_reducible assumption) (by with_reducible assumption) (by decide) | exact ge2pI (by with_reducible assumption) (by with_reducible assumption) (by decide) | exact bdA (by with_reducible assumption) (by decide) | exact bdB (by with_reducible assumption) (by with_reducible assumption) (by decide) | exact bdC (by with_reducible assumption) (by with_reducible assumption) (by decide) | exact bdD (by with_reducible assumption) (by with_reducible assumption) (by with_reducible assumption) (by decide) (by decide) | exact bdE (by with_reducible assumption) (by with_reducible assumption) (by with_reducible assumption) (by with_reducible assumption) (by decide) (by decide) | exact bdF (by with_reducible assumption) (by with_reducible assumption) (by with_reducible assumption) (by with_reducible assumption) (by decide) (by decide) | exact natPos (by with_reducible assumption) | exact natLe (by with_reducible assumption) (by decide) | exact ltLe (by with_reducible assumption) (by decide) | exact dropI (by with_reducible assumption) (by decide) | exact upI (by with_reducible assumption) (by decide) | exact hbI (by with_reducible assumption) (by with_reducible assumption) (by with_reducible assumption) (by decide) | omega) | exact szN1 (by with_reducible assumption) (ltLe (by with_reducible assumption) (by decide)) | exact szN2 (by with_reducible assumption) (ltLe (by with_reducible assumption) (by decide))); intro _ h' _ st'; (have F' := Fr.stay (by k_asm) st'); (have N' := News.stay (by k_asm) st'); (try k_sweep); (try dsimp only); (try k_fold))
    | ( (with_reducible show wpAny _ _ (call (Value.ref 165) [Value.int _ _]) _ _ _); (refine' octets (Cx.of ?hz_B ?hz_F ?hz_X ?hz_T ?hz_K ?hz_d ?hz_u ?hz_N ?hz_S) ?hz_z ?hz_z' ?_); (case hz_B => k_asm); (case hz_F => k_asm); (case hz_X => k_asm); (case hz_T => k_asm); (case hz_K => first | exact rfl | assumption); (case hz_N => k_asm); (case hz_d => ((try dsimp only [Around.deeper, ktrTop]); first | exact room1 (by assumption) (by decide) | exact room0 (by assumption) (by decide) | omega)); (case hz_u => ((try dsimp only [Around.deeper, ktrTop]); first | exact room1 (by assumption) (by decide) | exact room0 (by assumption) (by decide) | omega)); (case hz_S => exact nsub_Hash); (case hz_z => first | exact geI (by with_reducible assumption) (by decide) | exact addgeI (by with_reducible assumption) (by decide) | exact posN1 (by with_reducible assumption) (ltLe (by with_reducible assumption) (by decide)) | exact posN2 (by with_reducible assumption) (ltLe (by with_reducible assumption) (by decide)) | omega); (case hz_z' => first | exact szSmall (by first | with_reducible assumption | decide | exact geI (by with_reducible assumption) (by decide) | exact leI (by with_reducible assumption) (by decide) | exact pgeI (by with_reducible assumption) (by decide) | exact pleI (by with_reducible assumption) (by decide) | exact pge2I (by with_reducible assumption) (by decide) | exact self2I (by decide) | exact self1I (by decide) | exact self0I (by decide) | exact addgeI (by with_reducible assumption) (by decide) | exact addltI (by with_reducible assumption) (by decide) | exact addleI (by with_reducible assumption) (by decide) | exact ge2I (by with_reducible assumption) (by with_reducible assumption) (by decide) | exact ge2pI (by with_reducible assumption) (by with_reducible assumption) (by decide) | exact bdA (by with_reducible assumption) (by decide) | exact bdB (by with_reducible assumption) (by with_reducible assumption) (by decide) | exact bdC (by with_reducible assumption) (by with_reducible assumption) (by decide) | exact bdD (by with_reducible assumption) (by with_reducible assumption) (by with_reducible assumption) (by decide) (by decide) | exact bdE (by with_reducible assumption) (by with_reducible assumption) (by with_reducible assumption) (by with_reducible assumption) (by decide) (by decide) | exact bdF (by with_reducible assumption) (by with_reducible assumption) (by with_reducible assumption) (by with_reducible assumption) (by decide) (by decide) | exact natPos (by with_reducible assumption) | exact natLe (by with_reducible assumption) (by decide) | exact ltLe (by with_reducible assumption) (by decide) | exact dropI (by with_reducible assumption) (by decide) | exact upI (by with_reducible assumption) (by decide) | exact hbI (by with_reducible assumption) (by with_reducible assumption) (by with_reducible assumption) (by decide) | omega) (by first | with_reducible assumption | decide | exact geI (by with_reducible assumption) (by decide) | exact leI (by with_reducible assumption) (by decide) | exact pgeI (by with_reducible assumption) (by decide) | exact pleI (by with_reducible assumption) (by decide) | exact pge2I (by with_reducible assumption) (by decide) | exact self2I (by decide) | exact self1I (by decide) | exact self0I (by decide) | exact addgeI (by with_reducible assumption) (by decide) | exact addltI (by with_reducible assumption) (by decide) | exact addleI (by with_reducible assumption) (by decide) | exact ge2I (by with_reducible assumption) (by with_reducible assumption) (by decide) | exact ge2pI (by with_reducible assumption) (by with_reducible assumption) (by decide) | exact bdA (by with_reducible assumption) (by decide) | exact bdB (by with_reducible assumption) (by with_reducible assumption) (by decide) | exact bdC (by with_reducible assumption) (by with_reducible assumption) (by decide) | exact bdD (by with_reducible assumption) (by with_reducible assumption) (by with_reducible assumption) (by decide) (by decide) | exact bdE (by with_reducible assumption) (by with_reducible assumption) (by with_reducible assumption) (by with_reducible assumption) (by decide) (by decide) | exact bdF (by with_reducible assumption) (by with_reducible assumption) (by with_reducible assumption) (by with_reducible assumption) (by decide) (by decide) | exact natPos (by with_reducible assumption) | exact natLe (by with_reducible assumption) (by decide) | exact ltLe (by with_reducible assumption) (by decide) | exact dropI (by with_reducible assumption) (by decide) | exact upI (by with_reducible assumption) (by decide) | exact hbI (by with_reducible assumption) (by with_reducible assumption) (by with_reducible assumption) (by decide) | omega) | exact szN1 (by with_reducible assumption) (ltLe (by with_reducible assumption) (by decide)) | exact szN2 (by with_reducible assumption) (ltLe (by with_reducible assumption) (by decide))); intro _ h' _ st'; (have F' := Fr.stay (by k_asm) st'); (have N' := News.stay (by k_asm) st'); (try k_sweep); (try dsimp only); (try k_fold))
    | with_reducible ((with_reducible refine subS ?_); intro _ _; (try dsimp only))
    | ((with_reducible refine subS ?_); intro _ _; (try dsimp only))
    | with_reducible ((with_reducible refine addS ?_); intro _ _; (try dsimp only))
    | ((with_reducible refine addS ?_); intro _ _; (try dsimp only))
    | walk1
    | (dsimp only; walk1)
    | (leave1; walk_say "STEP leave1"; try dsimp only)
    | fail "no step")
  all_goals
    rename Fr _ _ _ _ => F9
    rename News _ _ _ _ => N9
    (try dsimp only)
  · exact hQ _ _ (at' + 1 + 1) _ _ _ (oct_size _ _) (self02I (by decide)) (self2I (by decide)) (keepBut_of hs F9) (N9 (BX, _) (by k_mem)).1
  · exact hQ _ _ (at' + 1 + 1) _ _ _ (oct_size _ _) (self02I (by decide)) (self2I (by decide)) (keepBut_of hs F9) (N9 (BX, _) (by k_mem)).1
  · exact hQ _ _ (at' + 1) _ _ _ rfl (self0I (by decide)) (self1I (by decide)) (keepBut_of hs F9) (N9 (BX, _) (by k_mem)).1
  · refine' hQ _ _ _ _ _ _ ?a ?b ?c (keepBut_of hs F9) (N9 (BX, _) ?e).1
    case e => k_mem
    case a => exact Eq.trans (by with_reducible assumption) (by with_reducible assumption)
    case b => exact dropI (by with_reducible assumption) (by decide)
    case c => exact upI (by with_reducible assumption) (by decide)
end Mine
end
section
set_option maxHeartbeats 1000000
namespace Mine
open PySem PySem.W PySem.Spec PySem.Calls PyProof.Rows
theorem off_DueI : True := by
  w_top off
  exact True.intro
theorem nsub_Due {news : List (Addr × Obj)} : ∀ q ∈ ([] : List (Addr × Obj)), q ∈ news := fun _ h => nomatch h
theorem kk13 : (hd.heap_39 = hd.heap_39) ∧ PySem.Challenge.rw_jv0012_01 = PySem.Challenge.rw_jv0012_01 := by
  k_fill
  exact ⟨rfl, rfl⟩
def KeysAre (w : World) (h : Heap) : List Value → List (B8 × B8) → Prop
  | [], [] => True
  | v :: vs, q :: qs => (∃ D, v = .ref D ∧ IsTupleKey (bytesKind PG w) h (keyOf q.1 q.2) D) ∧ KeysAre w h vs qs
  | _, _ => False
theorem KeysAre.stay {w : World} {h h' : Heap} (st : h.StaysIn h') : ∀ {vs qs}, KeysAre w h vs qs → KeysAre w h' vs qs
  | [], [], _ => trivial
  | _ :: _, _ :: _, ⟨⟨D, e, x⟩, r⟩ => ⟨⟨D, e, tk_stay x st⟩, KeysAre.stay st r⟩
theorem CallsAre.keys {w : World} {h : Heap} {t : List (Addr × Obj)} (m : ∀ q ∈ t, h.get? q.1 = some q.2) : ∀ {vs qs}, CallsAre w t vs qs → KeysAre w h vs qs
  | [], [], _ => trivial
  | _ :: _, _ :: _, ⟨⟨D, e, x⟩, r⟩ => ⟨⟨D, e, x.at m⟩, CallsAre.keys m r⟩
theorem KeysAre.len {w : World} {h : Heap} : ∀ {vs qs}, KeysAre w h vs qs → vs.length = qs.length
  | [], [], _ => rfl
  | _ :: _, _ :: _, ⟨_, r⟩ => by rw [List.length_cons, List.length_cons, KeysAre.len r]
theorem due {w : World} {A : Around} {s : Shared} {Q E : Value → Shared → Prop} {AD : Addr} {sec oc a0 a1 a2 a3 a4 : B8} {u0 u1 u2 u3 u4 ts to' : Tok}
   (C : Cx w 1 30 A s.heap []) (hA : s.heap.IsList AD #[.bytes a0 u0, .bytes a1 u1, .bytes a2 u2, .bytes a3 u3, .bytes a4 u4]) (z0 : a0.size ≤ 100) (z1 : a1.size ≤ 100) (z2 : sec.size ≤ 100) (z3 : oc.size ≤ 100)
   (hQ : ∀ D vs n h' k, s.heap.StaysIn h' → h'.get? D = some (listOf vs n) → KeysAre w h' vs.toList (questions sec oc a0 a1 a2 a3) → s.heap.get? D = none → Q (.ref D) { s with heap := h', toks := k }) :
   wpAny (model PG w) A (call (.ref 184) [.ref AD, .bytes sec ts, .bytes oc to']) Q E s := by
  refine wpAny_call ?_
  refine enter (binds := [(PySem.Str.ofString "answers", .ref AD), (PySem.Str.ofString "secret", .bytes sec ts), (PySem.Str.ofString "octets", .bytes oc to')]) C (by k_is) (by k_is) (BindsTo.of_eq rfl) (locs rfl) rfl rfl rfl (by decide) ?_
  intro dp un gd cn cs a ccd cl outer base g h₁ L L' p loose mean mg mb hd hu F' N' B' X' T' hs hg ho
  k_fold
  have hRg : g.IsList AD (List.toArray [.bytes a0 u0, .bytes a1 u1, .bytes a2 u2, .bytes a3 u3, .bytes a4 u4]) := by
    obtain ⟨o, e, r⟩ := hA
    exact ⟨o, hs _ _ e (fun hm => nomatch hm), r⟩
  clear C hA
  repeat' (first
    | (k_unfold; (try dsimp only))
    | (k_end; wrow_close)
    | with_reducible ( (with_reducible show wpAny _ _ (binaryOp Operator.Add (Value.bytes _ _) (Value.bytes _ _)) _ _ _); refine' KBy.add_bytes ?hz_z ?_; (case hz_z => (simp only [Array.size_append, List.size_toArray, List.length_cons, List.length_nil]; (first | exact w1e (by with_reducible assumption) (by decide) | exact w2e (by with_reducible assumption) (by with_reducible assumption) (by decide) | exact w3e (by with_reducible assumption) (by with_reducible assumption) (by with_reducible assumption) (by decide) | exact w1 (by with_reducible assumption) (by decide) | exact w2 (by with_reducible assumption) (by with_reducible assumption) (by decide) | exact w3 (by with_reducible assumption) (by with_reducible assumption) (by with_reducible assumption) (by decide) | exact tq1 (by with_reducible assumption) (by decide) | exact tq2 (by with_reducible assumption) (by with_reducible assumption) (by decide) | decide | omega))); intro _ _; (try dsimp only))
    | ( (with_reducible show wpAny _ _ (binaryOp Operator.Add (Value.bytes _ _) (Value.bytes _ _)) _ _ _); refine' KBy.add_bytes ?hz_z ?_; (case hz_z => (simp only [Array.size_append, List.size_toArray, List.length_cons, List.length_nil]; (first | exact w1e (by with_reducible assumption) (by decide) | exact w2e (by with_reducible assumption) (by with_reducible assumption) (by decide) | exact w3e (by with_reducible assumption) (by with_reducible assumption) (by with_reducible assumption) (by decide) | exact w1 (by with_reducible assumption) (by decide) | exact w2 (by with_reducible assumption) (by with_reducible assumption) (by decide) | exact w3 (by with_reducible assumption) (by with_reducible assumption) (by with_reducible assumption) (by decide) | exact tq1 (by with_reducible assumption) (by decide) | exact tq2 (by with_reducible assumption) (by with_reducible assumption) (by decide) | decide | omega))); intro _ _; (try dsimp only))
    | walk1
    | (dsimp only; walk1)
    | (leave1; walk_say "STEP leave1"; try dsimp only)
    | fail "no step")
  rename Fr _ _ _ _ => F9
  rename News _ _ _ _ => N9
  (try dsimp only)
  have st := end_stays hs ho F9 N9 (fun q hq => nomatch hq)
  refine hQ _ _ _ _ _ st (N9 _ (List.mem_cons_self ..)).1 ?_ ?_
  · refine ⟨⟨_, rfl, ?_⟩, ⟨_, rfl, ?_⟩, ⟨_, rfl, ?_⟩, ⟨_, rfl, ?_⟩, ⟨_, rfl, ?_⟩, trivial⟩
    all_goals exact tupB_key (News.get N9 (by k_mem))
  · exact end_fresh hs N9 (List.mem_cons_self ..) (fun hq => nomatch hq)
end Mine
end
section
set_option maxHeartbeats 1000000
namespace Mine
open PySem PySem.W PySem.Spec PySem.Calls PyProof.Rows
section
variable {w : World} {A : Around} {E : Value → Shared → Prop} {s : Shared}
theorem eqAt_bytes {A : Around} {s : Shared} (b : B8) (t u : Tok) : SeqAt.EqAt A s (.bytes b t) (.bytes b u) true := fun prog w E Q h => by
  unfold eqBool
  refine wpAny_holding ?_
  refine wpAny_ite_split (fun _ => wpAny_bind (wpAny_rule (wpAny_pure h))) (fun _ => ?_)
  refine wpAny_bind ?_
  refine eq_bytes ?_
  rw [beq_self_eq_true]
  exact wpAny_truthy_bool h
theorem eqAt_int {A : Around} {s : Shared} (x : Int) (t u : Tok) : SeqAt.EqAt A s (.int x t) (.int x u) true := by
  have h := SeqAt.EqAt.int_int (A := A) (s := s) x t x u
  rwa [beq_self_eq_true] at h
theorem isTup_of {h : Heap} {a b : B8} {D : Addr} (x : IsTupleKey (bytesKind PG w) h (keyOf a b) D) : ∃ t1 t2, h.IsTuple D #[.bytes a t1, .bytes b t2] := by
  obtain ⟨t1, t2, c, od, sl, e⟩ := key_tupB x
  exact ⟨t1, t2, _, e, rfl, c, rfl⟩
theorem eqAt_tup {A : Around} {s : Shared} {l b : Addr} {v1 v2 : Array Value} (h1 : s.heap.IsTuple l v1) (h2 : s.heap.IsTuple b v2) (hsz : v1.size = v2.size) (hu : A.units < cLine)
    (he : ∀ j (h1 : j < v1.size) (h2 : j < v2.size), SeqAt.EqAt A.in1 s v1[j] v2[j] true) : SeqAt.EqAt A s (.ref l) (.ref b) true := by
  by_cases e : l = b
  · subst e
    exact SeqAt.EqAt.same _
  · have r := SeqAt.RcAt.tuples (e := fun _ => true) h1 h2 hu he
    have z : ((List.range (min v1.size v2.size)).all (fun _ => true) && v1.size == v2.size) = true := by rw [hsz]; simp
    rw [z] at r
    exact SeqAt.EqAt.of_refs e r
theorem eqAt_list {A : Around} {s : Shared} {l b : Addr} {v1 v2 : Array Value} (h1 : s.heap.IsList l v1) (h2 : s.heap.IsList b v2) (hsz : v1.size = v2.size) (hu : A.units < cLine)
    (he : ∀ j (h1 : j < v1.size) (h2 : j < v2.size), SeqAt.EqAt A.in1 s v1[j] v2[j] true) : SeqAt.EqAt A s (.ref l) (.ref b) true := by
  by_cases e : l = b
  · subst e
    exact SeqAt.EqAt.same _
  · have r := SeqAt.RcAt.lists (e := fun _ => true) h1 h2 hsz hu he
    have z : ((List.range v1.size).all (fun _ => true)) = true := by simp
    rw [z] at r
    exact SeqAt.EqAt.of_refs e r
theorem eqAt_key {A : Around} {s : Shared} {a b : Addr} {x y : B8} (ha : IsTupleKey (bytesKind PG w) s.heap (keyOf x y) a) (hb : IsTupleKey (bytesKind PG w) s.heap (keyOf x y) b) (hu : A.units < cLine) : SeqAt.EqAt A s (.ref a) (.ref b) true := by
  obtain ⟨t1, t2, h1⟩ := isTup_of ha
  obtain ⟨t3, t4, h2⟩ := isTup_of hb
  refine eqAt_tup h1 h2 rfl hu fun j j1 j2 => ?_
  match j, j1 with
  | 0, _ => exact eqAt_bytes _ _ _
  | 1, _ => exact eqAt_bytes _ _ _
theorem KeysAre.at {h : Heap} : ∀ {vs qs} (_ : KeysAre w h vs qs) (j : Nat) (hj : j < vs.length) (hq : j < qs.length), ∃ D, vs[j] = .ref D ∧ IsTupleKey (bytesKind PG w) h (keyOf qs[j].1 qs[j].2) D
  | _ :: _, _ :: _, ⟨x, _⟩, 0, _, _ => x
  | _ :: _, _ :: _, ⟨_, r⟩, j + 1, hj, hq => KeysAre.at r j (Nat.lt_of_succ_lt_succ hj) (Nat.lt_of_succ_lt_succ hq)
theorem eqAt_asked {A : Around} {s : Shared} {v1 v2 : List Value} {qs : List (B8 × B8)} (k1 : KeysAre w s.heap v1 qs) (k2 : KeysAre w s.heap v2 qs) (hu : A.units < cLine) : ∀ j (h1 : j < v1.length) (h2 : j < v2.length), SeqAt.EqAt A s v1[j] v2[j] true := fun j h1 h2 => by
  have e1 := k1.len
  obtain ⟨D1, q1, x1⟩ := k1.at j h1 (e1 ▸ h1)
  obtain ⟨D2, q2, x2⟩ := k2.at j h2 (k2.len ▸ h2)
  rw [q1, q2]
  exact eqAt_key x1 x2 hu
theorem in1_units {A : Around} : A.in1.units = A.units + 1 := rfl
theorem ne_asked {a b : Addr} {v1 v2 : Array Value} {qs : List (B8 × B8)} {Q : Value → Shared → Prop} (ha : s.heap.IsList a v1) (hb : s.heap.IsList b v2) (k1 : KeysAre w s.heap v1.toList qs) (k2 : KeysAre w s.heap v2.toList qs) (hu : A.units + 4 < cLine) (h : Q (.bool false) s) :
    wpAny (model PG w) A (compareOp .NotEq (.ref a) (.ref b)) Q E s := by
  have e1 := k1.len
  have e2 := k2.len
  rw [Array.length_toList] at e1 e2
  have r := SeqAt.RcNeAt.lists (A := A) (s := s) (e := fun _ => true) ha hb (e1.trans e2.symm) (smLt0 hu) fun j j1 j2 => by
    have := eqAt_asked (A := A.in1) (s := s) k1 k2 (by rw [in1_units]; exact smLt hu (by decide)) j j1 j2
    exact this
  have z : (!(List.range v1.size).all (fun _ => true)) = false := by simp
  rw [z] at r
  exact r _ _ _ _ h
def Kept (w : World) (h : Heap) (T : Addr) (x : I3) (qs : List (B8 × B8)) : Prop :=
  ∃ D L vs t1 t2 t3, h.IsTuple T #[.ref D, .ref L] ∧ h.IsTuple D #[.int x.1 t1, .int x.2.1 t2, .int x.2.2 t3] ∧ h.IsList L vs ∧ KeysAre w h vs.toList qs
theorem ne_kept {a b : Addr} {x : I3} {qs : List (B8 × B8)} {Q : Value → Shared → Prop} (ha : Kept w s.heap a x qs) (hb : Kept w s.heap b x qs) (hu : A.units + 8 < cLine) (h : Q (.bool false) s) :
    wpAny (model PG w) A (compareOp .NotEq (.ref a) (.ref b)) Q E s := by
  obtain ⟨D1, L1, v1, t1, t2, t3, p1, p2, p3, p4⟩ := ha
  obtain ⟨D2, L2, v2, u1, u2, u3, q1, q2, q3, q4⟩ := hb
  have e1 := p4.len
  have e2 := q4.len
  rw [Array.length_toList] at e1 e2
  have r := SeqAt.RcNeAt.tuples (A := A) (s := s) (e := fun _ => true) p1 q1 (smLt0 hu) fun j j1 j2 => by
    match j, j1 with
    | 0, _ =>
      refine eqAt_tup p2 q2 rfl (by rw [in1_units]; exact smLt hu (by decide)) fun j j1 j2 => ?_
      match j, j1 with
      | 0, _ => exact eqAt_int _ _ _
      | 1, _ => exact eqAt_int _ _ _
      | 2, _ => exact eqAt_int _ _ _
    | 1, _ =>
      refine eqAt_list p3 q3 (e1.trans e2.symm) (by rw [in1_units]; exact smLt hu (by decide)) fun j j1 j2 => ?_
      have := eqAt_asked (A := A.in1.in1) (s := s) p4 q4 (by rw [in1_units, in1_units]; exact smLt2 hu (by decide)) j j1 j2
      exact this
  exact r _ _ _ _ h
end
end Mine
end
section
set_option maxHeartbeats 400000
namespace Mine
open PySem PySem.W PySem.Spec PySem.Calls PyProof.Rows
theorem callerA_deeper {name : PySem.Str} {scope : Scope} {L f : Addr} {cdv : Value} : callerA.deeper (envOfC name scope L f cdv) = ktrTop (callerA.depth + 1) (callerA.deeper (envOfC name scope L f cdv)).units (callerA.deeper (envOfC name scope L f cdv)).guards name scope L f cdv (cellsFrom (L + 1) scope.names []) [] := rfl
theorem callerA_room : callerA.depth + 1 ≤ 800 := by decide
theorem callerA_units {e : Env} : (callerA.deeper e).units ≤ 8000 := by
  exact Nat.le_of_ble_eq_true rfl
theorem Cx.law {w : World} {d u : Nat} {h : Heap} {name : PySem.Str} {scope : Scope} {cdv : Value} {A₀ : Around} {base h₀ : Heap} {L f : Addr} {m : PySem.Str → Option Value}
    {p : Program} {loose : List PySem.Str} {mean : ExcName → Option Value} {mg mb : PySem.Str → Option Value} {own news : List (Addr × Obj)}
    (B : Below A₀ base [] h₀) (F : Fr h₀ L h m) (X : (hd.heap_39 w.params).In h₀) (T : Top p loose mean mg mb h₀) (hk : scope.kind = .function) (hd : d ≤ 100) (hu : u ≤ 1000) (N : News h₀ L h news) (hs : ∀ q ∈ own, q ∈ news) :
    Cx w d u (callerA.deeper (envOfC name scope L f cdv)) h own := by
  rw [callerA_deeper]
  have h1 := callerA_room
  have h2 := callerA_units (e := envOfC name scope L f cdv)
  exact Cx.of B F X T hk (Nat.le_trans (Nat.add_le_add h1 hd) (by decide)) (Nat.le_trans (Nat.add_le_add h2 hu) (by decide)) N hs
theorem Rw.mk {RW BX L : Addr} {vs : List Value} {ns : List Int} {h₀ h : Heap} {n : Nat} {news : List (Addr × Obj)} (N : News h₀ L h news) (hm : (RW, listOf vs.toArray n) ∈ news) (hi : IntsAre vs ns) (hl : ns.length ≤ 40) (hne : RW ≠ BX) : Rw RW BX vs ns h := ⟨News.isList N hm, hi, hl, hne⟩
def IsB32 (v : Value) : Prop := ∃ b t, v = .bytes b t ∧ Array.size b = 32
def Stop (P : Prop) : Prop := P
theorem Stop.of {P : Prop} (h : Stop P) : P := h
end Mine
end
section
set_option maxHeartbeats 1000000
namespace Mine
open PySem PySem.W PySem.Spec PySem.Calls PyProof.Rows
section
variable {prog : Program} {w : World} {A : Around} {E : Value → Shared → Prop} {s : Shared} {env : Env} {h₀ : Heap} {x : PySem.Str} {body : List Stmt} {Q : Flow → Shared → Prop}
def ForEnd (h₀ : Heap) (L : Addr) (I : Addr) (oI : Obj) (Jn : (PySem.Str → Option Value) → List (Addr × Obj) → Prop) (s : Shared) (Q : Flow → Shared → Prop) (f : Flow) (s₂ : Shared) : Prop :=
  match f with
  | .ret v => Q (.ret v) s₂
  | .next => ∃ h' tk m' news', s₂ = { s with heap := h', toks := tk } ∧ Fr h₀ L h' m' ∧ News h₀ L h' ((I, oI) :: news') ∧ (∀ p ∈ news', @Ne Nat p.1 I) ∧ Jn m' news'
  | _ => False
theorem range_for {r : Addr} {b : Int} {t₀ u₀ v₀ : Tok} {n : Nat} {m : PySem.Str → Option Value} {news : List (Addr × Obj)} (hh : A.handled = none) (hr : IsRange s.heap r 0 b 1 t₀ u₀ v₀) (hsmall : Builtin.Range.small 0 b 1 = true) (hn : Builtin.Range.rangeSize 0 b 1 = (n : Int))
    (F : Fr h₀ env.locals s.heap m) (N : News h₀ env.locals s.heap news) (J : Nat → (PySem.Str → Option Value) → List (Addr × Obj) → Prop) (h0 : J 0 m news)
    (turn : ∀ (i : Nat) v I oI m₁ news₁ h tk, i < n → J i m₁ news₁ → oI.cls = .type "range_iterator" → (∀ p ∈ news₁, @Ne Nat p.1 I) → Fr h₀ env.locals h (fun y => if y = x then some v else m₁ y) → News h₀ env.locals h ((I, oI) :: news₁) →
      wpAny (model prog w) A (execs body env) (ForEnd h₀ env.locals I oI (J (i + 1)) s Q) E { s with heap := h, toks := tk })
    (done : ∀ h' tk m' news', Fr h₀ env.locals h' m' → News h₀ env.locals h' news' → J n m' news' → Q .next { s with heap := h', toks := tk }) :
    wpAny (model prog w) A (pyIter (.ref r)) (fun it s₂ => LoopAtV prog w A h₀ env x body Q E it s₂) E s := by
  refine wpAny_pyIter_range hr hsmall ?_
  have W := Walks.range (prog := prog) (w := w) hh s.heap.objs.size 0 1 n
  refine ⟨s.heap.objs.size, _, _, n, _, _, m, news, J, rfl, W, ?_, ?_, ?_, ?_, F.push _, (fun p hp => ⟨Heap.get?_push_of_some _ (N p hp).1, (N p hp).2⟩), h0, ?_, ?_⟩
  · intro hm
    exact absurd F.ns.lt ((List.mem_singleton.mp hm) ▸ Nat.lt_irrefl _)
  · intro b hb
    rw [List.mem_singleton.mp hb]
    exact next_is_new F
  · intro p hp hI
    exact absurd (Heap.lt_size (N p hp).1) ((List.mem_singleton.mp hI) ▸ Nat.lt_irrefl _)
  · show IsRangeIter _ _ _ _ _
    rw [hn]
    simpa using Heap.get?_push_size _ rfl
  · rintro i v m₁ news₁ s₁ own ⟨h, tk, rfl⟩ hi hP hJ hoff hsub hat hown hst F₁ N₁
    have hst' : h.get? s.heap.objs.size = some _ := hst
    have hin := hown s.heap.objs.size (List.mem_singleton.mpr rfl) (next_is_new F) _ hst'
    have hall : ∀ p ∈ own, p = (s.heap.objs.size, _) := fun p hp => by
      have e1 := List.mem_singleton.mp (hsub p hp)
      have e2 := hat p hp
      rw [e1] at e2
      have e3 := hst'.symm.trans e2
      exact Prod.ext e1 (Option.some.inj e3).symm
    refine wpAny_mono (turn i v s.heap.objs.size { cls := .type "range_iterator", data := .fields #[rawInt (0 + ((i + 1 : Nat) : Int) * 1), rawInt ((n : Int) - ((i + 1 : Nat) : Int)), rawInt 1] } m₁ news₁ h tk hi hJ rfl (fun p hp e => hoff p hp (List.mem_singleton.mpr e)) F₁ fun p hp => ?_) (fun f s₃ h₃ => ?_) fun _ _ e => e
    · rcases List.mem_cons.mp hp with rfl | hp
      · exact N₁ _ (List.mem_append_left _ hin)
      · exact N₁ _ (List.mem_append_right _ hp)
    · cases f with
      | ret v => exact h₃
      | next =>
        obtain ⟨h', tk', m', news', rfl, F', N', off', hJ'⟩ := h₃
        refine ⟨rfl, h', tk', m', news', rfl, F', fun p hp => ?_, fun p hp e => off' p hp (List.mem_singleton.mp e), hJ'⟩
        rcases List.mem_append.mp hp with hp | hp
        · rw [hall p hp]
          exact N' _ (List.mem_cons_self ..)
        · exact N' _ (List.mem_cons_of_mem _ hp)
      | brk => exact h₃.elim
      | cont => exact h₃.elim
  · intro h' tk m' news' F' N' _ hJ
    exact done h' tk m' news' F' N' hJ
def PopJ (_CL : Addr) (m : PySem.Str → Option Value) (gf : Obj → List (Addr × Obj)) (k : Nat) (m₁ : PySem.Str → Option Value) (news₁ : List (Addr × Obj)) : Prop := m₁ = m ∧ ∃ its c, k = Array.size its ∧ news₁ = gf (listOf its c)
def PopEnd (h₀ : Heap) (L : Addr) (s : Shared) (CL : Addr) (m : PySem.Str → Option Value) (gf : Obj → List (Addr × Obj)) (k : Nat) : Flow → Shared → Prop := WhileStep h₀ L s (PopJ CL m gf) k
theorem pop_loop {L : Addr} {test : PySem.Expr} {pos : Pos} {m : PySem.Str → Option Value} {news : List (Addr × Obj)} {CL : Addr} {its : Array Value} {c : Nat} {gf : Obj → List (Addr × Obj)}
    (F : Fr h₀ L s.heap m) (N : News h₀ L s.heap news) (_hm : (CL, listOf its c) ∈ news) (U : UpdF CL (listOf its c) news gf)
    (turn : ∀ (its' : Array Value) c' h tk, its'.size ≤ its.size → Fr h₀ L h m → News h₀ L h (gf (listOf its' c')) →
      wpAny (model prog w) A (isTrue test env (eval test env)) (fun b s₂ =>
        if b = true then wpAny (model prog w) A (execs body env) (PopEnd h₀ L s CL m gf its'.size) E s₂ else Q .next s₂) E { s with heap := h, toks := tk })
    (hE : PassesOwn (model prog w) A env E) :
    wpAny (model prog w) A (exec (.While test body [] pos) env) Q E s := by
  refine While_inv (fun k m₁ news₁ => k ≤ its.size ∧ PopJ CL m gf k m₁ news₁) (n₀ := its.size) F N ⟨Nat.le_refl _, rfl, its, c, rfl, (upd_self U).symm⟩ ?_ hE
  rintro k m₁ news₁ h₁ tk₁ F₁ N₁ ⟨hk, rfl, its', c', rfl, rfl⟩
  refine wpAny_mono (turn its' c' h₁ tk₁ hk F₁ N₁) (fun b s₂ h₂ => ?_) fun _ _ e => e
  cases b with
  | false => exact h₂
  | true =>
    refine wpAny_mono h₂ (fun f s₃ h₃ => ?_) fun _ _ e => e
    obtain ⟨rfl, h', tk, m₂, news₂, n', rfl, F₂, N₂, hn, J₂⟩ := h₃
    exact ⟨rfl, h', tk, m₂, news₂, n', rfl, F₂, N₂, hn, Nat.le_trans (Nat.le_of_lt hn) hk, J₂⟩
theorem PopEnd.intro {L : Addr} {CL : Addr} {m : PySem.Str → Option Value} {gf : Obj → List (Addr × Obj)} {k : Nat} {h' : Heap} {tk : Nat} {its' : Array Value} {c' : Nat} (F : Fr h₀ L h' m) (N : News h₀ L h' (gf (listOf its' c'))) (hk : its'.size < k) : PopEnd h₀ L s CL m gf k .next { s with heap := h', toks := tk } :=
  WhileStep.intro F N hk ⟨rfl, its', c', rfl, rfl⟩
end
section
variable {w : World} {A : Around} {s : Shared} {h₀ : Heap} {L : Addr} {m : PySem.Str → Option Value} {env : Env} {elt : PySem.Expr} {x : PySem.Str} {scope : Scope} {cl : List (PySem.Str × Addr)} {P : Nat → Value → Prop} {S : List (Addr × Obj) → Prop} {Fin : List Value → List (Addr × Obj) → Prop}
def MapPost (y₀ : Value) (s : Shared) (h₀ : Heap) (L : Addr) (m : PySem.Str → Option Value) (news : List (Addr × Obj)) (y : Value) (s' : Shared) : Prop :=
  ∃ h' tk', s' = { s with heap := h', toks := tk' } ∧ y = y₀ ∧ Fr h₀ L h' m ∧ News h₀ L h' news
theorem MapPost.intro {y : Value} {news : List (Addr × Obj)} {h' : Heap} {tk' : Nat} (F : Fr h₀ L h' m) (N : News h₀ L h' news) : MapPost y s h₀ L m news y { s with heap := h', toks := tk' } := ⟨h', tk', rfl, rfl, F, N⟩
theorem map_comp {news : List (Addr × Obj)} (f : Nat → Value) (N : Nat) (hS : S news)
    (step : ∀ i v I oI C oC D m₂ h tk (E' : Value → Shared → Prop) ys, i < N → P i v → LCg.NsObj oC m₂ → m₂ x = some v → Fr h₀ L h m → News h₀ L h ((I, oI) :: (C, oC) :: (D, LCg.lst ys) :: news) → LCg.Off3 I C D news → ((@Ne Nat I C) ∧ (@Ne Nat I D) ∧ (@Ne Nat C D)) →
      wpAny (model PG w) A (eval elt (compEnvC scope cl C env)) (MapPost (f i) s h₀ L m ((I, oI) :: (C, oC) :: (D, LCg.lst ys) :: news)) E' { s with heap := h, toks := tk })
    (fin : Fin ((List.range N).map f) news) :
    LCg.CompRest PG w A h₀ L m env elt x scope cl s S P Fin N 0 [] news := by
  have main : ∀ k i ys, i + k = N → ys = (List.range i).map f → LCg.CompRest PG w A h₀ L m env elt x scope cl s S P Fin k i ys news := by
    intro k
    induction k with
    | zero =>
      intro i ys e hy
      have e' : i = N := e
      subst e'
      rw [← hy] at fin
      exact LCg.CompRest.zero fin
    | succ k ih =>
      intro i ys e hy
      refine LCg.CompRest.succ fun v I oI C oC D m₂ h tk E' hP hC hx F N' off ne => ?_
      refine wpAny_mono (step i v I oI C oC D m₂ h tk E' ys (sumL e) hP hC hx F N' off ne) (fun y s' hy' => ?_) fun _ _ e => e
      obtain ⟨h', tk', rfl, rfl, F2, N2⟩ := hy'
      refine ⟨h', tk', news, rfl, F2, N2, off, hS, ih (i + 1) _ (sumE e) ?_⟩
      rw [hy, List.range_succ, List.map_append]
      rfl
  exact main N 0 [] (Nat.zero_add N) rfl
end
theorem News.step4 {w : World} {r : MR} {g h h' : Heap} {L : Addr} {m : PySem.Str → Option Value} {σ σ' : MSt} {new : List (B8 × B8)} {pre evs : List (Addr × Obj)} (F : Fr g L h m) (N : News g L h (pre ++ (r.own w σ ++ evs))) (K : r.Ok) (S : Step w r h h' σ σ' new)
    (hp : ∀ q ∈ pre, @Ne Nat q.1 r.CL ∧ @Ne Nat q.1 r.KN) (he : ∀ q ∈ evs, @Ne Nat q.1 r.CL ∧ @Ne Nat q.1 r.KN) : Fr g L h' m ∧ News g L h' (pre ++ (r.own w σ' ++ evs)) := by
  have hs : ∀ q ∈ r.own w σ, q ∈ pre ++ (r.own w σ ++ evs) := fun q hq => List.mem_append_right _ (List.mem_append_left _ hq)
  refine ⟨Fr.step F N hs S, fun q hq => ?_⟩
  rcases List.mem_append.mp hq with hq | hq
  · have := hp q hq
    exact ⟨S.keep _ _ this.1 this.2 (N q (List.mem_append_left _ hq)).1, (N q (List.mem_append_left _ hq)).2⟩
  · rcases List.mem_append.mp hq with hq | hq
    · exact News.step F N K hs S q hq
    · have := he q hq
      have z := N q (List.mem_append_right _ (List.mem_append_right _ hq))
      exact ⟨S.keep _ _ this.1 this.2 z.1, z.2⟩
theorem Step.ne {w : World} {r : MR} {h h' : Heap} {σ σ' : MSt} {new : List (B8 × B8)} {X : Addr} {oX : Obj} (S : Step w r h h' σ σ' new) (hX : h.get? X = some oX) (hown : ∀ q ∈ r.own w σ, @Ne Nat q.1 X) : ∀ q ∈ σ'.tups, @Ne Nat q.1 X := by
  intro q hq e
  rcases S.fresh q hq with h1 | h1
  · have e' : q.1 = X := e
    rw [e', hX] at h1
    cases h1
  · obtain ⟨p, hp, e2⟩ := List.mem_map.mp h1
    exact hown p hp (e2.trans e)
end Mine
end
section
set_option maxHeartbeats 400000
namespace Mine
open PySem PySem.W PySem.Spec PySem.Calls PyProof.Rows
structure MOk (w : World) (r : MR) (fo : Obj) : Prop where
  ok : r.Ok
  fn : fo = r.fn w
theorem dobj_empty {w : World} {o : Obj} (h : Obj.IsDictOf (PySem.strKind PG w) o []) : DObj w [] o := by
  obtain ⟨es, ep, hx, hd, _, hp, _⟩ := h
  have e : es = #[] := by
    obtain ⟨l⟩ := es
    cases hp
    rfl
  subst e
  exact DObj.empty hx hd
theorem keepP {P : Value → Shared → Prop} {v : Value} {s : Shared} (h : P v s) : P v s := h
def NeN (a b : Nat) : Prop := a ≠ b
theorem NeN.out {a b : Nat} (h : NeN a b) : a ≠ b := h
theorem NeN.sym {a b : Nat} (h : NeN b a) : a ≠ b := Ne.symm h
theorem off1_ne {X D : Addr} {o : Obj} {l : List (Addr × Obj)} (off : LCg.Off1 D l) (hm : (X, o) ∈ l) : @Ne Nat X D := by
  induction l with
  | nil => cases hm
  | cons p l ih =>
    rcases List.mem_cons.mp hm with e | hm
    · rw [← e] at off
      exact off.1
    · exact ih off.2 hm
theorem off1_ne' {X D : Addr} {o : Obj} {l : List (Addr × Obj)} (off : LCg.Off1 D l) (hm : (X, o) ∈ l) : @Ne Nat D X := Ne.symm (off1_ne off hm)
theorem updF_mem {BX : Addr} {o o' : Obj} {news : List (Addr × Obj)} {gf : Obj → List (Addr × Obj)} (U : UpdF BX o news gf) : (BX, o') ∈ gf o' := by
  obtain ⟨own, rest, _, hg, _, _⟩ := U.split
  rw [hg]
  exact List.mem_append_right _ (List.mem_cons_self ..)
section
variable {w : World} {A : Around} {s : Shared} {h₀ : Heap} {L : Addr} {m : PySem.Str → Option Value} {env : Env} {elt : PySem.Expr} {x : PySem.Str} {scope : Scope} {cl : List (PySem.Str × Addr)} {P : Nat → Value → Prop} {Fin : List Value → List (Addr × Obj) → Prop}
theorem boxCompB {BX RW : Addr} {n : Nat} {lo : Int} {t0 : Tok} {news : List (Addr × Obj)} {gf : Obj → List (Addr × Obj)} (hm : (BX, boxOf RW lo t0 n) ∈ news) (U : UpdF BX (boxOf RW lo t0 n) news gf) (G : Value → Prop) (N : Nat) (c : Int) (hc : 0 ≤ c) (hlo : 0 ≤ lo) (hB : lo + c * (N : Int) ≤ 8000)
    (step : ∀ i v I oI C oC D m₂ h tk (E' : Value → Shared → Prop) ys at' t, P i v → 0 ≤ at' → at' ≤ 8000 → LCg.NsObj oC m₂ → m₂ x = some v → Fr h₀ L h m → News h₀ L h ((I, oI) :: (C, oC) :: (D, LCg.lst ys) :: gf (boxOf RW at' t n)) → NeN BX I → NeN BX C → NeN BX D →
      wpAny (model PG w) A (eval elt (compEnvC scope cl C env)) (BoxPost BX RW n c at' gf G s h₀ L m I oI C oC D ys) E' { s with heap := h, toks := tk })
    (fin : ∀ ys at' t, ys.length = N → (∀ y ∈ ys, G y) → lo ≤ at' → at' ≤ lo + c * (N : Int) → Fin ys (gf (boxOf RW at' t n))) :
    LCg.CompRest PG w A h₀ L m env elt x scope cl s (fun _ => True) P Fin N 0 [] news :=
  boxComp hm U G N c hc (fun i v I oI C oC D m₂ h tk E' ys at' t hi hP h0 h1 hC hx F N' off ne => by
    obtain ⟨n1, n2, n3⟩ := LCg.Off3.mem off _ (updF_mem U)
    exact step i v I oI C oC D m₂ h tk E' ys at' t hP (Int.le_trans hlo h0) (mulUp hc h1 hi hB) hC hx F N' n1 n2 n3) fin
end
theorem law_mid {α : Type} {w : World} {A : Around} {s : Shared} {c : Sem α} {Q : α → Shared → Prop} {E : Value → Shared → Prop} {g : Heap} {L : Addr} {m : PySem.Str → Option Value} {f' c' CL KN BX RW a1 a2 a3 a4 a5 : Addr} {fo oc o0 o1 o3 o4 ok tab obx orw : Obj} {vs : Array Value} {qual : PySem.Str} {tq ts : Tok} {doc pm ctv : Value} {small : Int}
    (F : Fr g L s.heap m) (N : News g L s.heap [(f', fo), (c', oc), (CL, listOf #[] 0), (KN, ok), (BX, obx), (RW, orw), (a4, o3), (a3, o1), (a2, o0), (a1, o4), (a5, tab)])
    (hm : m (PySem.Str.ofString "mac") = some (.ref f'))
    (e2 : o0.data = .cell (some (.ref CL))) (e3 : o1.data = .cell (some (.ref KN))) (e4 : o3.data = .cell (some (.int small ts)))
    (hoc : oc.data = .fields vs) (hvs : vs[1]? = some (.str qual tq)) (lo : (KN == sysModules) = false) (hd : Obj.IsDictOf (PySem.strKind PG w) ok [])
    (hof : fo = fnMade (macX w.params).n qual (macX w.params).a (macX w.params).b (macX w.params).sc [(PySem.Str.ofString "small", a4), (PySem.Str.ofString "known", a3), (PySem.Str.ofString "calls", a2)] doc pm c' ctv)
    (s1 : 1 ≤ small) (s2 : small ≤ 300) (n1 : @Ne Nat f' CL ∧ @Ne Nat c' CL ∧ @Ne Nat a2 CL ∧ @Ne Nat a3 CL ∧ @Ne Nat a4 CL) (n2 : @Ne Nat f' KN ∧ @Ne Nat c' KN ∧ @Ne Nat a2 KN ∧ @Ne Nat a3 KN ∧ @Ne Nat a4 KN ∧ @Ne Nat CL KN)
    (go : ∀ (qual : PySem.Str) (pm ctv doc : Value) (fo ok : Obj) (m₁ : PySem.Str → Option Value), MOk w ⟨f', c', a2, a3, a4, CL, KN, oc, o0, o1, o3, doc, pm, ctv, qual, vs, tq, ts, small⟩ fo → DObj w [] ok → Fr g L s.heap (fun y => (List.lookup y [(PySem.Str.ofString "mac", Value.ref f')]).or (m₁ y)) →
      News g L s.heap [(BX, obx), (RW, orw), (a1, o4), (a5, tab), (f', fo), (c', oc), (a2, o0), (a3, o1), (a4, o3), (CL, listOf #[] 0), (KN, ok)] → wpAny (model PG w) A c Q E s) : wpAny (model PG w) A c Q E s := by
  refine go qual pm ctv doc fo ok m ⟨⟨hoc, hvs, e2, e3, e4, lo, s1, s2, n1, n2⟩, hof⟩ (dobj_empty hd) (Fr.named F _ fun p hp => ?_) (fun q hq => N q ?_)
  · rw [List.mem_singleton] at hp
    subst hp
    exact hm
  · simp only [List.mem_cons, List.not_mem_nil, or_false] at hq ⊢
    rcases hq with h | h | h | h | h | h | h | h | h | h | h <;> simp only [h, true_or, or_true]
end Mine
end
section
set_option maxHeartbeats 400000
namespace Mine
open PySem PySem.W PySem.Spec PySem.Calls PyProof.Rows
section
variable {prog : Program} {w : World} {A : Around} {E : Value → Shared → Prop} {s : Shared} {env : Env} {h₀ : Heap} {x : PySem.Str} {body : List Stmt} {Q : Flow → Shared → Prop}
def PopOut (h₀ : Heap) (L : Addr) (m : PySem.Str → Option Value) (gf : Obj → List (Addr × Obj)) (its : Array Value) (c : Nat) (s s₂ : Shared) : Prop :=
  its.size = 0 ∧ ∃ h tk, s₂ = { s with heap := h, toks := tk } ∧ Fr h₀ L h m ∧ News h₀ L h (gf (listOf its c))
theorem PopOut.intro {L : Addr} {m : PySem.Str → Option Value} {gf : Obj → List (Addr × Obj)} {its : Array Value} {c : Nat} {h : Heap} {tk : Nat} (F : Fr h₀ L h m) (N : News h₀ L h (gf (listOf its c))) (e : its.size = 0) : PopOut h₀ L m gf its c s { s with heap := h, toks := tk } := ⟨e, h, tk, rfl, F, N⟩
theorem calls_loop' {L : Addr} {test : PySem.Expr} {pos : Pos} {m : PySem.Str → Option Value} {news : List (Addr × Obj)} {CL : Addr} {its : Array Value} {c : Nat} {gf : Obj → List (Addr × Obj)}
    (F : Fr h₀ L s.heap m) (N : News h₀ L s.heap news) (hm : (CL, listOf its c) ∈ news) (U : UpdF CL (listOf its c) news gf) (hz : its.size ≤ 100)
    (turn : ∀ (its' : Array Value) c' h tk, its'.size ≤ 100 → Fr h₀ L h m → News h₀ L h (gf (listOf its' c')) →
      wpAny (model prog w) A (isTrue test env (eval test env)) (fun b s₂ =>
        if b = true then wpAny (model prog w) A (execs body env) (PopEnd h₀ L s CL m gf its'.size) E s₂ else PopOut h₀ L m gf its' c' s s₂) E { s with heap := h, toks := tk })
    (exit : ∀ c' h tk, Fr h₀ L h m → News h₀ L h (gf (listOf #[] c')) → Q .next { s with heap := h, toks := tk })
    (hE : PassesOwn (model prog w) A env E) :
    wpAny (model prog w) A (exec (.While test body [] pos) env) Q E s :=
  pop_loop F N hm U (fun its' c' h tk hl F₁ N₁ => wpAny_mono (turn its' c' h tk (Nat.le_trans hl hz) F₁ N₁) (fun b s₂ h₂ => by
    cases b with
    | true => exact h₂
    | false =>
      obtain ⟨e, h', tk', rfl, F₂, N₂⟩ := h₂
      have e' : its' = #[] := Array.eq_empty_of_size_eq_zero e
      subst e'
      exact exit _ _ _ F₂ N₂) fun _ _ e => e) hE
end
theorem own_sub {w : World} {r : MR} {σ : MSt} {news : List (Addr × Obj)} (h1 : (r.f, r.fn w) ∈ news) (h2 : (r.c', r.oc) ∈ news) (h3 : (r.cc, r.occ) ∈ news) (h4 : (r.ck, r.ock) ∈ news) (h5 : (r.cs, r.ocs) ∈ news) (h6 : (r.CL, listOf σ.its σ.n) ∈ news) (h7 : (r.KN, σ.od) ∈ news) (h8 : ∀ q ∈ σ.tups, q ∈ news) : ∀ q ∈ r.own w σ, q ∈ news := by
  intro q hq
  unfold MR.own at hq
  simp only [List.mem_cons] at hq
  rcases hq with rfl | rfl | rfl | rfl | rfl | rfl | rfl | hq
  · exact h1
  · exact h2
  · exact h3
  · exact h4
  · exact h5
  · exact h6
  · exact h7
  · exact h8 q hq
structure Apart (r : MR) (X : Addr) : Prop where
  a1 : @Ne Nat r.f X
  a2 : @Ne Nat r.c' X
  a3 : @Ne Nat r.cc X
  a4 : @Ne Nat r.ck X
  a5 : @Ne Nat r.cs X
  a6 : @Ne Nat r.CL X
  a7 : @Ne Nat r.KN X
theorem Apart.own {w : World} {r : MR} {σ : MSt} {X : Addr} (a : Apart r X) (t : ∀ p ∈ σ.tups, p.1 ≠ X) : ∀ q ∈ r.own w σ, @Ne Nat q.1 X := by
  intro q hq
  unfold MR.own at hq
  simp only [List.mem_cons] at hq
  rcases hq with rfl | rfl | rfl | rfl | rfl | rfl | rfl | hq
  · exact a.a1
  · exact a.a2
  · exact a.a3
  · exact a.a4
  · exact a.a5
  · exact a.a6
  · exact a.a7
  · exact t q hq
theorem NewOr.ne {own : List (Addr × Obj)} {h : Heap} {D X : Addr} {oX : Obj} (n : NewOr own h D) (hX : h.get? X = some oX) (hown : ∀ q ∈ own, @Ne Nat q.1 X) : NeN D X := by
  intro e
  rcases n with h1 | h1
  · have e' : D = X := e
    rw [e', hX] at h1
    cases h1
  · obtain ⟨p, hp, e2⟩ := List.mem_map.mp h1
    exact hown p hp (e2.trans e)
theorem Step.off {w : World} {r : MR} {h h' : Heap} {σ σ' : MSt} {new : List (B8 × B8)} {X : Addr} {oX : Obj} {evs : List (Addr × Obj)} (S : Step w r h h' σ σ' new) (hX : h.get? X = some oX) (a : Apart r X) (t : ∀ p ∈ σ.tups ++ evs, p.1 ≠ X) : ∀ p ∈ σ'.tups ++ evs, p.1 ≠ X := by
  intro p hp
  rcases List.mem_append.mp hp with hp | hp
  · exact Step.ne S hX (a.own fun p hp => t p (List.mem_append_left _ hp)) p hp
  · exact t p (List.mem_append_right _ hp)
theorem MW.clear {w : World} {r : MR} {σ : MSt} (M : MW w r σ) (n : Nat) : MW w r { σ with its := #[], n := n, cs := [] } := ⟨trivial, M.dict, M.keys, M.vals, M.nCL, M.nKN⟩
theorem tails {σ : MSt} {evs : List (Addr × Obj)} {X : Addr} (a : ∀ p ∈ σ.tups, p.1 ≠ X) (b : ∀ p ∈ evs, p.1 ≠ X) : ∀ p ∈ σ.tups ++ evs, p.1 ≠ X := fun p hp => (List.mem_append.mp hp).elim (a p) (b p)
theorem five_size {w : World} {t : List (Addr × Obj)} {vs : List Value} {sec oc a0 a1 a2 a3 : B8} (c : CallsAre w t vs (questions sec oc a0 a1 a2 a3)) : vs.length = 5 := c.length
section
variable {w : World} {A : Around} {E : Value → Shared → Prop} {s : Shared} {g : Heap} {L : Addr} {m : PySem.Str → Option Value} {Q : Value → Shared → Prop}
theorem sign_rule {r : MR} {σ : MSt} {pre evs : List (Addr × Obj)} {BX ED I : Addr} {oB oE oI : Obj} {msg sec : B8} {tm ts : Tok} {n : Nat}
    (C : Cx w 40 500 A s.heap (r.own w { σ with its := #[], n := n, cs := [] })) (F : Fr g L s.heap m) (N : News g L s.heap (pre ++ (r.own w { σ with its := #[], n := n, cs := [] } ++ evs))) (K : r.Ok) (M : MW w r { σ with its := #[], n := n, cs := [] }) (hx : σ.xs.length ≤ 300) (hm : msg.size = 32) (hs' : sec.size = 32)
    (hp : ∀ q ∈ pre, @Ne Nat q.1 r.CL ∧ @Ne Nat q.1 r.KN) (he : ∀ q ∈ evs, @Ne Nat q.1 r.CL ∧ @Ne Nat q.1 r.KN)
    (pB : (BX, oB) ∈ pre) (pE : (ED, oE) ∈ pre) (pI : (I, oI) ∈ pre) (aB : Apart r BX) (aE : Apart r ED) (aI : Apart r I)
    (tB : ∀ p ∈ σ.tups ++ evs, p.1 ≠ BX) (tE : ∀ p ∈ σ.tups ++ evs, p.1 ≠ ED) (tI : ∀ p ∈ σ.tups ++ evs, p.1 ≠ I)
    (go : ∀ (a0 a1 a2 a3 a4 : B8) (D : Addr) (t1 t2 t3 : Tok) (c : Nat) (h' : Heap) (k : Nat) (σ' : MSt), Chain σ'.xs sec (oct 32 ((beN msg : Nat) % NN)) a0 a1 a2 a3 a4 → MW w r σ' → CallsAre w σ'.tups σ'.its.toList (questions sec (oct 32 ((beN msg : Nat) % NN)) a0 a1 a2 a3) → σ'.its.size = 5 →
      (∀ q ∈ σ.tups, q ∈ σ'.tups) → Grow σ.xs σ'.xs 5 → σ'.cs.length = 5 → Fr g L h' m → News g L h' ((D, tupJ (sgF (beN msg : Nat) (beN sec : Nat) (beN a4 : Nat)) t1 t2 t3 c) :: (pre ++ (r.own w σ' ++ evs))) →
      (∀ p ∈ σ'.tups ++ evs, p.1 ≠ BX) → (∀ p ∈ σ'.tups ++ evs, p.1 ≠ ED) → (∀ p ∈ σ'.tups ++ evs, p.1 ≠ I) → (∀ p ∈ σ'.tups ++ evs, p.1 ≠ r.CL) → NeN D BX → NeN D ED → NeN D I → NeN D r.CL → NeN D r.KN → Q (.ref D) { s with heap := h', toks := k }) :
    wpAny (model PG w) A (call (.ref 151) [.bytes msg tm, .bytes sec ts, .ref r.f]) Q E s := by
  refine sign C K M hx (Nat.zero_le _) (Nat.le_of_eq (by assumption)) (Nat.le_of_eq (by assumption)) fun a0 a1 a2 a3 a4 D t1 t2 t3 c h' k σ' S Ch hD nD d1 d2 => ?_
  have hX : ∀ {X : Addr} {o : Obj}, (X, o) ∈ pre → s.heap.get? X = some o := fun hm => (N _ (List.mem_append_left _ hm)).1
  obtain ⟨F', N'⟩ := News.step4 F N K S hp he
  have hcs : σ'.cs = questions sec (oct 32 ((beN msg : Nat) % NN)) a0 a1 a2 a3 := by
    have := S.asked
    simpa using this
  have hcall := S.mw.calls
  rw [hcs] at hcall
  have hsz := five_size hcall
  refine go a0 a1 a2 a3 a4 D t1 t2 t3 c h' k σ' Ch S.mw hcall (by simpa using hsz) S.mono S.grow (by rw [hcs]; rfl) F' ?_ (S.off (hX pB) aB tB) (S.off (hX pE) aE tE) (S.off (hX pI) aI tI) (tails S.mw.nCL fun p hp => (he p hp).1) ?_ ?_ ?_ d1 d2
  · intro q hq
    rcases List.mem_cons.mp hq with rfl | hq
    · refine ⟨hD, ?_⟩
      rcases nD with h1 | h1
      · refine ⟨fun e => ?_, ?_⟩
        · obtain ⟨oL, es, ep, hL, hr⟩ := F.ns
          have e' : D = L := e
          rw [e', hL] at h1
          cases h1
        · cases q' : g.get? D with
          | none => rfl
          | some o => rw [F.keep _ _ q'] at h1; cases h1
      · obtain ⟨p, hp, e⟩ := List.mem_map.mp h1
        have z := (N p (List.mem_append_right _ (List.mem_append_left _ hp))).2
        rwa [show p.1 = D from e] at z
    · exact N' q hq
  · exact nD.ne (hX pB) (aB.own fun p hp => tB p (List.mem_append_left _ hp))
  · exact nD.ne (hX pE) (aE.own fun p hp => tE p (List.mem_append_left _ hp))
  · exact nD.ne (hX pI) (aI.own fun p hp => tI p (List.mem_append_left _ hp))
theorem dgk_rule {r : MR} {σ : MSt} {pre evs : List (Addr × Obj)} {msg sec : B8} {tm ts : Tok} {n : Nat}
    (C : Cx w 6 60 A s.heap (r.own w { σ with its := #[], n := n, cs := [] })) (F : Fr g L s.heap m) (N : News g L s.heap (pre ++ (r.own w { σ with its := #[], n := n, cs := [] } ++ evs))) (K : r.Ok) (M : MW w r { σ with its := #[], n := n, cs := [] }) (hx : σ.xs.length ≤ 800) (hm : msg.size ≤ 100) (hs' : sec.size = 32)
    (hp : ∀ q ∈ pre, @Ne Nat q.1 r.CL ∧ @Ne Nat q.1 r.KN) (he : ∀ q ∈ evs, @Ne Nat q.1 r.CL ∧ @Ne Nat q.1 r.KN)
    (go : ∀ (a0 a1 a2 a3 a4 : B8) (t : Tok) (h' : Heap) (k : Nat) (σ' : MSt), Chain σ'.xs sec msg a0 a1 a2 a3 a4 → MW w r σ' → CallsAre w σ'.tups σ'.its.toList (questions sec msg a0 a1 a2 a3) → σ'.its.size = 5 →
      Fr g L h' m → News g L h' (pre ++ (r.own w σ' ++ evs)) → Q (.int (beN a4 : Nat) t) { s with heap := h', toks := k }) :
    wpAny (model PG w) A (call (.ref 144) [.bytes msg tm, .bytes sec ts, .ref r.f]) Q E s := by
  refine dgk C K M hx (Nat.zero_le _) hm (eqN (by assumption) (by decide)) fun a0 a1 a2 a3 a4 t h' k σ' S Ch => ?_
  obtain ⟨F', N'⟩ := News.step4 F N K S hp he
  have hcs : σ'.cs = questions sec msg a0 a1 a2 a3 := by
    have := S.asked
    simpa using this
  have hcall := S.mw.calls
  rw [hcs] at hcall
  have hsz := five_size hcall
  exact go a0 a1 a2 a3 a4 t h' k σ' Ch S.mw hcall (by simpa using hsz) F' N'
end
def KeptL (w : World) (tail : List (Addr × Obj)) (T : Addr) (x : I3) (qs : List (B8 × B8)) : Prop :=
  ∃ (D Lq : Addr) (vs : Array Value) (n c c2 : Nat) (t1 t2 t3 : Tok), (T, ({ cls := .type "tuple", data := .seq #[.ref D, .ref Lq] c } : Obj)) ∈ tail ∧ (D, tupJ x t1 t2 t3 c2) ∈ tail ∧ (Lq, listOf vs n) ∈ tail ∧ CallsAre w tail vs.toList qs
theorem KeptL.mono {w : World} {t t' : List (Addr × Obj)} (m : ∀ q ∈ t, q ∈ t') {T : Addr} {x : I3} {qs : List (B8 × B8)} (k : KeptL w t T x qs) : KeptL w t' T x qs := by
  obtain ⟨D, Lq, vs, n, c, c2, t1, t2, t3, h1, h2, h3, h4⟩ := k
  exact ⟨D, Lq, vs, n, c, c2, t1, t2, t3, m _ h1, m _ h2, m _ h3, h4.mono m⟩
theorem KeptL.kept {w : World} {t : List (Addr × Obj)} {h : Heap} (m : ∀ q ∈ t, h.get? q.1 = some q.2) {T : Addr} {x : I3} {qs : List (B8 × B8)} (k : KeptL w t T x qs) : Kept w h T x qs := by
  obtain ⟨D, Lq, vs, n, c, c2, t1, t2, t3, h1, h2, h3, h4⟩ := k
  exact ⟨D, Lq, vs, t1, t2, t3, ⟨_, m _ h1, rfl, _, rfl⟩, ⟨_, m _ h2, rfl, _, rfl⟩, ⟨_, m _ h3, rfl, _, rfl⟩, h4.keys m⟩
def EvOk (w : World) (xs : List Ent) (tail : List (Addr × Obj)) (x : Ent) : Prop :=
  ∃ (T : Addr) (sec oc a0 a1 a2 a3 a4 : B8), x.1 = keyOf sec oc ∧ x.2.2 = .ref T ∧ Chain xs sec (oct 32 ((beN oc : Nat) % NN)) a0 a1 a2 a3 a4 ∧ KeptL w tail T (sgF (beN oc : Nat) (beN sec : Nat) (beN a4 : Nat)) (questions sec (oct 32 ((beN oc : Nat) % NN)) a0 a1 a2 a3)
theorem Chain.grow {xs xs' : List Ent} {n : Nat} (G : Grow xs xs' n) {sec msg a0 a1 a2 a3 a4 : B8} (c : Chain xs sec msg a0 a1 a2 a3 a4) : Chain xs' sec msg a0 a1 a2 a3 a4 :=
  ⟨G.val c.1, G.val c.2.1, G.val c.2.2.1, G.val c.2.2.2.1, G.val c.2.2.2.2⟩
theorem Chain.fun {xs : List Ent} {sec msg a0 a1 a2 a3 a4 b0 b1 b2 b3 b4 : B8} (c : Chain xs sec msg a0 a1 a2 a3 a4) (d : Chain xs sec msg b0 b1 b2 b3 b4) : a0 = b0 ∧ a1 = b1 ∧ a2 = b2 ∧ a3 = b3 ∧ a4 = b4 := by
  obtain ⟨c1, c2, c3, c4, c5⟩ := c
  obtain ⟨d1, d2, d3, d4, d5⟩ := d
  have e0 := Option.some.inj (c1.symm.trans d1)
  subst e0
  have e1 := Option.some.inj (c2.symm.trans d2)
  subst e1
  have e2 := Option.some.inj (c3.symm.trans d3)
  subst e2
  have e3 := Option.some.inj (c4.symm.trans d4)
  subst e3
  exact ⟨rfl, rfl, rfl, rfl, Option.some.inj (c5.symm.trans d5)⟩
theorem EvOk.mono {w : World} {xs xs' : List Ent} {n : Nat} {t t' : List (Addr × Obj)} (G : Grow xs xs' n) (m : ∀ q ∈ t, q ∈ t') {x : Ent} (e : EvOk w xs t x) : EvOk w xs' t' x := by
  obtain ⟨T, sec, oc, a0, a1, a2, a3, a4, h1, h2, h3, h4⟩ := e
  exact ⟨T, sec, oc, a0, a1, a2, a3, a4, h1, h2, h3.grow G, h4.mono m⟩
theorem keyOf_inj {a b c d : B8} (h : keyOf a b = keyOf c d) : a = c ∧ b = d := by
  unfold keyOf at h
  injection h with h1 h2
  injection h2 with h2 _
  exact ⟨Array.toList_inj.mp h1, Array.toList_inj.mp h2⟩
structure LF (w : World) (r : MR) (BX ED : Addr) (evs : List (Addr × Obj)) (σ : MSt) (oed : Obj) (es : List Ent) (i : Nat) (at' : Int) : Prop where
  b0 : 0 ≤ at'
  b1 : at' ≤ 6000 + 2 * (i : Int)
  mw : MW w r σ
  xs : σ.xs.length ≤ 5 * i
  cs : σ.cs.length ≤ 5
  d : DObj w es oed
  ek : ∀ x ∈ es, TK w evs x.1 x.2.1
  el : es.length ≤ i
  ev : ∀ x ∈ es, EvOk w σ.xs (σ.tups ++ evs) x
  tB : ∀ p ∈ σ.tups ++ evs, p.1 ≠ BX
  tE : ∀ p ∈ σ.tups ++ evs, p.1 ≠ ED
  eC : ∀ q ∈ evs, @Ne Nat q.1 r.CL ∧ @Ne Nat q.1 r.KN
end Mine
end
section
set_option maxHeartbeats 400000
namespace Mine
open PySem PySem.W PySem.Spec PySem.Calls PyProof.Rows
theorem storedH_mem {es : List Ent} {k : Key} {a : Addr} {v : Value} {x : Ent} (h : x ∈ storedH es k a v) : (x.1 = k ∧ x.2.2 = v ∧ (x.2.1 = a ∨ ∃ y ∈ es, y.1 = k ∧ y.2.1 = x.2.1)) ∨ x ∈ es := by
  unfold storedH at h
  split at h
  · obtain ⟨y, hy, rfl⟩ := List.mem_map.mp h
    unfold putAt
    by_cases e : y.1 = k
    · left
      rw [if_pos e]
      exact ⟨e, rfl, .inr ⟨y, hy, e, rfl⟩⟩
    · right
      rw [if_neg e]
      exact hy
  · rcases List.mem_append.mp h with h | h
    · exact .inr h
    · rw [List.mem_singleton] at h
      subst h
      exact .inl ⟨rfl, rfl, .inl rfl⟩
theorem storedH_len {es : List Ent} {k : Key} {a : Addr} {v : Value} : (storedH es k a v).length ≤ es.length + 1 := by
  unfold storedH
  split
  · rw [List.length_map]; exact Nat.le_succ _
  · rw [List.length_append]; exact Nat.le_refl _
theorem LF.turn {w : World} {r : MR} {BX ED : Addr} {evs evs' : List (Addr × Obj)} {σ σ' : MSt} {oed oed' : Obj} {es : List Ent} {i : Nat} {at' at2 : Int} {sec oc a0 a1 a2 a3 a4 : B8} {K T : Addr}
    (Lf : LF w r BX ED evs σ oed es i at') (G : Grow σ.xs σ'.xs 5) (mono : ∀ q ∈ σ.tups, q ∈ σ'.tups) (M' : MW w r σ') (hc : σ'.cs.length = 5) (D' : DObj w (storedH es (keyOf sec oc) K (.ref T)) oed') (hK : TK w evs' (keyOf sec oc) K) (hev : ∀ q ∈ evs, q ∈ evs')
    (Ch : Chain σ'.xs sec (oct 32 ((beN oc : Nat) % NN)) a0 a1 a2 a3 a4) (Kt : KeptL w (σ'.tups ++ evs') T (sgF (beN oc : Nat) (beN sec : Nat) (beN a4 : Nat)) (questions sec (oct 32 ((beN oc : Nat) % NN)) a0 a1 a2 a3))
    (tB : ∀ p ∈ σ'.tups ++ evs', p.1 ≠ BX) (tE : ∀ p ∈ σ'.tups ++ evs', p.1 ≠ ED) (eC : ∀ q ∈ evs', @Ne Nat q.1 r.CL ∧ @Ne Nat q.1 r.KN) (b0 : 0 ≤ at2) (b1 : at2 ≤ at' + 2) :
    LF w r BX ED evs' σ' oed' (storedH es (keyOf sec oc) K (.ref T)) (i + 1) at2 := by
  have g := G.length
  have hm : ∀ q ∈ σ.tups ++ evs, q ∈ σ'.tups ++ evs' := fun q hq => (List.mem_append.mp hq).elim (fun h => List.mem_append_left _ (mono q h)) fun h => List.mem_append_right _ (hev q h)
  refine ⟨b0, ?_, M', ?_, Nat.le_of_eq hc, D', fun x hx => ?_, ?_, fun x hx => ?_, tB, tE, eC⟩
  · exact stepB (c := 2) Lf.b1 b1
  · exact Nat.le_trans g.2 (Nat.add_le_add_right Lf.xs 5)
  · rcases storedH_mem hx with ⟨h1, h2, h3⟩ | h
    · rw [h1]
      rcases h3 with h3 | ⟨y, hy, h4, h5⟩
      · rw [h3]
        exact hK
      · rw [← h5, ← h4]
        exact (Lf.ek y hy).mono hev
    · exact (Lf.ek x h).mono hev
  · have h1 := storedH_len (es := es) (k := keyOf sec oc) (a := K) (v := .ref T)
    exact Nat.le_trans h1 (Nat.add_le_add_right Lf.el 1)
  · rcases storedH_mem hx with ⟨h1, h2, h3⟩ | h
    · exact ⟨T, sec, oc, a0, a1, a2, a3, a4, h1, h2, Ch, Kt⟩
    · exact (Lf.ev x h).mono G hm
theorem lookup_mem : ∀ {l : List (PySem.Str × Value)} {a : PySem.Str} {b : Value}, l.lookup a = some b → (a, b) ∈ l
  | [], _, _, h => nomatch h
  | (c, d) :: l, a, b, h => by
    rw [List.lookup_cons] at h
    cases q : a == c with
    | true =>
      rw [q] at h
      have e := eq_of_beq q
      cases h
      rw [e]
      exact List.mem_cons_self ..
    | false =>
      rw [q] at h
      exact List.mem_cons_of_mem _ (lookup_mem h)
noncomputable def led (w : World) (r : MR) (BX RW a1 a5 SL HL ED : Addr) (orw o1 tab osl ohl : Obj) (n0 : Nat) (at' : Int) (t : Tok) (oed : Obj) (σ : MSt) (evs : List (Addr × Obj)) : List (Addr × Obj) :=
  (BX, boxOf RW at' t n0) :: (RW, orw) :: (a1, o1) :: (a5, tab) :: (SL, osl) :: (HL, ohl) :: (ED, oed) :: (r.own w σ ++ evs)
noncomputable abbrev lawNames (f SL HL ED : Addr) : List (PySem.Str × Value) := [(PySem.Str.ofString "mac", .ref f), (PySem.Str.ofString "secrets", .ref SL), (PySem.Str.ofString "hashes", .ref HL), (PySem.Str.ofString "earlier", .ref ED)]
theorem names4 {m : PySem.Str → Option Value} {f SL HL ED : Addr} (h1 : m (PySem.Str.ofString "mac") = some (.ref f)) (h2 : m (PySem.Str.ofString "secrets") = some (.ref SL)) (h3 : m (PySem.Str.ofString "hashes") = some (.ref HL)) (h4 : m (PySem.Str.ofString "earlier") = some (.ref ED)) : ∀ p ∈ lawNames f SL HL ED, m p.1 = some p.2 := by
  intro p hp
  simp only [lawNames, List.mem_cons, List.not_mem_nil, or_false] at hp
  rcases hp with rfl | rfl | rfl | rfl <;> assumption
def LJ (w : World) (r : MR) (BX RW a1 a5 SL HL ED : Addr) (orw o1 tab osl ohl : Obj) (n0 : Nat) (i : Nat) (m : PySem.Str → Option Value) (news : List (Addr × Obj)) : Prop :=
  ∃ at' t oed σ evs es, news = led w r BX RW a1 a5 SL HL ED orw o1 tab osl ohl n0 at' t oed σ evs ∧ LF w r BX ED evs σ oed es i at' ∧ ∀ p ∈ lawNames r.f SL HL ED, m p.1 = some p.2
def CallsAt (_CL : Addr) : Prop := True
structure TurnI (r : MR) (BX RW a1 a5 SL HL ED I : Addr) (σ : MSt) (evs : List (Addr × Obj)) : Prop where
  hIx : ∀ X ∈ [BX, RW, a1, a5, SL, HL, ED], NeN X I
  aI : Apart r I
  tI : ∀ p ∈ σ.tups ++ evs, p.1 ≠ I
  aB : Apart r BX
  aE : Apart r ED
section
variable {prog : Program} {w : World} {A : Around} {E : Value → Shared → Prop} {s : Shared} {env : Env} {h₀ : Heap} {x : PySem.Str} {body : List Stmt} {Q : Flow → Shared → Prop}
theorem sub_nil {m : List (Addr × Obj)} : ∀ q ∈ ([] : List (Addr × Obj)), q ∈ m := fun _ h => nomatch h
theorem sub_cons {p : Addr × Obj} {l m : List (Addr × Obj)} (h : p ∈ m) (r : ∀ q ∈ l, q ∈ m) : ∀ q ∈ p :: l, q ∈ m := fun q hq => (List.mem_cons.mp hq).elim (fun e => e ▸ h) (r q)
theorem law_for {r₀ : Addr} {b : Int} {t₀ u₀ v₀ : Tok} {n : Nat} {m : PySem.Str → Option Value} {r : MR} {BX RW a1 a5 SL HL ED : Addr} {fo o1 ok tab orw osl ohl oed : Obj} {at0 : Int} {t0 : Tok} {n0 : Nat}
    {L : Addr} (hL : env.locals = L) (hh : A.handled = none) (hr : IsRange s.heap r₀ 0 b 1 t₀ u₀ v₀) (hsmall : Builtin.Range.small 0 b 1 = true) (hn : Builtin.Range.rangeSize 0 b 1 = (n : Int)) (hn' : n ≤ 10)
    (F : Fr h₀ L s.heap m) (N : News h₀ L s.heap [(ED, oed), (HL, ohl), (SL, osl), (BX, boxOf RW at0 t0 n0), (RW, orw), (a1, o1), (a5, tab), (r.f, fo), (r.c', r.oc), (r.cc, r.occ), (r.ck, r.ock), (r.cs, r.ocs), (r.CL, listOf #[] 0), (r.KN, ok)])
    (KR : MOk w r fo) (DK : DObj w [] ok) (DE : DObj w [] oed) (hm1 : m (PySem.Str.ofString "mac") = some (.ref r.f)) (hm2 : m (PySem.Str.ofString "secrets") = some (.ref SL)) (hm3 : m (PySem.Str.ofString "hashes") = some (.ref HL)) (hm4 : m (PySem.Str.ofString "earlier") = some (.ref ED)) (b0 : 0 ≤ at0) (b1 : at0 ≤ 6000)
    (aB : Apart r BX) (aE : Apart r ED)
    (turn : ∀ (i : Nat) v I oI at' t σ oed es evs (m₁ : PySem.Str → Option Value) h tk, i < n → 0 ≤ at' → at' ≤ 7000 → NeN BX I → NeN ED I → NeN r.CL I → NeN r.KN I → TurnI r BX RW a1 a5 SL HL ED I σ evs → MR.Ok r → CallsAt r.CL →
      (∀ p ∈ σ.tups ++ evs, p.1 ≠ BX) → (∀ p ∈ σ.tups ++ evs, p.1 ≠ ED) → (∀ p ∈ σ.tups ++ evs, p.1 ≠ r.CL) → (∀ q ∈ evs, @Ne Nat q.1 r.CL ∧ @Ne Nat q.1 r.KN) → LF w r BX ED evs σ oed es i at' → σ.xs.length ≤ 60 → σ.its.size ≤ 100 →
      Fr h₀ L h (fun y => if y = x then some v else (List.lookup y (lawNames r.f SL HL ED)).or (m₁ y)) →
      News h₀ L h ((I, oI) :: led w r BX RW a1 a5 SL HL ED orw o1 tab osl ohl n0 at' t oed σ evs) →
      wpAny (model prog w) A (execs body env) (ForEnd h₀ L I oI (LJ w r BX RW a1 a5 SL HL ED orw o1 tab osl ohl n0 (i + 1)) s Q) E { s with heap := h, toks := tk })
    (done : ∀ at' t σ oed es evs (m₁ : PySem.Str → Option Value) h tk, 0 ≤ at' → at' ≤ 7000 → MR.Ok r → CallsAt r.CL → (∀ p ∈ σ.tups ++ evs, p.1 ≠ BX) → (∀ p ∈ σ.tups ++ evs, p.1 ≠ r.CL) → (∀ q ∈ evs, @Ne Nat q.1 r.CL ∧ @Ne Nat q.1 r.KN) → LF w r BX ED evs σ oed es n at' → σ.xs.length ≤ 60 → σ.its.size ≤ 100 →
      Fr h₀ L h (fun y => (List.lookup y (lawNames r.f SL HL ED)).or (m₁ y)) →
      News h₀ L h (led w r BX RW a1 a5 SL HL ED orw o1 tab osl ohl n0 at' t oed σ evs) → Q .next { s with heap := h, toks := tk }) :
    wpAny (model prog w) A (pyIter (.ref r₀)) (fun it s₂ => LoopAtV prog w A h₀ env x body Q E it s₂) E s := by
  subst hL
  obtain ⟨ok1, hfo⟩ := KR
  have hm := names4 hm1 hm2 hm3 hm4
  clear hm1 hm2 hm3 hm4
  subst hfo
  have tails2 : ∀ {σ : MSt} {evs : List (Addr × Obj)} {oed : Obj} {es : List Ent} {i : Nat} {at' : Int}, LF w r BX ED evs σ oed es i at' → ∀ p ∈ σ.tups ++ evs, p.1 ≠ r.CL := fun Lf => tails Lf.mw.nCL fun p hp => (Lf.eC p hp).1
  refine range_for hh hr hsmall hn F (fun q hq => N q ?_) (LJ w r BX RW a1 a5 SL HL ED orw o1 tab osl ohl n0) ⟨at0, t0, oed, ⟨#[], 0, ok, [], [], []⟩, [], [], rfl, ⟨b0, by omega, ⟨trivial, DK, (fun _ h => nomatch h), (fun _ h => nomatch h), (fun _ h => nomatch h), (fun _ h => nomatch h)⟩, Nat.zero_le _, Nat.zero_le _, DE, (fun _ h => nomatch h), Nat.zero_le _, (fun _ h => nomatch h), (fun _ h => nomatch h), (fun _ h => nomatch h), (fun _ h => nomatch h)⟩, hm⟩ ?_ ?_
  · refine sub_cons (m := [(ED, oed), (HL, ohl), (SL, osl), (BX, boxOf RW at0 t0 n0), (RW, orw), (a1, o1), (a5, tab), (r.f, r.fn w), (r.c', r.oc), (r.cc, r.occ), (r.ck, r.ock), (r.cs, r.ocs), (r.CL, listOf #[] 0), (r.KN, ok)]) ?_ (sub_cons ?_ (sub_cons ?_ (sub_cons ?_ (sub_cons ?_ (sub_cons ?_ (sub_cons ?_ (sub_cons ?_ (sub_cons ?_ (sub_cons ?_ (sub_cons ?_ (sub_cons ?_ (sub_cons ?_ (sub_cons ?_ sub_nil))))))))))))) q hq <;> k_mem
  · rintro i v I oI m₁ news₁ h tk hi ⟨at', t, oed', σ, evs, es, rfl, Lf, hm₁⟩ hcI hoff F₁ N₁
    have hx := Lf.xs
    have hcs := Lf.cs
    have hsz := Lf.mw.size
    have hb := Lf.b1
    have F₂ : Fr h₀ env.locals h (fun y => if y = x then some v else (List.lookup y (lawNames r.f SL HL ED)).or (m₁ y)) := by
      have e : (fun y => if y = x then some v else (List.lookup y (lawNames r.f SL HL ED)).or (m₁ y)) = (fun y => if y = x then some v else m₁ y) := by
        funext y
        by_cases hy : y = x
        · rw [if_pos hy, if_pos hy]
        · rw [if_neg hy, if_neg hy]
          cases q : List.lookup y (lawNames r.f SL HL ED) with
          | none => rfl
          | some v' =>
            have hmem : (y, v') ∈ lawNames r.f SL HL ED := lookup_mem q
            have := hm₁ _ hmem
            dsimp only at this
            rw [this]
            rfl
      rw [e]
      exact F₁
    have off : ∀ {X : Addr} {o : Obj}, (X, o) ∈ led w r BX RW a1 a5 SL HL ED orw o1 tab osl ohl n0 at' t oed' σ evs → @Ne Nat X I := fun hm => hoff _ hm
    refine turn i v I oI at' t σ oed' es evs m₁ h tk hi Lf.b0 (by omega) (off (o := boxOf RW at' t n0) ?_) (off (o := oed') ?_) (off (o := listOf σ.its σ.n) ?_) (off (o := σ.od) ?_) ⟨fun X hX => ?_, ⟨off (o := r.fn w) ?_, off (o := r.oc) ?_, off (o := r.occ) ?_, off (o := r.ock) ?_, off (o := r.ocs) ?_, off (o := listOf σ.its σ.n) ?_, off (o := σ.od) ?_⟩, fun p hp => hoff p ?_, aB, aE⟩ ok1 True.intro Lf.tB Lf.tE (tails2 Lf) Lf.eC Lf (by omega) (by omega) F₂ N₁
    rotate_left 4
    · simp only [List.mem_cons, List.not_mem_nil, or_false] at hX
      rcases hX with rfl | rfl | rfl | rfl | rfl | rfl | rfl
      · exact off (o := boxOf RW at' t n0) (by k_mem)
      · exact off (o := orw) (by k_mem)
      · exact off (o := o1) (by k_mem)
      · exact off (o := tab) (by k_mem)
      · exact off (o := osl) (by k_mem)
      · exact off (o := ohl) (by k_mem)
      · exact off (o := oed') (by k_mem)
    all_goals (first | k_mem | (unfold led MR.own; simp only [List.mem_cons, List.cons_append, true_or, or_true]))
    simp only [List.mem_append] at hp ⊢
    simp only [hp, or_true]
  · rintro h' tk m' news' F₁ N₁ ⟨at', t, oed', σ, evs, es, rfl, Lf, hm₁⟩
    have hx := Lf.xs
    have hcs := Lf.cs
    have hsz := Lf.mw.size
    have hb := Lf.b1
    exact done at' t σ oed' es evs m' h' tk Lf.b0 (by omega) ok1 True.intro Lf.tB (tails2 Lf) Lf.eC Lf (by omega) (by omega) (Fr.named F₁ _ hm₁) N₁
theorem turn_end {r : MR} {BX RW a1 a5 SL HL ED I : Addr} {orw o1 tab osl ohl oed oI : Obj} {n0 i : Nat} {at' : Int} {t : Tok} {σ : MSt} {evs all : List (Addr × Obj)} {es : List Ent} {L : Addr} {m : PySem.Str → Option Value} {h' : Heap} {tk : Nat}
    (F : Fr h₀ L h' m) (N : News h₀ L h' all) (hm1 : m (PySem.Str.ofString "mac") = some (.ref r.f)) (hm2 : m (PySem.Str.ofString "secrets") = some (.ref SL)) (hm3 : m (PySem.Str.ofString "hashes") = some (.ref HL)) (hm4 : m (PySem.Str.ofString "earlier") = some (.ref ED)) (Lf : LF w r BX ED evs σ oed es (i + 1) at') (Ti : TurnI r BX RW a1 a5 SL HL ED I σ evs)
    (s1 : (I, oI) ∈ all) (s2 : (BX, boxOf RW at' t n0) ∈ all) (s3 : (RW, orw) ∈ all) (s4 : (a1, o1) ∈ all) (s5 : (a5, tab) ∈ all) (s6 : (SL, osl) ∈ all) (s7 : (HL, ohl) ∈ all) (s8 : (ED, oed) ∈ all) (s9 : ∀ q ∈ r.own w σ, q ∈ all) (s10 : ∀ q ∈ evs, q ∈ all) :
    ForEnd h₀ L I oI (LJ w r BX RW a1 a5 SL HL ED orw o1 tab osl ohl n0 (i + 1)) s Q .next { s with heap := h', toks := tk } := by
  refine ⟨h', tk, m, led w r BX RW a1 a5 SL HL ED orw o1 tab osl ohl n0 at' t oed σ evs, rfl, F, fun q hq => N q ?_, fun p hp => ?_, at', t, oed, σ, evs, es, rfl, Lf, names4 hm1 hm2 hm3 hm4⟩
  · unfold led at hq
    simp only [List.mem_cons, List.mem_append] at hq
    rcases hq with rfl | rfl | rfl | rfl | rfl | rfl | rfl | rfl | hq | hq
    · exact s1
    · exact s2
    · exact s3
    · exact s4
    · exact s5
    · exact s6
    · exact s7
    · exact s8
    · exact s9 q hq
    · exact s10 q hq
  · obtain ⟨hIx, aI, tI, _, _⟩ := Ti
    unfold led at hp
    simp only [List.mem_cons, List.mem_append] at hp
    rcases hp with rfl | rfl | rfl | rfl | rfl | rfl | rfl | hq | hq
    · exact hIx BX (by simp)
    · exact hIx RW (by simp)
    · exact hIx a1 (by simp)
    · exact hIx a5 (by simp)
    · exact hIx SL (by simp)
    · exact hIx HL (by simp)
    · exact hIx ED (by simp)
    · exact aI.own (fun p hp => tI p (List.mem_append_left _ hp)) p hq
    · exact tI p (List.mem_append_right _ hq)
end
end Mine
end
section
set_option maxHeartbeats 400000
namespace Mine
open PySem PySem.W PySem.Spec PySem.Calls PyProof.Rows
theorem pairs_nil {CL KN : Addr} : ∀ q ∈ ([] : List (Addr × Obj)), @Ne Nat q.1 CL ∧ @Ne Nat q.1 KN := fun _ h => nomatch h
theorem pairs_cons {CL KN : Addr} {p : Addr × Obj} {l : List (Addr × Obj)} (r : ∀ q ∈ l, @Ne Nat q.1 CL ∧ @Ne Nat q.1 KN) (a : @Ne Nat p.1 CL) (b : @Ne Nat p.1 KN) : ∀ q ∈ p :: l, @Ne Nat q.1 CL ∧ @Ne Nat q.1 KN := fun q hq => by
  rcases List.mem_cons.mp hq with rfl | hq
  · exact ⟨a, b⟩
  · exact r q hq
theorem calls_loop {prog : Program} {w : World} {A : Around} {E : Value → Shared → Prop} {s : Shared} {env : Env} {h₀ : Heap} {body : List Stmt} {Q : Flow → Shared → Prop} {L : Addr} {test : PySem.Expr} {pos : Pos} {m : PySem.Str → Option Value} {news : List (Addr × Obj)} {CL : Addr} {its : Array Value} {c : Nat} {gf : Obj → List (Addr × Obj)}
    (_z : CallsAt CL) (F : Fr h₀ L s.heap m) (N : News h₀ L s.heap news) (hm : (CL, listOf its c) ∈ news) (U : UpdF CL (listOf its c) news gf) (hz : its.size ≤ 100)
    (turn : ∀ (its' : Array Value) c' h tk, its'.size ≤ 100 → Fr h₀ L h m → News h₀ L h (gf (listOf its' c')) →
      wpAny (model prog w) A (isTrue test env (eval test env)) (fun b s₂ =>
        if b = true then wpAny (model prog w) A (execs body env) (PopEnd h₀ L s CL m gf its'.size) E s₂ else PopOut h₀ L m gf its' c' s s₂) E { s with heap := h, toks := tk })
    (exit : ∀ c' h tk, Fr h₀ L h m → News h₀ L h (gf (listOf #[] c')) → Q .next { s with heap := h, toks := tk })
    (hE : PassesOwn (model prog w) A env E) :
    wpAny (model prog w) A (exec (.While test body [] pos) env) Q E s := calls_loop' F N hm U hz turn exit hE
theorem updF_upd {d : Addr} {o : Obj} {l : List (Addr × Obj)} {gf : Obj → List (Addr × Obj)} (U : UpdF d o l gf) : ∀ o', Upd d o o' l (gf o') := fun o' => by
  induction U with
  | head h => exact .head h
  | tail h1 _ ih => exact .tail h1 ih
section
variable {w : World} {A : Around} {E : Value → Shared → Prop} {s : Shared} {g : Heap} {L : Addr} {m : PySem.Str → Option Value} {news : List (Addr × Obj)} {Q : Value → Shared → Prop}
theorem lenN {l : Addr} {its : Array Value} {n : Nat} (N : News g L s.heap news) (hm : (l, listOf its n) ∈ news) (hz : its.size ≤ 1000) (h : ∀ t k, Q (.int (its.size : Nat) t) { s with toks := k }) : wpAny (model PG w) A (call (.builtin "len") [.ref l]) Q E s :=
  len_list (News.isList N hm) (Int.lt_of_le_of_lt (Int.ofNat_le.mpr hz) (by decide)) (h _ _)
theorem lenL {l : Addr} {ys : List Value} (N : News g L s.heap news) (hm : (l, LCg.lst ys) ∈ news) (hz : ys.length ≤ 1000) (h : ∀ t k, Q (.int (ys.length : Nat) t) { s with toks := k }) : wpAny (model PG w) A (call (.builtin "len") [.ref l]) Q E s := by
  refine lenN N hm (by simpa using hz) fun t k => ?_
  have e : ys.toArray.size = ys.length := by simp
  rw [e]
  exact h t k
theorem item32 {value slice : PySem.Expr} {l : Addr} {ys : List Value} {k : Int} {u : Tok} (N : News g L s.heap news) (hm : (l, LCg.lst ys) ∈ news) (hG : ∀ y ∈ ys, IsB32 y) (h0 : 0 ≤ k) (h1 : k < (ys.length : Nat)) (hz : ys.length ≤ 1000) (h : ∀ b t, Array.size b = 32 → Q (.bytes b t) s)
    (hs : subscripted slice false (.ref l) (.int k u) = operate [.ref l, .int k u] (getItem (.ref l) (.int k u))) (hg : ∀ r, letTemporaryGo value (.ref l) r = pure ()) :
    wpAny (model PG w) A (subscriptTail value slice (.ref l) (.int k u)) Q E s := by
  have hk : k.toNat < ys.length := (Int.toNat_lt h0).mpr h1
  obtain ⟨b, t, e, hb⟩ := hG _ (List.getElem_mem hk)
  refine item_list (News.isList N hm) h0 (Int.lt_of_lt_of_le h1 (Int.le_trans (Int.ofNat_le.mpr hz) (by decide))) (x := ys[k.toNat]) ?_ ?_ hs hg
  · simp [hk]
  · rw [e]
    exact h b t hb
theorem popN {CL : Addr} {its : Array Value} {n : Nat} {gf : Obj → List (Addr × Obj)} (F : Fr g L s.heap m) (N : News g L s.heap news) (U : UpdF CL (listOf its n) news gf) (hne : 0 < its.size) (hz : its.size ≤ 1000)
    (h : ∀ y h' its', its'.size < its.size → Fr g L h' m → News g L h' (gf (listOf its' (n + 1))) → Q y { s with heap := h' }) : wpAny (model PG w) A (call (.builtin "list.pop") [.ref CL]) Q E s := by
  have U' := updF_upd U
  cases e : kl_last its.toList with
  | none =>
    have := kl_last_none e
    have hl : its.toList.length = 0 := by rw [this]; rfl
    rw [Array.length_toList] at hl
    exact absurd hl (Nat.ne_of_gt hne)
  | some q =>
    obtain ⟨p, y⟩ := q
    have hl := congrArg List.length (kl_last_spec e)
    rw [Array.length_toList, List.length_append, List.length_singleton] at hl
    refine kl_pop F N e (U' _) (by rw [Array.length_toList, sizeLine_eq]; exact Nat.le_trans hz (by decide)) fun h' F' N' => h y h' p.toArray (by rw [List.size_toArray]; exact Nat.lt_of_succ_le (Nat.le_of_eq hl.symm)) F' N'
theorem sign_rule2 {r : MR} {σ : MSt} {pre evs : List (Addr × Obj)} {BX RW a1 a5 SL HL ED I : Addr} {oB oE oI oed : Obj} {es : List Ent} {i : Nat} {at' : Int} {msg sec : B8} {tm ts : Tok} {n : Nat}
    (Lf : LF w r BX ED evs σ oed es i at') (Ti : TurnI r BX RW a1 a5 SL HL ED I σ evs)
    (C : Cx w 40 500 A s.heap (r.own w { σ with its := #[], n := n, cs := [] })) (F : Fr g L s.heap m) (N : News g L s.heap (pre ++ (r.own w { σ with its := #[], n := n, cs := [] } ++ evs))) (K : r.Ok) (hx : σ.xs.length ≤ 300) (hm : msg.size = 32) (hs' : sec.size = 32)
    (hp : ∀ q ∈ pre, @Ne Nat q.1 r.CL ∧ @Ne Nat q.1 r.KN) (pB : (BX, oB) ∈ pre) (pE : (ED, oE) ∈ pre) (pI : (I, oI) ∈ pre)
    (go : ∀ (a0 a1' a2 a3 a4 : B8) (D : Addr) (t1 t2 t3 : Tok) (c : Nat) (h' : Heap) (k : Nat) (σ' : MSt), Chain σ'.xs sec (oct 32 ((beN msg : Nat) % NN)) a0 a1' a2 a3 a4 → MW w r σ' → CallsAre w σ'.tups σ'.its.toList (questions sec (oct 32 ((beN msg : Nat) % NN)) a0 a1' a2 a3) → σ'.its.size = 5 →
      (∀ q ∈ σ.tups, q ∈ σ'.tups) → Grow σ.xs σ'.xs 5 → σ'.cs.length = 5 → TurnI r BX RW a1 a5 SL HL ED I σ' evs → Fr g L h' m → News g L h' ((D, tupJ (sgF (beN msg : Nat) (beN sec : Nat) (beN a4 : Nat)) t1 t2 t3 c) :: (pre ++ (r.own w σ' ++ evs))) →
      (∀ p ∈ σ'.tups ++ evs, p.1 ≠ BX) → (∀ p ∈ σ'.tups ++ evs, p.1 ≠ ED) → (∀ p ∈ σ'.tups ++ evs, p.1 ≠ I) → (∀ p ∈ σ'.tups ++ evs, p.1 ≠ r.CL) → NeN D BX → NeN D ED → NeN D I → NeN D r.CL → NeN D r.KN → Q (.ref D) { s with heap := h', toks := k }) :
    wpAny (model PG w) A (call (.ref 151) [.bytes msg tm, .bytes sec ts, .ref r.f]) Q E s :=
  sign_rule C F N K (Lf.mw.clear n) hx hm hs' hp Lf.eC pB pE pI Ti.aB Ti.aE Ti.aI Lf.tB Lf.tE Ti.tI fun a0 a1' a2 a3 a4 D t1 t2 t3 c h' k σ' c1 c2 c3 c4 c5 c6 c7 F' N' tB tE tI tC => go a0 a1' a2 a3 a4 D t1 t2 t3 c h' k σ' c1 c2 c3 c4 c5 c6 c7 ⟨Ti.hIx, Ti.aI, tI, Ti.aB, Ti.aE⟩ F' N' tB tE tI tC
end
end Mine
end
section
set_option maxHeartbeats 400000
namespace Mine
open PySem PySem.W PySem.Spec PySem.Calls PyProof.Rows
section
variable {w : World} {A : Around} {E : Value → Shared → Prop} {s : Shared} {g : Heap} {L : Addr} {m : PySem.Str → Option Value} {news : List (Addr × Obj)} {Q : Value → Shared → Prop}
theorem len5 {l : Addr} {its : Array Value} {n : Nat} (N : News g L s.heap news) (hm : (l, listOf its n) ∈ news) (hz : its.size = 5) (h : ∀ t k, Q (.int 5 t) { s with toks := k }) : wpAny (model PG w) A (call (.builtin "len") [.ref l]) Q E s := by
  refine lenN N hm (eqN (by assumption) (by decide)) fun t k => ?_
  rw [hz]
  exact h t k
end
theorem val_at {xs : List Ent} {k : Key} {b : B8} (h : valOf xs k = some b) : ∃ p u, atKey xs k = some p ∧ p.2 = .bytes b u := by
  unfold valOf at h
  split at h
  · rename_i hk
    cases h
    exact ⟨_, _, hk, rfl⟩
  · cases h
theorem asks_at {w : World} {t : List (Addr × Obj)} {xs : List Ent} : ∀ {vs : List Value} {qs : List (B8 × B8)} {as : List B8}, CallsAre w t vs qs → qs.length = as.length → (∀ (i : Nat) (h1 : i < qs.length) (h2 : i < as.length), valOf xs (keyOf qs[i].1 qs[i].2) = some as[i]) →
    ∃ us : List Tok, us.length = qs.length ∧ ∀ (i : Nat) (v : Value), vs[i]? = some v → ∃ (D : Addr) (k : Key) (p : Addr × Value) (b : B8) (u : Tok), v = .ref D ∧ TK w t k D ∧ atKey xs k = some p ∧ as[i]? = some b ∧ us[i]? = some u ∧ p.2 = .bytes b u := by
  intro vs
  induction vs with
  | nil =>
    intro qs as h _ _
    cases qs with
    | nil => exact ⟨[], rfl, fun i v q => nomatch (List.getElem?_nil (i := i)).symm.trans q⟩
    | cons q qs => exact h.elim
  | cons v vs ih =>
    intro qs as h e hv
    cases qs with
    | nil => exact h.elim
    | cons q qs =>
      cases as with
      | nil => exact Nat.noConfusion e
      | cons b as =>
        obtain ⟨⟨D, hD, hT⟩, r⟩ := h
        obtain ⟨us, hl, hus⟩ := ih r (Nat.succ.inj e) (fun i h1 h2 => hv (i + 1) (Nat.succ_lt_succ h1) (Nat.succ_lt_succ h2))
        obtain ⟨p, u, hp1, hp2⟩ := val_at (hv 0 (Nat.succ_pos _) (Nat.succ_pos _))
        refine ⟨u :: us, congrArg Nat.succ hl, fun i v' hi => ?_⟩
        cases i with
        | zero => exact ⟨D, _, p, b, u, (Option.some.inj hi).symm.trans hD, hT, hp1, rfl, rfl, hp2⟩
        | succ i => exact hus i v' hi
section
variable {w : World} {A : Around} {s : Shared} {h₀ : Heap} {L : Addr} {m : PySem.Str → Option Value} {env : Env} {elt : PySem.Expr} {x : PySem.Str} {scope : Scope} {cl : List (PySem.Str × Addr)} {S : List (Addr × Obj) → Prop} {Fin : List Value → List (Addr × Obj) → Prop} {news : List (Addr × Obj)}
theorem known_comp {σ : MSt} {sec oc a0 a1 a2 a3 a4 : B8} (Ca : CallsAre w σ.tups σ.its.toList (questions sec oc a0 a1 a2 a3)) (Ch : Chain σ.xs sec oc a0 a1 a2 a3 a4) (hS : S news) (ht : ∀ q ∈ σ.tups, q ∈ news) (hsz : σ.its.size = 5)
    (step : ∀ (i : Nat) (D : Addr) (k : Key) (p : Addr × Value) I oI C oC Dl m₂ h tk (E' : Value → Shared → Prop) ys, IsTupleKey (bytesKind PG w) h k D → atKey σ.xs k = some p → LCg.NsObj oC m₂ → m₂ x = some (.ref D) → Fr h₀ L h m → News h₀ L h ((I, oI) :: (C, oC) :: (Dl, LCg.lst ys) :: news) →
      wpAny (model PG w) A (eval elt (compEnvC scope cl C env)) (MapPost p.2 s h₀ L m ((I, oI) :: (C, oC) :: (Dl, LCg.lst ys) :: news)) E' { s with heap := h, toks := tk })
    (fin : ∀ u0 u1 u2 u3 u4, Fin [.bytes a0 u0, .bytes a1 u1, .bytes a2 u2, .bytes a3 u3, .bytes a4 u4] news) :
    LCg.CompRest PG w A h₀ L m env elt x scope cl s S (fun (i : Nat) v => σ.its[i]? = some v) Fin σ.its.size 0 [] news := by
  obtain ⟨us, hl, hus⟩ := asks_at (xs := σ.xs) (as := [a0, a1, a2, a3, a4]) Ca rfl (fun i h1 h2 => by
    obtain ⟨c1, c2, c3, c4, c5⟩ := Ch
    match i, h1, h2 with
    | 0, _, _ => exact c1
    | 1, _, _ => exact c2
    | 2, _, _ => exact c3
    | 3, _, _ => exact c4
    | 4, _, _ => exact c5)
  · clear hl
    refine map_comp (fun i => .bytes ([a0, a1, a2, a3, a4].getD i a0) (us.getD i 0)) σ.its.size hS (fun i v I oI C oC Dl m₂ h tk E' ys hi hP hC hx F N off ne => ?_) ?_
    · obtain ⟨D, k, p, b, u, h1, h2, h3, h4, h5, h6⟩ := hus i v (Array.getElem?_toList.trans hP)
      subst h1
      have r := step i D k p I oI C oC Dl m₂ h tk E' ys (h2.at fun q hq => (N q (List.mem_cons_of_mem _ (List.mem_cons_of_mem _ (List.mem_cons_of_mem _ (ht q hq))))).1) h3 hC hx F N
      have e : p.2 = .bytes ([a0, a1, a2, a3, a4].getD i a0) (us.getD i 0) := by
        rw [h6, List.getD_eq_getElem?_getD, List.getD_eq_getElem?_getD, h4, h5]
        rfl
      rw [e] at r
      exact r
    · rw [hsz]
      exact fin _ _ _ _ _
theorem SrcAt.led {AL : Addr} {its : Array Value} {n : Nat} (hm : (AL, listOf its n) ∈ news) : LCg.SrcAt h₀ AL its news := .inr ⟨_, hm, rfl, _, rfl⟩
end
section
variable {w : World} {A : Around} {E : Value → Shared → Prop} {s : Shared} {g : Heap} {L : Addr} {m : PySem.Str → Option Value} {news : List (Addr × Obj)}
theorem in_E {d a : Addr} {es : List Ent} {o : Obj} {sec oc a0 a1 a2 a3 a4 : B8} {σ σ' : MSt} {evs : List (Addr × Obj)} {Q : Value → Shared → Prop} (hev : ∀ x ∈ es, EvOk w σ.xs (σ.tups ++ evs) x) (Gr : Grow σ.xs σ'.xs 5) (mo : ∀ q ∈ σ.tups, q ∈ σ'.tups) (Ch : Chain σ'.xs sec (oct 32 ((beN oc : Nat) % NN)) a0 a1 a2 a3 a4)
    (hu : A.units + 1 < cLine) (hd : (d == sysModules) = false) (hk : IsTupleKey (bytesKind PG w) s.heap (keyOf sec oc) a) (ho : s.heap.get? d = some o) (D : DObj w es o) (ks : Keys w s.heap es)
    (go1 : ∀ k', atKey es (keyOf sec oc) = none → Q (.bool false) { s with toks := k' })
    (go2 : ∀ k' e T, atKey es (keyOf sec oc) = some (e, .ref T) → KeptL w (σ'.tups ++ evs) T (sgF (beN oc : Nat) (beN sec : Nat) (beN a4 : Nat)) (questions sec (oct 32 ((beN oc : Nat) % NN)) a0 a1 a2 a3) → Q (.bool true) { s with toks := k' }) :
    wpAny (model PG w) A (compareOp .In (.ref a) (.ref d)) Q E s := by
  cases h : atKey es (keyOf sec oc) with
  | none =>
    exact in_D hu hd hk ho D ks (r := false) (by rw [h]; rfl) fun k' => go1 k' h
  | some p =>
    obtain ⟨e, v⟩ := p
    obtain ⟨T, sec', oc', b0, b1, b2, b3, b4, h1, h2, h3, h4⟩ := hev _ (atKey_mem h)
    dsimp only at h1 h2
    subst h2
    obtain ⟨e1, e2⟩ := keyOf_inj h1
    subst e1 e2
    obtain ⟨f0, f1, f2, f3, f4⟩ := Chain.fun (h3.grow Gr) Ch
    subst f0 f1 f2 f3 f4
    exact in_D hu hd hk ho D ks (r := true) (by rw [h]; rfl) fun k' => go2 k' e T h (h4.mono fun q hq => (List.mem_append.mp hq).elim (fun z => List.mem_append_left _ (mo q z)) fun z => List.mem_append_right _ z)
theorem ne_T {T a D Lq : Addr} {its : Array Value} {n c c2 : Nat} {t1 t2 t3 : Tok} {x : I3} {qs : List (B8 × B8)} {tups evs : List (Addr × Obj)} {Q : Value → Shared → Prop} (Kp : KeptL w (tups ++ evs) T x qs) (N : News g L s.heap news) (ht : ∀ q ∈ tups ++ evs, q ∈ news)
    (m1 : (a, ({ cls := .type "tuple", data := .seq #[.ref D, .ref Lq] c } : Obj)) ∈ news) (m2 : (D, tupJ x t1 t2 t3 c2) ∈ news) (m3 : (Lq, listOf its n) ∈ news) (Ca : CallsAre w tups its.toList qs) (hu : A.units + 8 < cLine) (h : Q (.bool false) s) :
    wpAny (model PG w) A (compareOp .NotEq (.ref T) (.ref a)) Q E s :=
  ne_kept (Kp.kept fun q hq => (N q (ht q hq)).1) ⟨D, Lq, its, t1, t2, t3, ⟨_, (N _ m1).1, rfl, _, rfl⟩, ⟨_, (N _ m2).1, rfl, _, rfl⟩, ⟨_, (N _ m3).1, rfl, _, rfl⟩, Ca.keys fun q hq => (N q (ht q (List.mem_append_left _ hq))).1⟩ hu h
theorem ne_A {a b : Addr} {its vs : Array Value} {n n2 : Nat} {qs : List (B8 × B8)} {tups : List (Addr × Obj)} {Q : Value → Shared → Prop} (N : News g L s.heap news) (m1 : (a, listOf its n) ∈ news) (m2 : (b, listOf vs n2) ∈ news) (Ca : CallsAre w tups its.toList qs) (ht : ∀ q ∈ tups, q ∈ news) (k2 : KeysAre w s.heap vs.toList qs) (hu : A.units + 4 < cLine) (h : Q (.bool false) s) :
    wpAny (model PG w) A (compareOp .NotEq (.ref a) (.ref b)) Q E s :=
  ne_asked (News.isList N m1) (News.isList N m2) (Ca.keys fun q hq => (N q (ht q hq)).1) k2 hu h
end
end Mine
end
section
set_option maxHeartbeats 400000
namespace Mine
open PySem PySem.W PySem.Spec PySem.Calls PyProof.Rows
theorem Chain.h0 {xs : List Ent} {sec msg a0 a1 a2 a3 a4 : B8} (c : Chain xs sec msg a0 a1 a2 a3 a4) : valOf xs (keyOf Z32 (O32 ++ #[0] ++ sec ++ msg)) = some a0 := c.1
theorem Chain.h1 {xs : List Ent} {sec msg a0 a1 a2 a3 a4 : B8} (c : Chain xs sec msg a0 a1 a2 a3 a4) : valOf xs (keyOf a0 O32) = some a1 := c.2.1
theorem fresh_ne_E {w : World} {r : MR} {BX ED D L : Addr} {evs : List (Addr × Obj)} {σ : MSt} {oed o : Obj} {es : List Ent} {i : Nat} {at' : Int} {g h : Heap} {news : List (Addr × Obj)} (_ : LF w r BX ED evs σ oed es i at') (N : News g L h news) (hm : (ED, o) ∈ news) (fr : h.get? D = none) : NeN D ED := fun e => by
  have e' : D = ED := e
  rw [e', (N _ hm).1] at fr
  cases fr
theorem set_E {w : World} {A : Around} {E : Value → Shared → Prop} {s : Shared} {d a : Addr} {xs : List Ent} {k : Key} {o : Obj} {g : Heap} {L : Addr} {m : PySem.Str → Option Value} {news : List (Addr × Obj)} {gf : Obj → List (Addr × Obj)} {v : Value} {Q : Unit → Shared → Prop} (hu : A.units + 1 < cLine) (F : Fr g L s.heap m) (N : News g L s.heap news) (U : UpdF d o news gf)
    (hk : IsTupleKey (bytesKind PG w) s.heap k a) (D : DObj w xs o) (ks : Keys w s.heap xs)
    (hsz : xs.length ≤ 1000) (h : ∀ h' o' k', Fr g L h' m → News g L h' (gf o') → DObj w (storedH xs k a v) o' → Q () { s with heap := h', toks := k' }) :
    wpAny (model PG w) A (setItem (.ref d) (.ref a) v) Q E s := by
  obtain ⟨own, rest, e, hg, h1, h2⟩ := U.split
  refine set_D hu hk (N (d, o) (by rw [e]; exact List.mem_append_right _ (.head _))).1 D ks hsz fun h' o' k' sb ho' D' ks' => ?_
  obtain ⟨F', N'⟩ := set_F F N U sb ho'
  exact h h' o' k' F' N' D'
structure Free5 (r : MR) (BX ED I X : Addr) : Prop where
  b : @Ne Nat X BX
  e : @Ne Nat X ED
  i : @Ne Nat X I
  c : @Ne Nat X r.CL
  k : @Ne Nat X r.KN
theorem turn_close {w : World} {s : Shared} {h₀ : Heap} {Q : Flow → Shared → Prop} {r : MR} {BX RW a1 a5 SL HL ED I : Addr} {orw o1 tab osl ohl oed oed' oI : Obj} {n0 i : Nat} {at' at2 : Int} {t : Tok} {σ σ' : MSt} {evs all : List (Addr × Obj)} {es : List Ent} {L : Addr} {m : PySem.Str → Option Value} {h' : Heap} {tk : Nat}
    {sec oc b0 b1 b2 b3 b4 : B8} {K T Dt AL : Addr} {t1 t2 u1 u2 u3 : Tok} {c c2 c3 n : Nat}
    (Lf : LF w r BX ED evs σ oed es i at') (Ti : TurnI r BX RW a1 a5 SL HL ED I σ' evs) (Gr : Grow σ.xs σ'.xs 5) (mo : ∀ q ∈ σ.tups, q ∈ σ'.tups) (Mw : MW w r σ') (cs5 : σ'.cs.length = 5) (Ch : Chain σ'.xs sec (oct 32 ((beN oc : Nat) % NN)) b0 b1 b2 b3 b4)
    (Ca : CallsAre w σ'.tups σ'.its.toList (questions sec (oct 32 ((beN oc : Nat) % NN)) b0 b1 b2 b3)) (Dn : DObj w (storedH es (keyOf sec oc) K (.ref T)) oed')
    (tB : ∀ p ∈ σ'.tups ++ evs, p.1 ≠ BX) (tE : ∀ p ∈ σ'.tups ++ evs, p.1 ≠ ED)
    (F : Fr h₀ L h' m) (N : News h₀ L h' all) (hm1 : m (PySem.Str.ofString "mac") = some (.ref r.f)) (hm2 : m (PySem.Str.ofString "secrets") = some (.ref SL)) (hm3 : m (PySem.Str.ofString "hashes") = some (.ref HL)) (hm4 : m (PySem.Str.ofString "earlier") = some (.ref ED))
    (mK : (K, tupB sec oc t1 t2 c) ∈ all) (mT : (T, ({ cls := .type "tuple", data := .seq #[.ref Dt, .ref AL] c2 } : Obj)) ∈ all) (mD : (Dt, tupJ (sgF (beN oc : Nat) (beN sec : Nat) (beN b4 : Nat)) u1 u2 u3 c3) ∈ all) (mA : (AL, listOf σ'.its n) ∈ all)
    (fK : Free5 r BX ED I K) (fT : Free5 r BX ED I T) (fD : Free5 r BX ED I Dt) (fA : Free5 r BX ED I AL) (z0 : 0 ≤ at2) (z1 : at2 ≤ at' + 2)
    (s1 : (I, oI) ∈ all) (s2 : (BX, boxOf RW at2 t n0) ∈ all) (s3 : (RW, orw) ∈ all) (s4 : (a1, o1) ∈ all) (s5 : (a5, tab) ∈ all) (s6 : (SL, osl) ∈ all) (s7 : (HL, ohl) ∈ all) (s8 : (ED, oed') ∈ all) (s9 : ∀ q ∈ r.own w σ', q ∈ all) (s10 : ∀ q ∈ evs, q ∈ all) :
    ForEnd h₀ L I oI (LJ w r BX RW a1 a5 SL HL ED orw o1 tab osl ohl n0 (i + 1)) s Q .next { s with heap := h', toks := tk } := by
  have four : ∀ {P : Addr × Obj → Prop}, P (K, tupB sec oc t1 t2 c) → P (T, ({ cls := .type "tuple", data := .seq #[.ref Dt, .ref AL] c2 } : Obj)) → P (Dt, tupJ (sgF (beN oc : Nat) (beN sec : Nat) (beN b4 : Nat)) u1 u2 u3 c3) → P (AL, listOf σ'.its n) → (∀ q ∈ evs, P q) → ∀ q ∈ ((K, tupB sec oc t1 t2 c) :: (T, ({ cls := .type "tuple", data := .seq #[.ref Dt, .ref AL] c2 } : Obj)) :: (Dt, tupJ (sgF (beN oc : Nat) (beN sec : Nat) (beN b4 : Nat)) u1 u2 u3 c3) :: (AL, listOf σ'.its n) :: evs), P q := by
    intro P p1 p2 p3 p4 p5 q hq
    simp only [List.mem_cons] at hq
    rcases hq with rfl | rfl | rfl | rfl | hq
    · exact p1
    · exact p2
    · exact p3
    · exact p4
    · exact p5 q hq
  have tl : ∀ {X : Addr}, (∀ p ∈ σ'.tups ++ evs, p.1 ≠ X) → K ≠ X → T ≠ X → Dt ≠ X → AL ≠ X → ∀ p ∈ σ'.tups ++ ((K, tupB sec oc t1 t2 c) :: (T, ({ cls := .type "tuple", data := .seq #[.ref Dt, .ref AL] c2 } : Obj)) :: (Dt, tupJ (sgF (beN oc : Nat) (beN sec : Nat) (beN b4 : Nat)) u1 u2 u3 c3) :: (AL, listOf σ'.its n) :: evs), p.1 ≠ X := by
    intro X h1 p1 p2 p3 p4 p hp
    rcases List.mem_append.mp hp with hp | hp
    · exact h1 p (List.mem_append_left _ hp)
    · exact four (P := fun p => p.1 ≠ X) p1 p2 p3 p4 (fun p hp => h1 p (List.mem_append_right _ hp)) p hp
  refine turn_end F N hm1 hm2 hm3 hm4 (Lf.turn Gr mo Mw cs5 Dn ⟨_, List.mem_cons_self .., tupB_obj⟩ (fun q hq => List.mem_cons_of_mem _ (List.mem_cons_of_mem _ (List.mem_cons_of_mem _ (List.mem_cons_of_mem _ hq)))) Ch ?_ (tl tB fK.b fT.b fD.b fA.b) (tl tE fK.e fT.e fD.e fA.e) (four (P := fun q => @Ne Nat q.1 r.CL ∧ @Ne Nat q.1 r.KN) ⟨fK.c, fK.k⟩ ⟨fT.c, fT.k⟩ ⟨fD.c, fD.k⟩ ⟨fA.c, fA.k⟩ Lf.eC) z0 z1) ⟨Ti.hIx, Ti.aI, tl Ti.tI fK.i fT.i fD.i fA.i, Ti.aB, Ti.aE⟩ s1 s2 s3 s4 s5 s6 s7 s8 s9 (four (P := fun q => q ∈ all) mK mT mD mA s10)
  refine ⟨Dt, AL, σ'.its, n, c2, c3, u1, u2, u3, ?_, ?_, ?_, Ca.mono fun q hq => List.mem_append_left _ hq⟩
  all_goals (refine List.mem_append_right _ ?_; simp only [List.mem_cons, true_or, or_true])
end Mine
end
section
set_option maxHeartbeats 400000
namespace Mine
open PySem PySem.W PySem.Spec PySem.Calls PyProof.Rows
section
variable {w : World} {A : Around} {E : Value → Shared → Prop} {s : Shared} {g : Heap} {L : Addr} {m : PySem.Str → Option Value} {news : List (Addr × Obj)} {Q : Value → Shared → Prop}
theorem item_again {value slice : PySem.Expr} {l : Addr} {ys : List Value} {k : Int} {u t : Tok} {b : B8} (N : News g L s.heap news) (hm : (l, LCg.lst ys) ∈ news) (hx : ys[k.toNat]? = some (.bytes b t)) (h0 : 0 ≤ k) (h1 : k ≤ 1000) (h : Q (.bytes b t) s)
    (hs : subscripted slice false (.ref l) (.int k u) = operate [.ref l, .int k u] (getItem (.ref l) (.int k u))) (hg : ∀ r, letTemporaryGo value (.ref l) r = pure ()) :
    wpAny (model PG w) A (subscriptTail value slice (.ref l) (.int k u)) Q E s :=
  item_list (News.isList N hm) h0 (Int.lt_of_le_of_lt (by assumption) (by decide)) (by simpa using hx) h hs hg
theorem item_first {value slice : PySem.Expr} {l : Addr} {ys : List Value} {u : Tok} (N : News g L s.heap news) (hm : (l, LCg.lst ys) ∈ news) (hG : ∀ y ∈ ys, IsB32 y) (h1 : 0 < ys.length) (h : ∀ b t, Array.size b = 32 → ys[(0 : Int).toNat]? = some (.bytes b t) → Q (.bytes b t) s)
    (hs : subscripted slice false (.ref l) (.int 0 u) = operate [.ref l, .int 0 u] (getItem (.ref l) (.int 0 u))) (hg : ∀ r, letTemporaryGo value (.ref l) r = pure ()) :
    wpAny (model PG w) A (subscriptTail value slice (.ref l) (.int 0 u)) Q E s := by
  match ys, hG, h1 with
  | y :: ys, hG, _ =>
    obtain ⟨b, t, e, hb⟩ := hG y (List.mem_cons_self ..)
    subst e
    exact item_list (News.isList N hm) (Int.le_refl _) (by decide) (x := .bytes b t) rfl (h b t hb rfl) hs hg
theorem item_ask {value slice : PySem.Expr} {l : Addr} {n : Nat} {u : Tok} {σ : MSt} {sec oc a0 a1 a2 a3 a4 : B8} (N : News g L s.heap news) (hm : (l, listOf σ.its n) ∈ news) (Ca : CallsAre w σ.tups σ.its.toList (questions sec oc a0 a1 a2 a3)) (Ch : Chain σ.xs sec oc a0 a1 a2 a3 a4) (ht : ∀ q ∈ σ.tups, q ∈ news) (hsz : σ.its.size = 5)
    (h : ∀ (D : Addr) (k : Key) (ad : Addr) (v : Tok), IsTupleKey (bytesKind PG w) s.heap k D → atKey σ.xs k = some (ad, .bytes a4 v) → Q (.ref D) s)
    (hs : subscripted slice false (.ref l) (.int 4 u) = operate [.ref l, .int 4 u] (getItem (.ref l) (.int 4 u))) (hg : ∀ r, letTemporaryGo value (.ref l) r = pure ()) :
    wpAny (model PG w) A (subscriptTail value slice (.ref l) (.int 4 u)) Q E s := by
  obtain ⟨us, hl, hus⟩ := asks_at (xs := σ.xs) (as := [a0, a1, a2, a3, a4]) Ca rfl (fun i h1 h2 => by
    obtain ⟨c1, c2, c3, c4, c5⟩ := Ch
    match i, h1, h2 with
    | 0, _, _ => exact c1
    | 1, _, _ => exact c2
    | 2, _, _ => exact c3
    | 3, _, _ => exact c4
    | 4, _, _ => exact c5)
  have h4 : 4 < σ.its.size := by rw [show σ.its.size = 5 by assumption]; decide
  have hi : σ.its[4]? = some σ.its[4] := by simp [h4]
  obtain ⟨D, k, p, b, v, e1, e2, e3, e4, e5, e6⟩ := hus 4 σ.its[4] (by simpa using hi)
  have eb : a4 = b := by simpa using e4
  subst eb
  obtain ⟨ad, pv⟩ := p
  dsimp only at e6
  subst e6
  rw [e1] at hi
  exact item_list (News.isList N hm) (by decide) (by decide) hi (h D k ad v (e2.at fun q hq => (N q (ht q hq)).1) e3) hs hg
theorem dgk_rule2 {r : MR} {σ : MSt} {pre evs : List (Addr × Obj)} {BX ED : Addr} {oed : Obj} {es : List Ent} {i : Nat} {at' : Int} {msg sec : B8} {tm ts : Tok} {n : Nat}
    (Lf : LF w r BX ED evs σ oed es i at')
    (C : Cx w 6 60 A s.heap (r.own w { σ with its := #[], n := n, cs := [] })) (F : Fr g L s.heap m) (N : News g L s.heap (pre ++ (r.own w { σ with its := #[], n := n, cs := [] } ++ evs))) (K : r.Ok) (hx : σ.xs.length ≤ 800) (hm : msg.size ≤ 100) (hs' : sec.size = 32)
    (hp : ∀ q ∈ pre, @Ne Nat q.1 r.CL ∧ @Ne Nat q.1 r.KN)
    (go : ∀ (a0 a1 a2 a3 a4 : B8) (t : Tok) (h' : Heap) (k : Nat) (σ' : MSt), Chain σ'.xs sec msg a0 a1 a2 a3 a4 → MW w r σ' → CallsAre w σ'.tups σ'.its.toList (questions sec msg a0 a1 a2 a3) → σ'.its.size = 5 →
      Fr g L h' m → News g L h' (pre ++ (r.own w σ' ++ evs)) → Q (.int (beN a4 : Nat) t) { s with heap := h', toks := k }) :
    wpAny (model PG w) A (call (.ref 144) [.bytes msg tm, .bytes sec ts, .ref r.f]) Q E s :=
  dgk_rule C F N K (Lf.mw.clear n) hx hm hs' hp Lf.eC go
end
theorem Chain.h4 {xs : List Ent} {sec msg a0 a1 a2 a3 a4 : B8} (c : Chain xs sec msg a0 a1 a2 a3 a4) : valOf xs (keyOf a2 a3) = some a4 := c.2.2.2.2
end Mine
end
section
set_option maxHeartbeats 1000000
namespace Mine
open PySem PySem.W PySem.Spec PySem.Calls PyProof.Rows
noncomputable def lawScope (P : Params) : Scope := match (hd.heap_39 P).lookup 189 with
  | some ⟨_, _, .func fd, _⟩ => fd.scope
  | _ => default
structure ScS (P : Params) where
  sc : Scope
  h : lawScope P = sc
noncomputable def scX (P : Params) : ScS P := by
  refine ScS.mk ?sc ?h
  case h =>
    conv =>
      lhs
      whnf
structure ForS (P : Params) where
  x : PySem.Str
  px : Pos
  iter : PySem.Expr
  body : List Stmt
  pos : Pos
  h : (lawStmts P)[8]? = some (.For (.Name x px) iter body [] pos)
noncomputable def forX (P : Params) : ForS P := by
  refine ForS.mk ?x ?px ?iter ?body ?pos ?h
  case h =>
    conv =>
      lhs
      whnf
structure TailS (P : Params) where
  l : List Stmt
  h : (lawStmts P).drop 9 = l
noncomputable def tailX (P : Params) : TailS P := by
  refine TailS.mk ?l ?h
  case h =>
    conv =>
      lhs
      whnf
theorem t1 {P : Params} : (forX P).x = PySem.Str.ofString "turn" := rfl
theorem ord_of {g h : Heap} {L f' c' CL KN BX RW a1 a2 a3 a4 a5 : Addr} {fo oc o0 o1 o3 o4 ok tab obx orw ocl : Obj}
    (_ : News g L h [(BX, obx), (RW, orw), (a1, o4), (a5, tab), (f', fo), (c', oc), (a2, o0), (a3, o1), (a4, o3), (CL, ocl), (KN, ok)])
    (h : @LT.lt Nat _ a5 a1 ∧ @LT.lt Nat _ a1 a2 ∧ @LT.lt Nat _ a2 a3 ∧ @LT.lt Nat _ a3 a4 ∧ @LT.lt Nat _ a4 RW ∧ @LT.lt Nat _ RW BX ∧ @LT.lt Nat _ BX KN ∧ @LT.lt Nat _ KN CL ∧ @LT.lt Nat _ CL c' ∧ @LT.lt Nat _ c' f') :
    @LT.lt Nat _ a4 RW ∧ @LT.lt Nat _ RW BX ∧ @LT.lt Nat _ BX KN ∧ @LT.lt Nat _ KN CL ∧ @LT.lt Nat _ CL c' ∧ @LT.lt Nat _ c' f' ∧ NeN RW BX ∧ NeN a1 BX ∧ NeN a5 BX ∧ NeN f' BX ∧ NeN c' BX ∧ NeN a2 BX ∧ NeN a3 BX ∧ NeN a4 BX ∧ NeN CL BX ∧ NeN KN BX := by
  obtain ⟨p0, p1, p2, p3, p4, p5, p6, p7, p8, p9⟩ := h
  have q4 := Nat.lt_trans p4 p5
  have q3 := Nat.lt_trans p3 q4
  have q2 := Nat.lt_trans p2 q3
  have q1 := Nat.lt_trans p1 q2
  have q0 := Nat.lt_trans p0 q1
  have r7 := Nat.lt_trans p6 p7
  have r8 := Nat.lt_trans r7 p8
  have r9 := Nat.lt_trans r8 p9
  exact ⟨p4, p5, p6, p7, p8, p9, Nat.ne_of_lt p5, Nat.ne_of_lt q1, Nat.ne_of_lt q0, Nat.ne_of_gt r9, Nat.ne_of_gt r8, Nat.ne_of_lt q2, Nat.ne_of_lt q3, Nat.ne_of_lt q4, Nat.ne_of_gt r7, Nat.ne_of_gt p6⟩
theorem ord_facts {L RW BX KN CL c' f' : Nat} (l0 : 186 < L) (l1 : L + 1 + 1 + 1 + 1 < RW) (l2 : RW < BX) (l3 : BX < KN) (l4 : KN < CL) (l5 : CL < c') (l6 : c' < f') :
    (NeN RW BX ∧ NeN (L + 1) BX ∧ NeN 186 BX ∧ NeN f' BX ∧ NeN c' BX ∧ NeN (L + 1 + 1) BX ∧ NeN (L + 1 + 1 + 1) BX ∧ NeN (L + 1 + 1 + 1 + 1) BX ∧ NeN CL BX ∧ NeN KN BX) ∧ (NeN BX CL ∧ NeN RW CL ∧ NeN (L + 1) CL ∧ NeN 186 CL ∧ NeN f' CL ∧ NeN c' CL ∧ NeN (L + 1 + 1) CL ∧ NeN (L + 1 + 1 + 1) CL ∧ NeN (L + 1 + 1 + 1 + 1) CL ∧ NeN KN CL) ∧ (NeN BX KN ∧ NeN RW KN ∧ NeN (L + 1) KN ∧ NeN 186 KN) := by
  have u4 : L + 1 + 1 + 1 < L + 1 + 1 + 1 + 1 := Nat.lt_succ_self _
  have u3 : L + 1 + 1 < L + 1 + 1 + 1 := Nat.lt_succ_self _
  have u2 : L + 1 < L + 1 + 1 := Nat.lt_succ_self _
  have u0 : 186 < L + 1 := Nat.lt_succ_of_lt l0
  have b4 := Nat.lt_trans l1 l2
  have b3 := Nat.lt_trans u4 b4
  have b2 := Nat.lt_trans u3 b3
  have b1 := Nat.lt_trans u2 b2
  have b0 := Nat.lt_trans u0 b1
  have bf := Nat.lt_trans (Nat.lt_trans (Nat.lt_trans l3 l4) l5) l6
  have bc := Nat.lt_trans (Nat.lt_trans l3 l4) l5
  have bl := Nat.lt_trans l3 l4
  exact ⟨⟨Nat.ne_of_lt l2, Nat.ne_of_lt b1, Nat.ne_of_lt b0, Nat.ne_of_gt bf, Nat.ne_of_gt bc, Nat.ne_of_lt b2, Nat.ne_of_lt b3, Nat.ne_of_lt b4, Nat.ne_of_gt bl, Nat.ne_of_gt l3⟩,
    ⟨Nat.ne_of_lt bl, Nat.ne_of_lt (Nat.lt_trans l2 bl), Nat.ne_of_lt (Nat.lt_trans b1 bl), Nat.ne_of_lt (Nat.lt_trans b0 bl), Nat.ne_of_gt (Nat.lt_trans l5 l6), Nat.ne_of_gt l5, Nat.ne_of_lt (Nat.lt_trans b2 bl), Nat.ne_of_lt (Nat.lt_trans b3 bl), Nat.ne_of_lt (Nat.lt_trans b4 bl), Nat.ne_of_lt l4⟩,
    ⟨Nat.ne_of_lt l3, Nat.ne_of_lt (Nat.lt_trans l2 l3), Nat.ne_of_lt (Nat.lt_trans b1 l3), Nat.ne_of_lt (Nat.lt_trans b0 l3)⟩⟩
theorem ord_facts2 {L RW BX KN CL c' f' SL HL ED : Nat} (l0 : 186 < L) (l1 : L + 1 + 1 + 1 + 1 < RW) (l2 : RW < BX) (l3 : BX < KN) (l4 : KN < CL) (l5 : CL < c') (l6 : c' < f') (l7 : f' < ED) (l8 : SL < ED) (l9 : HL < ED) :
    NeN RW ED ∧ NeN (L + 1) ED ∧ NeN 186 ED ∧ NeN SL ED ∧ NeN HL ED ∧ NeN f' ED ∧ NeN c' ED ∧ NeN (L + 1 + 1) ED ∧ NeN (L + 1 + 1 + 1) ED ∧ NeN (L + 1 + 1 + 1 + 1) ED ∧ NeN BX ED ∧ NeN CL ED ∧ NeN KN ED := by
  have u4 : L + 1 + 1 + 1 < L + 1 + 1 + 1 + 1 := Nat.lt_succ_self _
  have u3 : L + 1 + 1 < L + 1 + 1 + 1 := Nat.lt_succ_self _
  have u2 : L + 1 < L + 1 + 1 := Nat.lt_succ_self _
  have u0 : 186 < L + 1 := Nat.lt_succ_of_lt l0
  have b4 := Nat.lt_trans l1 l2
  have b3 := Nat.lt_trans u4 b4
  have b2 := Nat.lt_trans u3 b3
  have b1 := Nat.lt_trans u2 b2
  have b0 := Nat.lt_trans u0 b1
  have bf := Nat.lt_trans (Nat.lt_trans (Nat.lt_trans l3 l4) l5) l6
  have bc := Nat.lt_trans (Nat.lt_trans l3 l4) l5
  have bl := Nat.lt_trans l3 l4
  have be := Nat.lt_trans bf l7
  have ce := Nat.lt_trans l6 l7
  have le := Nat.lt_trans l5 ce
  exact ⟨Nat.ne_of_lt (Nat.lt_trans l2 be), Nat.ne_of_lt (Nat.lt_trans b1 be), Nat.ne_of_lt (Nat.lt_trans b0 be), Nat.ne_of_lt l8, Nat.ne_of_lt l9, Nat.ne_of_lt l7, Nat.ne_of_lt ce, Nat.ne_of_lt (Nat.lt_trans b2 be), Nat.ne_of_lt (Nat.lt_trans b3 be), Nat.ne_of_lt (Nat.lt_trans b4 be), Nat.ne_of_lt be, Nat.ne_of_lt le, Nat.ne_of_lt (Nat.lt_trans l4 le)⟩
end Mine
end
section
set_option maxHeartbeats 4000000
namespace Mine
open PySem PySem.W PySem.Spec PySem.Calls PyProof.Rows
theorem off_LawXI : True := by
  w_top off
  exact True.intro
theorem nsub_LawX {news : List (Addr × Obj)} : ∀ q ∈ ([] : List (Addr × Obj)), q ∈ news := fun _ h => nomatch h
theorem kk23 : (hd.heap_39 = hd.heap_39) ∧ PySem.Challenge.rw_jv0012_01 = PySem.Challenge.rw_jv0012_01 := by
  k_fill
  exact ⟨rfl, rfl⟩
local macro_rules | `(tactic| k_ne) => `(tactic| (refine neN ?_; (try dsimp only); first
  | exact NeN.out (by with_reducible assumption)
  | exact NeN.sym (by with_reducible assumption)
  | (refine' off1_ne ?off1 ?mem1; (case off1 => with_reducible assumption); (case mem1 => k_dflt k_mem))
  | (refine' off1_ne' ?off1 ?mem1; (case off1 => with_reducible assumption); (case mem1 => k_dflt k_mem))
  | fail "apart"))
local macro_rules | `(tactic| k_all) => `(tactic| with_reducible assumption)
theorem turn_walk {w : World} {s : Shared} {E : Value → Shared → Prop} {Q : Flow → Shared → Prop} {h₀ base : Heap} {L fa f' c' KN CL BX RW SL HL ED : Nat} {p : Program} {loose : List PySem.Str} {mean : ExcName → Option Value} {mg mb : PySem.Str → Option Value} {oc o1 o2 o3 o4 tab : Obj} {ws : List Value} {wi : List Int} {ss hs : List Value} {n0 n : Nat} {doc pm ctv : Value} {qual : PySem.Str} {vs : Array Value} {tq ts : Tok} {small : Int}
    (B : Below callerA base [] h₀) (X : (hd.heap_39 w.params).In h₀) (T : Top p loose mean mg mb h₀)
    (d1 : o1.data = .cell (some (.ref BX))) (d2 : o2.data = .cell (some (.ref CL))) (d3 : o3.data = .cell (some (.ref KN))) (d4 : o4.data = .cell (some (.int small ts)))
    (hI : IntsAre ws (List.take 40 wi)) (l0 : 186 < L) (l1 : L + 1 + 1 + 1 + 1 < RW) (l2 : RW < BX) (l3 : BX < KN) (l4 : KN < CL) (l5 : CL < c') (l6 : c' < f') (l7 : f' < ED) (l8 : SL < ED) (l9 : HL < ED)
    (n1 : NeN SL BX) (n2 : NeN SL CL) (n3 : NeN SL KN) (n4 : NeN HL BX) (n5 : NeN HL CL) (n6 : NeN HL KN) (sE : ((ED : Addr) == sysModules) = false)
    (hss : ∀ y ∈ ss, IsB32 y) (hhs : ∀ y ∈ hs, IsB32 y) (c1 : 0 < ss.length) (c2 : ss.length ≤ 10) (c3 : 0 < hs.length) (c4 : hs.length ≤ 10) (hn : n ≤ 10)
    (hE : PassesOwn (model PG w) (callerA.deeper (envOfC (PySem.Str.ofString "law") (scX w.params).sc L fa (.ref 188))) (envOfC (PySem.Str.ofString "law") (scX w.params).sc L fa (.ref 188)) E) :
    ∀ (i : Nat) v (I : Addr) oI at' t σ oed es evs (m₁ : PySem.Str → Option Value) h tk, i < n → 0 ≤ at' → at' ≤ 7000 → NeN BX I → NeN ED I → NeN CL I → NeN KN I → TurnI ⟨f', c', L+1+1, L+1+1+1, L+1+1+1+1, CL, KN, oc, o2, o3, o4, doc, pm, ctv, qual, vs, tq, ts, small⟩ BX RW (L+1) 186 SL HL ED I σ evs → MR.Ok ⟨f', c', L+1+1, L+1+1+1, L+1+1+1+1, CL, KN, oc, o2, o3, o4, doc, pm, ctv, qual, vs, tq, ts, small⟩ → CallsAt CL →
      (∀ p ∈ σ.tups ++ evs, p.1 ≠ BX) → (∀ p ∈ σ.tups ++ evs, p.1 ≠ ED) → (∀ p ∈ σ.tups ++ evs, p.1 ≠ CL) → (∀ q ∈ evs, @Ne Nat q.1 CL ∧ @Ne Nat q.1 KN) → LF w ⟨f', c', L+1+1, L+1+1+1, L+1+1+1+1, CL, KN, oc, o2, o3, o4, doc, pm, ctv, qual, vs, tq, ts, small⟩ BX ED evs σ oed es i at' → σ.xs.length ≤ 60 → σ.its.size ≤ 100 →
      Fr h₀ L h (fun y => if y = PySem.Str.ofString "turn" then some v else (List.lookup y (lawNames f' SL HL ED)).or (m₁ y)) →
      News h₀ L h ((I, oI) :: led w ⟨f', c', L+1+1, L+1+1+1, L+1+1+1+1, CL, KN, oc, o2, o3, o4, doc, pm, ctv, qual, vs, tq, ts, small⟩ BX RW (L+1) 186 SL HL ED (listOf ws.toArray 0) o1 tab (LCg.lst ss) (LCg.lst hs) n0 at' t oed σ evs) →
      wpAny (model PG w) (callerA.deeper (envOfC (PySem.Str.ofString "law") (scX w.params).sc L fa (.ref 188))) (execs (forX w.params).body (envOfC (PySem.Str.ofString "law") (scX w.params).sc L fa (.ref 188))) (ForEnd h₀ L I oI (LJ w ⟨f', c', L+1+1, L+1+1+1, L+1+1+1+1, CL, KN, oc, o2, o3, o4, doc, pm, ctv, qual, vs, tq, ts, small⟩ BX RW (L+1) 186 SL HL ED (listOf ws.toArray 0) o1 tab (LCg.lst ss) (LCg.lst hs) n0 (i + 1)) s Q) E { s with heap := h, toks := tk } := by
  intro i v I oI at' t σ oed es evs m₁ h tk hi z0 z1 nB nE nC nK Ti Kr zC tB tE tC eC Lf hxs hsz F' N'
  dsimp only [led, MR.own, List.cons_append, List.nil_append] at N'
  obtain ⟨⟨ob0, ob1, ob2, ob3, ob4, ob5, ob6, ob7, ob8, ob9⟩, ⟨oc0, oc_1, oc_2, oc3, oc4, oc5, oc6, oc7, oc8, oc9⟩, ⟨ok0, ok1, ok2, ok3⟩⟩ := ord_facts l0 l1 l2 l3 l4 l5 l6
  obtain ⟨oe0, oe1, oe2, oe3, oe4, oe5, oe6, oe7, oe8, oe9, oe10, oe11, oe12⟩ := ord_facts2 l0 l1 l2 l3 l4 l5 l6 l7 l8 l9
  dsimp only [forX, scX] at hE ⊢
  k_fold
  repeat' (first
    | (k_unfold; (try dsimp only))
    | (k_end; wrow_close)
    | with_reducible ((with_reducible show ForEnd _ _ _ _ _ _ _ _ _); ( (rename LF _ _ _ _ _ _ _ _ _ _ => Lf); (rename TurnI _ _ _ _ _ _ _ _ _ _ _ => Ti); (rename Chain _ _ _ _ _ _ _ _ => Ch); (rename CallsAre _ _ _ _ => Ca); (rename DObj _ (storedH _ _ _ _) _ => Dn); k_dflt (refine' turn_close Lf Ti ?hz_Gr ?hz_mo ?hz_Mw ?hz_cs5 Ch Ca Dn ?hz_tB ?hz_tE ?hz_F ?hz_N ?hz_h1 ?hz_h2 ?hz_h3 ?hz_h4 ?hz_mK ?hz_mT ?hz_mD ?hz_mA ?hz_fK ?hz_fT ?hz_fD ?hz_fA ?hz_z0 ?hz_z1 ?hz_s1 ?hz_s2 ?hz_s3 ?hz_s4 ?hz_s5 ?hz_s6 ?hz_s7 ?hz_s8 ?hz_s9 ?hz_s10); (case hz_Gr => with_reducible assumption); (case hz_mo => with_reducible assumption); (case hz_Mw => with_reducible assumption); (case hz_cs5 => with_reducible assumption); (case hz_tB => with_reducible assumption); (case hz_tE => with_reducible assumption); (case hz_F => k_asm); (case hz_N => k_asm); (case hz_h1 => k_dflt (exact rfl)); (case hz_h2 => k_dflt (exact rfl)); (case hz_h3 => k_dflt (exact rfl)); (case hz_h4 => k_dflt (exact rfl)); (case hz_mK => k_dflt k_mem); (case hz_mT => k_dflt k_mem); (case hz_mD => k_dflt k_mem); (case hz_mA => k_dflt k_mem); (case hz_fK => (k_dflt (refine' Free5.mk ?_ ?_ ?_ ?_ ?_); all_goals k_ne)); (case hz_fT => (k_dflt (refine' Free5.mk ?_ ?_ ?_ ?_ ?_); all_goals k_ne)); (case hz_fD => (k_dflt (refine' Free5.mk ?_ ?_ ?_ ?_ ?_); all_goals k_ne)); (case hz_fA => (k_dflt (refine' Free5.mk ?_ ?_ ?_ ?_ ?_); all_goals k_ne)); (case hz_s1 => k_dflt k_mem); (case hz_s2 => k_dflt k_mem); (case hz_z0 => first | with_reducible assumption | exact leN (by with_reducible assumption) (by decide) | exact eqN (by with_reducible assumption) (by decide) | decide | exact geI (by with_reducible assumption) (by decide) | exact leI (by with_reducible assumption) (by decide) | exact ltLe (by with_reducible assumption) (by decide) | exact dropI (by with_reducible assumption) (by decide) | exact upI (by with_reducible assumption) (by decide) | exact pgeI (by with_reducible assumption) (by decide) | exact pleI (by with_reducible assumption) (by decide) | exact pge2I (by with_reducible assumption) (by decide) | exact self2I (by decide) | exact self1I (by decide) | exact self0I (by decide) | exact addgeI (by with_reducible assumption) (by decide) | exact addltI (by with_reducible assumption) (by decide) | exact addleI (by with_reducible assumption) (by decide) | exact ge2I (by with_reducible assumption) (by with_reducible assumption) (by decide) | exact ge2pI (by with_reducible assumption) (by with_reducible assumption) (by decide) | exact bdA (by with_reducible assumption) (by decide) | exact bdB (by with_reducible assumption) (by with_reducible assumption) (by decide) | exact bdC (by with_reducible assumption) (by with_reducible assumption) (by decide) | exact bdD (by with_reducible assumption) (by with_reducible assumption) (by with_reducible assumption) (by decide) (by decide) | exact bdE (by with_reducible assumption) (by with_reducible assumption) (by with_reducible assumption) (by with_reducible assumption) (by decide) (by decide) | exact bdF (by with_reducible assumption) (by with_reducible assumption) (by with_reducible assumption) (by with_reducible assumption) (by decide) (by decide) | exact natPos (by with_reducible assumption) | exact natLe (by with_reducible assumption) (by decide) | exact hbI (by with_reducible assumption) (by with_reducible assumption) (by with_reducible assumption) (by decide) | omega); (case hz_z1 => first | with_reducible assumption | exact leN (by with_reducible assumption) (by decide) | exact eqN (by with_reducible assumption) (by decide) | decide | exact geI (by with_reducible assumption) (by decide) | exact leI (by with_reducible assumption) (by decide) | exact ltLe (by with_reducible assumption) (by decide) | exact dropI (by with_reducible assumption) (by decide) | exact upI (by with_reducible assumption) (by decide) | exact pgeI (by with_reducible assumption) (by decide) | exact pleI (by with_reducible assumption) (by decide) | exact pge2I (by with_reducible assumption) (by decide) | exact self2I (by decide) | exact self1I (by decide) | exact self0I (by decide) | exact addgeI (by with_reducible assumption) (by decide) | exact addltI (by with_reducible assumption) (by decide) | exact addleI (by with_reducible assumption) (by decide) | exact ge2I (by with_reducible assumption) (by with_reducible assumption) (by decide) | exact ge2pI (by with_reducible assumption) (by with_reducible assumption) (by decide) | exact bdA (by with_reducible assumption) (by decide) | exact bdB (by with_reducible assumption) (by with_reducible assumption) (by decide) | exact bdC (by with_reducible assumption) (by with_reducible assumption) (by decide) | exact bdD (by with_reducible assumption) (by with_reducible assumption) (by with_reducible assumption) (by decide) (by decide) | exact bdE (by with_reducible assumption) (by with_reducible assumption) (by with_reducible assumption) (by with_reducible assumption) (by decide) (by decide) | exact bdF (by with_reducible assumption) (by with_reducible assumption) (by with_reducible assumption) (by with_reducible assumption) (by decide) (by decide) | exact natPos (by with_reducible assumption) | exact natLe (by with_reducible assumption) (by decide) | exact hbI (by with_reducible assumption) (by with_reducible assumption) (by with_reducible assumption) (by decide) | omega); (case hz_s3 => k_dflt k_mem); (case hz_s4 => k_dflt k_mem); (case hz_s5 => k_dflt k_mem); (case hz_s6 => k_dflt k_mem); (case hz_s7 => k_dflt k_mem); (case hz_s8 => k_dflt k_mem); (case hz_s9 => k_dflt (refine' own_sub ?hz_o1 ?hz_o2 ?hz_o3 ?hz_o4 ?hz_o5 ?hz_o6 ?hz_o7 ?hz_o8; (case hz_o1 => k_mem); (case hz_o2 => k_mem); (case hz_o3 => k_mem); (case hz_o4 => k_mem); (case hz_o5 => k_mem); (case hz_o6 => k_mem); (case hz_o7 => k_mem); (case hz_o8 => (intro q hq; repeat (first | exact hq | exact List.mem_append_left _ hq | exact List.mem_append_right _ hq | refine List.mem_cons_of_mem _ ?_))))); (case hz_s10 => k_dflt (intro q hq; repeat (first | exact hq | exact List.mem_append_left _ hq | exact List.mem_append_right _ hq | refine List.mem_cons_of_mem _ ?_)))))
    | with_reducible ( (with_reducible show wpAny _ _ (setItem (Value.ref _) (Value.ref _) _) _ _ _); (rename LF _ _ _ _ _ _ _ _ _ _ => Lf); (have el' := Lf.el); k_dflt (refine' set_E (k := keyOf _ _) ?hz_hu ?hz_F ?hz_N ?hz_U ?hz_hk Lf.d ?hz_ks ?hz_z ?_; (case hz_F => k_asm); (case hz_N => k_asm); (case hz_U => k_updF); (case hz_hu => exact Nat.le_of_ble_eq_true rfl); (case hz_hk => exact tupB_key (News.get (by k_asm) (by k_mem))); (case hz_ks => exact keys_at Lf.ek (tups_at (by k_asm) (by (intro q hq; repeat (first | exact hq | exact List.mem_append_left _ hq | exact List.mem_append_right _ hq | refine List.mem_cons_of_mem _ ?_))))); (case hz_z => first | with_reducible assumption | exact leN (by with_reducible assumption) (by decide) | exact eqN (by with_reducible assumption) (by decide) | exact leN3 (by with_reducible assumption) (by with_reducible assumption) (by with_reducible assumption) (by decide) | exact lenA (by with_reducible assumption) (by with_reducible assumption) (by decide) | exact lenB (by with_reducible assumption) (by with_reducible assumption) (by decide) | exact sizeB (by with_reducible assumption) (by with_reducible assumption) (by with_reducible assumption) (by decide) | exact tnA (by with_reducible assumption) (by decide) | exact tnB (by with_reducible assumption) (by decide) | exact posNat (by with_reducible assumption) | exact eq0 (by with_reducible assumption) | omega)); intro h' o' k' F' N' Dn'; (try dsimp only at N'); (try k_sweep); (try dsimp only))
    | with_reducible ((with_reducible show wpAny _ _ (newTuple _) _ _ _); (k_dflt (refine' newTup ?hz_F ?hz_N ?_ ?hz_z; (case hz_F => k_asm); (case hz_N => k_asm); (case hz_z => first | k_dflt (exact szlit rfl) | size_fits)); intro D' h' F' N' s0 e0 l0 l1; clear s0 e0 l0; (try k_lt l1); (try k_sweep); (try dsimp only)))
    | with_reducible ( (with_reducible show wpAny _ _ (compareOp CmpOp.In (Value.ref _) (Value.ref _)) _ _ _); (rename LF _ _ _ _ _ _ _ _ _ _ => Lf); k_dflt (refine' in_E Lf.ev ?hz_Gr ?hz_mo ?hz_Ch ?hz_hu ?hz_hd ?hz_hk ?hz_ho Lf.d ?hz_ks ?_ ?_; (case hz_Gr => with_reducible assumption); (case hz_mo => with_reducible assumption); (case hz_hk => exact tupB_key (News.get (by k_asm) (by k_mem))); (case hz_Ch => with_reducible assumption); (case hz_hu => exact Nat.le_of_ble_eq_true rfl); (case hz_hd => with_reducible assumption); (case hz_ho => exact News.get (by k_asm) (by k_mem)); (case hz_ks => exact keys_at Lf.ek (tups_at (by k_asm) (by (intro q hq; repeat (first | exact hq | exact List.mem_append_left _ hq | exact List.mem_append_right _ hq | refine List.mem_cons_of_mem _ ?_)))))); (intro _ hp'; (try dsimp only)); rotate_left; (intro _ e' T' hp' Kp'; (try dsimp only)); rotate_right)
    | with_reducible ( (with_reducible show wpAny _ _ (compareOp CmpOp.NotEq (Value.ref _) (Value.ref _)) _ _ _); (rename KeptL _ _ _ _ _ => Kp); k_dflt (refine' ne_T Kp ?hz_N ?hz_ht ?hz_m1 ?hz_m2 ?hz_m3 ?hz_Ca ?hz_hu ?_; (case hz_N => k_asm); (case hz_m1 => k_mem); (case hz_m2 => k_mem); (case hz_m3 => k_mem); (case hz_Ca => with_reducible assumption); (case hz_ht => (intro q hq; repeat (first | exact hq | exact List.mem_append_left _ hq | exact List.mem_append_right _ hq | refine List.mem_cons_of_mem _ ?_))); (case hz_hu => exact Nat.le_of_ble_eq_true rfl)); (try dsimp only))
    | with_reducible ( (with_reducible show wpAny _ _ (compareOp CmpOp.NotEq (Value.ref _) (Value.ref _)) _ _ _); k_dflt (refine' ne_A ?hz_N ?hz_m1 ?hz_m2 ?hz_Ca ?hz_ht ?hz_k2 ?hz_hu ?_; (case hz_N => k_asm); (case hz_m1 => k_mem); (case hz_m2 => k_mem); (case hz_k2 => with_reducible assumption); (case hz_Ca => with_reducible assumption); (case hz_ht => (intro q hq; repeat (first | exact hq | exact List.mem_append_left _ hq | exact List.mem_append_right _ hq | refine List.mem_cons_of_mem _ ?_))); (case hz_hu => exact Nat.le_of_ble_eq_true rfl)); (try dsimp only))
    | with_reducible ( (with_reducible show wpAny _ _ (call (Value.ref 184) [Value.ref _, Value.bytes _ _, Value.bytes _ _]) _ _ _); k_dflt (refine' due (Cx.law ?hz_B ?hz_F ?hz_X ?hz_T ?hz_K ?hz_d ?hz_u ?hz_N ?hz_S) ?hz_hA ?hz_z0 ?hz_z1 ?hz_z2 ?hz_z3 ?_); (case hz_B => k_asm); (case hz_F => k_asm); (case hz_X => k_asm); (case hz_T => k_asm); (case hz_K => first | exact rfl | assumption); (case hz_N => k_asm); (case hz_d => k_dflt (exact Nat.le_of_ble_eq_true rfl)); (case hz_u => k_dflt (exact Nat.le_of_ble_eq_true rfl)); (case hz_S => k_dflt (exact nsub_LawX)); (case hz_hA => k_dflt (exact News.isList (by k_asm) (by k_mem))); (case hz_z0 => first | with_reducible assumption | exact leN (by with_reducible assumption) (by decide) | exact eqN (by with_reducible assumption) (by decide) | decide | exact geI (by with_reducible assumption) (by decide) | exact leI (by with_reducible assumption) (by decide) | exact ltLe (by with_reducible assumption) (by decide) | exact dropI (by with_reducible assumption) (by decide) | exact upI (by with_reducible assumption) (by decide) | exact pgeI (by with_reducible assumption) (by decide) | exact pleI (by with_reducible assumption) (by decide) | exact pge2I (by with_reducible assumption) (by decide) | exact self2I (by decide) | exact self1I (by decide) | exact self0I (by decide) | exact addgeI (by with_reducible assumption) (by decide) | exact addltI (by with_reducible assumption) (by decide) | exact addleI (by with_reducible assumption) (by decide) | exact ge2I (by with_reducible assumption) (by with_reducible assumption) (by decide) | exact ge2pI (by with_reducible assumption) (by with_reducible assumption) (by decide) | exact bdA (by with_reducible assumption) (by decide) | exact bdB (by with_reducible assumption) (by with_reducible assumption) (by decide) | exact bdC (by with_reducible assumption) (by with_reducible assumption) (by decide) | exact bdD (by with_reducible assumption) (by with_reducible assumption) (by with_reducible assumption) (by decide) (by decide) | exact bdE (by with_reducible assumption) (by with_reducible assumption) (by with_reducible assumption) (by with_reducible assumption) (by decide) (by decide) | exact bdF (by with_reducible assumption) (by with_reducible assumption) (by with_reducible assumption) (by with_reducible assumption) (by decide) (by decide) | exact natPos (by with_reducible assumption) | exact natLe (by with_reducible assumption) (by decide) | exact hbI (by with_reducible assumption) (by with_reducible assumption) (by with_reducible assumption) (by decide) | omega); (case hz_z1 => first | with_reducible assumption | exact leN (by with_reducible assumption) (by decide) | exact eqN (by with_reducible assumption) (by decide) | decide | exact geI (by with_reducible assumption) (by decide) | exact leI (by with_reducible assumption) (by decide) | exact ltLe (by with_reducible assumption) (by decide) | exact dropI (by with_reducible assumption) (by decide) | exact upI (by with_reducible assumption) (by decide) | exact pgeI (by with_reducible assumption) (by decide) | exact pleI (by with_reducible assumption) (by decide) | exact pge2I (by with_reducible assumption) (by decide) | exact self2I (by decide) | exact self1I (by decide) | exact self0I (by decide) | exact addgeI (by with_reducible assumption) (by decide) | exact addltI (by with_reducible assumption) (by decide) | exact addleI (by with_reducible assumption) (by decide) | exact ge2I (by with_reducible assumption) (by with_reducible assumption) (by decide) | exact ge2pI (by with_reducible assumption) (by with_reducible assumption) (by decide) | exact bdA (by with_reducible assumption) (by decide) | exact bdB (by with_reducible assumption) (by with_reducible assumption) (by decide) | exact bdC (by with_reducible assumption) (by with_reducible assumption) (by decide) | exact bdD (by with_reducible assumption) (by with_reducible assumption) (by with_reducible assumption) (by decide) (by decide) | exact bdE (by with_reducible assumption) (by with_reducible assumption) (by with_reducible assumption) (by with_reducible assumption) (by decide) (by decide) | exact bdF (by with_reducible assumption) (by with_reducible assumption) (by with_reducible assumption) (by with_reducible assumption) (by decide) (by decide) | exact natPos (by with_reducible assumption) | exact natLe (by with_reducible assumption) (by decide) | exact hbI (by with_reducible assumption) (by with_reducible assumption) (by with_reducible assumption) (by decide) | omega); (case hz_z2 => first | with_reducible assumption | exact leN (by with_reducible assumption) (by decide) | exact eqN (by with_reducible assumption) (by decide) | exact leN3 (by with_reducible assumption) (by with_reducible assumption) (by with_reducible assumption) (by decide) | exact lenA (by with_reducible assumption) (by with_reducible assumption) (by decide) | exact lenB (by with_reducible assumption) (by with_reducible assumption) (by decide) | exact sizeB (by with_reducible assumption) (by with_reducible assumption) (by with_reducible assumption) (by decide) | exact tnA (by with_reducible assumption) (by decide) | exact tnB (by with_reducible assumption) (by decide) | exact posNat (by with_reducible assumption) | exact eq0 (by with_reducible assumption) | omega); (case hz_z3 => first | with_reducible assumption | exact leN (by with_reducible assumption) (by decide) | exact eqN (by with_reducible assumption) (by decide) | exact leN3 (by with_reducible assumption) (by with_reducible assumption) (by with_reducible assumption) (by decide) | exact lenA (by with_reducible assumption) (by with_reducible assumption) (by decide) | exact lenB (by with_reducible assumption) (by with_reducible assumption) (by decide) | exact sizeB (by with_reducible assumption) (by with_reducible assumption) (by with_reducible assumption) (by decide) | exact tnA (by with_reducible assumption) (by decide) | exact tnB (by with_reducible assumption) (by decide) | exact posNat (by with_reducible assumption) | exact eq0 (by with_reducible assumption) | (rw [oct_size]; decide) | omega); intro D' vs' n' h' k' st' hD' Ky' fr'; (rename LF _ _ _ _ _ _ _ _ _ _ => Lf); (have nE' := fresh_ne_E Lf (by k_asm) (by k_dflt k_mem) fr'); (have F' := Fr.stay (by k_asm) st'); (have N' := News.fresh_cons (by k_asm) (by k_asm) st' hD' fr'); (try k_sweep); (try (refine keepP ?_)); (try dsimp only); (try k_fold))
    | with_reducible ( (with_reducible show wpAny _ _ (subscriptTail _ _ (Value.ref _) (Value.ref _)) _ _ _); k_dflt (refine' get_D ?hz_hu ?hz_hk ?hz_ho ?hz_D ?hz_ks ?hz_hp ?_ ?hz_a ?hz_b; (case hz_a => with_unfolding_all rfl); (case hz_b => intro _; with_unfolding_all rfl); (case hz_hp => with_reducible assumption); (case hz_hk => first | with_reducible assumption | exact tupB_key (News.get (by k_asm) (by k_mem))); (case hz_ho => exact News.get (by k_asm) (by k_mem)); (case hz_D => with_reducible assumption); (case hz_hu => exact Nat.le_of_ble_eq_true rfl); (case hz_ks => exact keys_at (by with_reducible assumption) (tups_at (by k_asm) (by (intro q hq; repeat (first | exact hq | exact List.mem_append_left _ hq | exact List.mem_append_right _ hq | refine List.mem_cons_of_mem _ ?_)))))); intro _; (try dsimp only))
    | with_reducible ((with_reducible show MapPost _ _ _ _ _ _ _ _); (k_dflt (refine' MapPost.intro ?hz_F ?hz_N); (case hz_F => k_asm); (case hz_N => k_asm)))
    | with_reducible ((with_reducible show LCg.CompSrc _ _ _ _ _ _ _ _ _ _ _ _ _ _); ( (rename CallsAre _ _ _ _ => Ca); (rename Chain _ _ _ _ _ _ _ _ => Ch); k_dflt (refine' LCg.CompSrc.ledger ?hz_hh ?hz_F ?hz_N ?hz_M ?hz_z ?_; (case hz_hh => rfl); (case hz_F => k_asm); (case hz_N => k_asm); (case hz_M => k_mem); (case hz_z => (rw [PySem.sizeLine_eq]; (first | with_reducible assumption | exact leN (by with_reducible assumption) (by decide) | exact eqN (by with_reducible assumption) (by decide) | exact leN3 (by with_reducible assumption) (by with_reducible assumption) (by with_reducible assumption) (by decide) | exact lenA (by with_reducible assumption) (by with_reducible assumption) (by decide) | exact lenB (by with_reducible assumption) (by with_reducible assumption) (by decide) | exact sizeB (by with_reducible assumption) (by with_reducible assumption) (by with_reducible assumption) (by decide) | exact tnA (by with_reducible assumption) (by decide) | exact tnB (by with_reducible assumption) (by decide) | exact posNat (by with_reducible assumption) | exact eq0 (by with_reducible assumption) | omega)))); intro g'; k_dflt (refine' known_comp Ca Ch ?hz_S ?hz_t ?hz_z ?_ ?_; (case hz_S => exact SrcAt.led (by k_mem)); (case hz_t => (intro q hq; repeat (first | exact hq | exact List.mem_append_left _ hq | exact List.mem_append_right _ hq | refine List.mem_cons_of_mem _ ?_))); (case hz_z => with_reducible assumption)); (intro i D k p I oI C oC Dl m₂ h' tk' E' ys hk' hp' hC' hx' F' N'; (try dsimp only at N'); (try dsimp only); (try k_sweep))))
    | with_reducible ((with_reducible show LCg.FinE _ _ _ _ _ _ _); ((unfold LCg.FinE); intro D' h' tk' F' N' o1'; (try dsimp only at o1'); (try simp only [List.nil_append, List.cons_append] at N'); (try dsimp only)))
    | with_reducible ( (with_reducible show wpAny _ _ (call (Value.ref 165) [Value.int _ _]) _ _ _); k_dflt (refine' octets (Cx.law ?hz_B ?hz_F ?hz_X ?hz_T ?hz_K ?hz_d ?hz_u ?hz_N ?hz_S) ?hz_z ?hz_z' ?_); (case hz_B => k_asm); (case hz_F => k_asm); (case hz_X => k_asm); (case hz_T => k_asm); (case hz_K => first | exact rfl | assumption); (case hz_N => k_asm); (case hz_d => k_dflt (exact Nat.le_of_ble_eq_true rfl)); (case hz_u => k_dflt (exact Nat.le_of_ble_eq_true rfl)); (case hz_S => k_dflt (exact nsub_LawX)); (case hz_z => with_reducible assumption); (case hz_z' => with_reducible assumption); intro _ h' _ st'; (have F' := Fr.stay (by k_asm) st'); (have N' := News.stay (by k_asm) st'); (try k_sweep); (try (refine keepP ?_)); (try dsimp only); (try k_fold))
    | with_reducible ((with_reducible refine' modN ?_); intro v _ _ hv h0 h1; (have zv := szN h0 h1); subst hv; (try dsimp only))
    | with_reducible ( (with_reducible show wpAny _ _ (call (Value.ref _) [Value.bytes _ _, Value.str _ _]) _ _ _); kfb_any; k_dflt (refine' from_bytes_call ?hz_kfbN ?hz_kfbM ?hz_kfbS ?_; (case hz_kfbN => k_asm); (case hz_kfbM => k_mem); (case hz_kfbS => first | with_reducible assumption | exact leN (by with_reducible assumption) (by decide) | exact eqN (by with_reducible assumption) (by decide) | exact leN3 (by with_reducible assumption) (by with_reducible assumption) (by with_reducible assumption) (by decide) | exact lenA (by with_reducible assumption) (by with_reducible assumption) (by decide) | exact lenB (by with_reducible assumption) (by with_reducible assumption) (by decide) | exact sizeB (by with_reducible assumption) (by with_reducible assumption) (by with_reducible assumption) (by decide) | exact tnA (by with_reducible assumption) (by decide) | exact tnB (by with_reducible assumption) (by decide) | exact posNat (by with_reducible assumption) | exact eq0 (by with_reducible assumption) | omega)); intro _ _; (try dsimp only))
    | with_reducible ( (with_reducible show wpAny _ _ (call (Value.builtin _) [Value.ref _]) _ _ _); k_dflt (refine' len5 ?hz_N ?hz_M ?hz_z ?_; (case hz_N => k_asm); (case hz_M => k_mem); (case hz_z => with_reducible assumption)); intro _ _; (try dsimp only))
    | with_reducible ( (with_reducible show wpAny _ _ (call (Value.ref 151) [Value.bytes _ _, Value.bytes _ _, Value.ref _]) _ _ _); (rename LF _ _ _ _ _ _ _ _ _ _ => Lf); (rename TurnI _ _ _ _ _ _ _ _ _ _ _ => Ti); (rename MR.Ok _ => Kr); k_dflt (refine' sign_rule2 (pre := [_, _, _, _, _, _, _, _]) Lf Ti (Cx.law ?hz_B ?hz_F ?hz_X ?hz_T ?hz_K ?hz_d ?hz_u ?hz_N ?hz_S) ?hz_F2 ?hz_N2 Kr ?hz_hx ?hz_hm ?hz_hs ?hz_hp ?hz_pB ?hz_pE ?hz_pI ?_); (case hz_B => k_asm); (case hz_F => k_asm); (case hz_X => k_asm); (case hz_T => k_asm); (case hz_K => first | exact rfl | assumption); (case hz_N => k_asm); (case hz_d => k_dflt (exact Nat.le_of_ble_eq_true rfl)); (case hz_u => k_dflt (exact Nat.le_of_ble_eq_true rfl)); (case hz_F2 => k_asm); (case hz_N2 => k_dflt k_asm); (case hz_S => k_dflt (exact fun q hq => List.mem_append_right [_, _, _, _, _, _, _, _] (List.mem_append_left _ hq))); (case hz_hx => first | with_reducible assumption | exact leN (by with_reducible assumption) (by decide) | exact eqN (by with_reducible assumption) (by decide) | exact leN3 (by with_reducible assumption) (by with_reducible assumption) (by with_reducible assumption) (by decide) | exact lenA (by with_reducible assumption) (by with_reducible assumption) (by decide) | exact lenB (by with_reducible assumption) (by with_reducible assumption) (by decide) | exact sizeB (by with_reducible assumption) (by with_reducible assumption) (by with_reducible assumption) (by decide) | exact tnA (by with_reducible assumption) (by decide) | exact tnB (by with_reducible assumption) (by decide) | exact posNat (by with_reducible assumption) | exact eq0 (by with_reducible assumption) | omega); (case hz_hm => with_reducible assumption); (case hz_hs => with_reducible assumption); (case hz_hp => ((repeat (k_dflt (refine' pairs_cons ?_ ?_ ?_))); all_goals (first | exact pairs_nil | k_ne))); (case hz_pB => k_dflt k_mem); (case hz_pE => k_dflt k_mem); (case hz_pI => k_dflt k_mem); intro a0 a1' a2 a3 a4 D' t1' t2' t3' cD' h' k' sg' Ch' Mw' Ca' z5' mo' Gr' cs5' Ti' F' N' tB' tE' tI' tC' nB' nE' nI' nC' nK'; (have Dk' := Mw'.dict); (have Kk' := Mw'.keys); (have De' := Lf.d); (have Ke' := Lf.ek); (have y0' := valOf_size Mw' (Chain.h0 Ch')); (have y1' := valOf_size Mw' (Chain.h1 Ch')); dsimp only [List.cons_append, List.nil_append, MR.own] at N'; (try k_sweep); (try (refine keepP ?_)); (try dsimp only); (try k_fold))
    | with_reducible ((with_reducible show PopOut _ _ _ _ _ _ _ _); (k_dflt (refine' PopOut.intro ?hz_F ?hz_N ?hz_e); (case hz_F => k_asm); (case hz_N => k_asm); (case hz_e => first | with_reducible assumption | exact leN (by with_reducible assumption) (by decide) | exact eqN (by with_reducible assumption) (by decide) | exact leN3 (by with_reducible assumption) (by with_reducible assumption) (by with_reducible assumption) (by decide) | exact lenA (by with_reducible assumption) (by with_reducible assumption) (by decide) | exact lenB (by with_reducible assumption) (by with_reducible assumption) (by decide) | exact sizeB (by with_reducible assumption) (by with_reducible assumption) (by with_reducible assumption) (by decide) | exact tnA (by with_reducible assumption) (by decide) | exact tnB (by with_reducible assumption) (by decide) | exact posNat (by with_reducible assumption) | exact eq0 (by with_reducible assumption) | omega)))
    | with_reducible ((with_reducible show PopEnd _ _ _ _ _ _ _ _ _); (k_dflt (refine' PopEnd.intro ?hz_F ?hz_N ?hz_k); (case hz_F => k_asm); (case hz_N => k_asm); (case hz_k => first | with_reducible assumption | exact leN (by with_reducible assumption) (by decide) | exact eqN (by with_reducible assumption) (by decide) | exact leN3 (by with_reducible assumption) (by with_reducible assumption) (by with_reducible assumption) (by decide) | exact lenA (by with_reducible assumption) (by with_reducible assumption) (by decide) | exact lenB (by with_reducible assumption) (by with_reducible assumption) (by decide) | exact sizeB (by with_reducible assumption) (by with_reducible assumption) (by with_reducible assumption) (by decide) | exact tnA (by with_reducible assumption) (by decide) | exact tnB (by with_reducible assumption) (by decide) | exact posNat (by with_reducible assumption) | exact eq0 (by with_reducible assumption) | omega)))
    | with_reducible ( (with_reducible show wpAny _ _ (call (Value.builtin _) [Value.ref _]) _ _ _); (rename CallsAt _ => zC); k_dflt (refine' popN ?hz_F ?hz_N ?hz_U ?hz_p ?hz_z ?_; (case hz_F => k_asm); (case hz_N => k_asm); (case hz_U => k_updF); (case hz_p => first | with_reducible assumption | exact leN (by with_reducible assumption) (by decide) | exact eqN (by with_reducible assumption) (by decide) | exact leN3 (by with_reducible assumption) (by with_reducible assumption) (by with_reducible assumption) (by decide) | exact lenA (by with_reducible assumption) (by with_reducible assumption) (by decide) | exact lenB (by with_reducible assumption) (by with_reducible assumption) (by decide) | exact sizeB (by with_reducible assumption) (by with_reducible assumption) (by with_reducible assumption) (by decide) | exact tnA (by with_reducible assumption) (by decide) | exact tnB (by with_reducible assumption) (by decide) | exact posNat (by with_reducible assumption) | exact eq0 (by with_reducible assumption) | omega); (case hz_z => first | with_reducible assumption | exact leN (by with_reducible assumption) (by decide) | exact eqN (by with_reducible assumption) (by decide) | exact leN3 (by with_reducible assumption) (by with_reducible assumption) (by with_reducible assumption) (by decide) | exact lenA (by with_reducible assumption) (by with_reducible assumption) (by decide) | exact lenB (by with_reducible assumption) (by with_reducible assumption) (by decide) | exact sizeB (by with_reducible assumption) (by with_reducible assumption) (by with_reducible assumption) (by decide) | exact tnA (by with_reducible assumption) (by decide) | exact tnB (by with_reducible assumption) (by decide) | exact posNat (by with_reducible assumption) | exact eq0 (by with_reducible assumption) | omega)); intro y' h' its' hp' F' N'; (try dsimp only at N'); (try k_sweep); (try dsimp only))
    | with_reducible ((with_reducible show wpAny _ _ (exec (Stmt.While _ _ _ _) _) _ _ _); ( (rename CallsAt _ => zC); k_dflt (refine' calls_loop zC ?hz_F ?hz_N ?hz_M ?hz_U ?hz_z ?_ ?_ ?hz_hE); (case hz_F => k_asm); (case hz_N => k_asm); (case hz_M => k_dflt k_mem); (case hz_U => k_updF); (case hz_z => first | with_reducible assumption | exact leN (by with_reducible assumption) (by decide) | exact eqN (by with_reducible assumption) (by decide) | exact leN3 (by with_reducible assumption) (by with_reducible assumption) (by with_reducible assumption) (by decide) | exact lenA (by with_reducible assumption) (by with_reducible assumption) (by decide) | exact lenB (by with_reducible assumption) (by with_reducible assumption) (by decide) | exact sizeB (by with_reducible assumption) (by with_reducible assumption) (by with_reducible assumption) (by decide) | exact tnA (by with_reducible assumption) (by decide) | exact tnB (by with_reducible assumption) (by decide) | exact posNat (by with_reducible assumption) | exact eq0 (by with_reducible assumption) | omega); (case hz_hE => first | assumption | k_dflt passes_own); (intro its' c' h' tk' hz' F' N'; (try dsimp only at N'); (try k_sweep)); rotate_left; (intro c' h' tk' F' N'; (try dsimp only at N'); (try k_sweep)); rotate_right))
    | with_reducible ( (with_reducible show wpAny _ _ (subscriptTail _ _ (Value.ref _) (Value.int _ _)) _ _ _); k_dflt (refine' item32 ?hz_N ?hz_M ?hz_G ?hz_h0 ?hz_h1 ?hz_z ?_ ?hz_a ?hz_b; (case hz_a => with_unfolding_all rfl); (case hz_b => intro _; with_unfolding_all rfl); (case hz_N => k_asm); (case hz_M => k_mem); (case hz_G => with_reducible assumption); (case hz_h0 => first | with_reducible assumption | decide | exact geI (by with_reducible assumption) (by decide) | exact leI (by with_reducible assumption) (by decide) | exact ltLe (by with_reducible assumption) (by decide) | exact dropI (by with_reducible assumption) (by decide) | exact upI (by with_reducible assumption) (by decide) | exact pgeI (by with_reducible assumption) (by decide) | exact pleI (by with_reducible assumption) (by decide) | exact pge2I (by with_reducible assumption) (by decide) | exact self2I (by decide) | exact self1I (by decide) | exact self0I (by decide) | exact addgeI (by with_reducible assumption) (by decide) | exact addltI (by with_reducible assumption) (by decide) | exact addleI (by with_reducible assumption) (by decide) | exact ge2I (by with_reducible assumption) (by with_reducible assumption) (by decide) | exact ge2pI (by with_reducible assumption) (by with_reducible assumption) (by decide) | exact bdA (by with_reducible assumption) (by decide) | exact bdB (by with_reducible assumption) (by with_reducible assumption) (by decide) | exact bdC (by with_reducible assumption) (by with_reducible assumption) (by decide) | exact bdD (by with_reducible assumption) (by with_reducible assumption) (by with_reducible assumption) (by decide) (by decide) | exact bdE (by with_reducible assumption) (by with_reducible assumption) (by with_reducible assumption) (by with_reducible assumption) (by decide) (by decide) | exact bdF (by with_reducible assumption) (by with_reducible assumption) (by with_reducible assumption) (by with_reducible assumption) (by decide) (by decide) | exact natPos (by with_reducible assumption) | exact natLe (by with_reducible assumption) (by decide) | exact hbI (by with_reducible assumption) (by with_reducible assumption) (by with_reducible assumption) (by decide) | omega); (case hz_h1 => first | with_reducible assumption | decide | exact geI (by with_reducible assumption) (by decide) | exact leI (by with_reducible assumption) (by decide) | exact ltLe (by with_reducible assumption) (by decide) | exact dropI (by with_reducible assumption) (by decide) | exact upI (by with_reducible assumption) (by decide) | exact pgeI (by with_reducible assumption) (by decide) | exact pleI (by with_reducible assumption) (by decide) | exact pge2I (by with_reducible assumption) (by decide) | exact self2I (by decide) | exact self1I (by decide) | exact self0I (by decide) | exact addgeI (by with_reducible assumption) (by decide) | exact addltI (by with_reducible assumption) (by decide) | exact addleI (by with_reducible assumption) (by decide) | exact ge2I (by with_reducible assumption) (by with_reducible assumption) (by decide) | exact ge2pI (by with_reducible assumption) (by with_reducible assumption) (by decide) | exact bdA (by with_reducible assumption) (by decide) | exact bdB (by with_reducible assumption) (by with_reducible assumption) (by decide) | exact bdC (by with_reducible assumption) (by with_reducible assumption) (by decide) | exact bdD (by with_reducible assumption) (by with_reducible assumption) (by with_reducible assumption) (by decide) (by decide) | exact bdE (by with_reducible assumption) (by with_reducible assumption) (by with_reducible assumption) (by with_reducible assumption) (by decide) (by decide) | exact bdF (by with_reducible assumption) (by with_reducible assumption) (by with_reducible assumption) (by with_reducible assumption) (by decide) (by decide) | exact natPos (by with_reducible assumption) | exact natLe (by with_reducible assumption) (by decide) | exact hbI (by with_reducible assumption) (by with_reducible assumption) (by with_reducible assumption) (by decide) | omega); (case hz_z => first | with_reducible assumption | exact leN (by with_reducible assumption) (by decide) | exact eqN (by with_reducible assumption) (by decide) | exact leN3 (by with_reducible assumption) (by with_reducible assumption) (by with_reducible assumption) (by decide) | exact lenA (by with_reducible assumption) (by with_reducible assumption) (by decide) | exact lenB (by with_reducible assumption) (by with_reducible assumption) (by decide) | exact sizeB (by with_reducible assumption) (by with_reducible assumption) (by with_reducible assumption) (by decide) | exact tnA (by with_reducible assumption) (by decide) | exact tnB (by with_reducible assumption) (by decide) | exact posNat (by with_reducible assumption) | exact eq0 (by with_reducible assumption) | omega)); intro b' _ hb'; (try dsimp only))
    | with_reducible ((with_reducible show wpAny _ _ (call (Value.builtin _) [Value.ref _]) _ _ _); k_dflt (refine' lenL ?hz_N ?hz_M ?hz_z ?_; (case hz_N => k_asm); (case hz_M => k_mem); (case hz_z => first | with_reducible assumption | exact leN (by with_reducible assumption) (by decide) | exact eqN (by with_reducible assumption) (by decide) | exact leN3 (by with_reducible assumption) (by with_reducible assumption) (by with_reducible assumption) (by decide) | exact lenA (by with_reducible assumption) (by with_reducible assumption) (by decide) | exact lenB (by with_reducible assumption) (by with_reducible assumption) (by decide) | exact sizeB (by with_reducible assumption) (by with_reducible assumption) (by with_reducible assumption) (by decide) | exact tnA (by with_reducible assumption) (by decide) | exact tnB (by with_reducible assumption) (by decide) | exact posNat (by with_reducible assumption) | exact eq0 (by with_reducible assumption) | omega)); intro _ _; (try dsimp only))
    | with_reducible ((with_reducible show wpAny _ _ (call (Value.builtin _) [Value.ref _]) _ _ _); k_dflt (refine' lenN ?hz_N ?hz_M ?hz_z ?_; (case hz_N => k_asm); (case hz_M => k_mem); (case hz_z => first | with_reducible assumption | exact leN (by with_reducible assumption) (by decide) | exact eqN (by with_reducible assumption) (by decide) | exact leN3 (by with_reducible assumption) (by with_reducible assumption) (by with_reducible assumption) (by decide) | exact lenA (by with_reducible assumption) (by with_reducible assumption) (by decide) | exact lenB (by with_reducible assumption) (by with_reducible assumption) (by decide) | exact sizeB (by with_reducible assumption) (by with_reducible assumption) (by with_reducible assumption) (by decide) | exact tnA (by with_reducible assumption) (by decide) | exact tnB (by with_reducible assumption) (by decide) | exact posNat (by with_reducible assumption) | exact eq0 (by with_reducible assumption) | omega)); intro _ _; (try dsimp only))
    | with_reducible ((with_reducible show IsB32 _); (exact ⟨_, _, rfl, by assumption⟩))
    | ((with_reducible show IsB32 _); (exact ⟨_, _, rfl, by assumption⟩))
    | with_reducible ((with_reducible show BoxPost _ _ _ _ _ _ _ _ _ _ _ _ _ _ _ _ _ _ _); ( k_dflt (refine' BoxPost.intro ?hz_F ?hz_N ?hz_a ?hz_b ?_); (case hz_F => k_asm); (case hz_N => k_asm); (case hz_a => first | with_reducible assumption | decide | exact geI (by with_reducible assumption) (by decide) | exact leI (by with_reducible assumption) (by decide) | exact ltLe (by with_reducible assumption) (by decide) | exact dropI (by with_reducible assumption) (by decide) | exact upI (by with_reducible assumption) (by decide) | exact pgeI (by with_reducible assumption) (by decide) | exact pleI (by with_reducible assumption) (by decide) | exact pge2I (by with_reducible assumption) (by decide) | exact self2I (by decide) | exact self1I (by decide) | exact self0I (by decide) | exact addgeI (by with_reducible assumption) (by decide) | exact addltI (by with_reducible assumption) (by decide) | exact addleI (by with_reducible assumption) (by decide) | exact ge2I (by with_reducible assumption) (by with_reducible assumption) (by decide) | exact ge2pI (by with_reducible assumption) (by with_reducible assumption) (by decide) | exact bdA (by with_reducible assumption) (by decide) | exact bdB (by with_reducible assumption) (by with_reducible assumption) (by decide) | exact bdC (by with_reducible assumption) (by with_reducible assumption) (by decide) | exact bdD (by with_reducible assumption) (by with_reducible assumption) (by with_reducible assumption) (by decide) (by decide) | exact bdE (by with_reducible assumption) (by with_reducible assumption) (by with_reducible assumption) (by with_reducible assumption) (by decide) (by decide) | exact bdF (by with_reducible assumption) (by with_reducible assumption) (by with_reducible assumption) (by with_reducible assumption) (by decide) (by decide) | exact natPos (by with_reducible assumption) | exact natLe (by with_reducible assumption) (by decide) | exact hbI (by with_reducible assumption) (by with_reducible assumption) (by with_reducible assumption) (by decide) | omega); (case hz_b => first | with_reducible assumption | decide | exact geI (by with_reducible assumption) (by decide) | exact leI (by with_reducible assumption) (by decide) | exact ltLe (by with_reducible assumption) (by decide) | exact dropI (by with_reducible assumption) (by decide) | exact upI (by with_reducible assumption) (by decide) | exact pgeI (by with_reducible assumption) (by decide) | exact pleI (by with_reducible assumption) (by decide) | exact pge2I (by with_reducible assumption) (by decide) | exact self2I (by decide) | exact self1I (by decide) | exact self0I (by decide) | exact addgeI (by with_reducible assumption) (by decide) | exact addltI (by with_reducible assumption) (by decide) | exact addleI (by with_reducible assumption) (by decide) | exact ge2I (by with_reducible assumption) (by with_reducible assumption) (by decide) | exact ge2pI (by with_reducible assumption) (by with_reducible assumption) (by decide) | exact bdA (by with_reducible assumption) (by decide) | exact bdB (by with_reducible assumption) (by with_reducible assumption) (by decide) | exact bdC (by with_reducible assumption) (by with_reducible assumption) (by decide) | exact bdD (by with_reducible assumption) (by with_reducible assumption) (by with_reducible assumption) (by decide) (by decide) | exact bdE (by with_reducible assumption) (by with_reducible assumption) (by with_reducible assumption) (by with_reducible assumption) (by decide) (by decide) | exact bdF (by with_reducible assumption) (by with_reducible assumption) (by with_reducible assumption) (by with_reducible assumption) (by decide) (by decide) | exact natPos (by with_reducible assumption) | exact natLe (by with_reducible assumption) (by decide) | exact hbI (by with_reducible assumption) (by with_reducible assumption) (by with_reducible assumption) (by decide) | omega)))
    | with_reducible ((with_reducible show LCg.CompSrc _ _ _ _ _ _ _ _ _ _ _ _ _ _); ( (fail_if_success (rename LCg.Off1 _ _ => z)); k_dflt (refine LCg.CompSrc.range (by rfl) (by k_asm) (by k_asm) (by with_reducible assumption) (small_one (by first | decide | exact geI (by with_reducible assumption) (by decide) | exact ltI (by with_reducible assumption) (by decide) | exact addgeI (by with_reducible assumption) (by decide) | exact addltI (by with_reducible assumption) (by decide) | omega) (by first | decide | exact geI (by with_reducible assumption) (by decide) | exact ltI (by with_reducible assumption) (by decide) | exact addgeI (by with_reducible assumption) (by decide) | exact addltI (by with_reducible assumption) (by decide) | omega) (by first | decide | exact geI (by with_reducible assumption) (by decide) | exact ltI (by with_reducible assumption) (by decide) | exact addgeI (by with_reducible assumption) (by decide) | exact addltI (by with_reducible assumption) (by decide) | omega) (by first | decide | exact geI (by with_reducible assumption) (by decide) | exact ltI (by with_reducible assumption) (by decide) | exact addgeI (by with_reducible assumption) (by decide) | exact addltI (by with_reducible assumption) (by decide) | omega)) (rangeSize_nat _ _) (by rw [PySem.sizeLine_eq]; (first | with_reducible assumption | exact leN (by with_reducible assumption) (by decide) | exact eqN (by with_reducible assumption) (by decide) | exact leN3 (by with_reducible assumption) (by with_reducible assumption) (by with_reducible assumption) (by decide) | exact lenA (by with_reducible assumption) (by with_reducible assumption) (by decide) | exact lenB (by with_reducible assumption) (by with_reducible assumption) (by decide) | exact sizeB (by with_reducible assumption) (by with_reducible assumption) (by with_reducible assumption) (by decide) | exact tnA (by with_reducible assumption) (by decide) | exact tnB (by with_reducible assumption) (by decide) | exact posNat (by with_reducible assumption) | exact eq0 (by with_reducible assumption) | omega)) ?_); intro g'; k_dflt (refine' boxCompB ?hz_M ?hz_U IsB32 _ 40 (by decide) ?hz_L0 ?hz_B0 ?_ ?_); (case hz_M => k_dflt k_mem); (case hz_U => k_updF); (case hz_L0 => first | with_reducible assumption | decide | exact geI (by with_reducible assumption) (by decide) | exact leI (by with_reducible assumption) (by decide) | exact ltLe (by with_reducible assumption) (by decide) | exact dropI (by with_reducible assumption) (by decide) | exact upI (by with_reducible assumption) (by decide) | exact pgeI (by with_reducible assumption) (by decide) | exact pleI (by with_reducible assumption) (by decide) | exact pge2I (by with_reducible assumption) (by decide) | exact self2I (by decide) | exact self1I (by decide) | exact self0I (by decide) | exact addgeI (by with_reducible assumption) (by decide) | exact addltI (by with_reducible assumption) (by decide) | exact addleI (by with_reducible assumption) (by decide) | exact ge2I (by with_reducible assumption) (by with_reducible assumption) (by decide) | exact ge2pI (by with_reducible assumption) (by with_reducible assumption) (by decide) | exact bdA (by with_reducible assumption) (by decide) | exact bdB (by with_reducible assumption) (by with_reducible assumption) (by decide) | exact bdC (by with_reducible assumption) (by with_reducible assumption) (by decide) | exact bdD (by with_reducible assumption) (by with_reducible assumption) (by with_reducible assumption) (by decide) (by decide) | exact bdE (by with_reducible assumption) (by with_reducible assumption) (by with_reducible assumption) (by with_reducible assumption) (by decide) (by decide) | exact bdF (by with_reducible assumption) (by with_reducible assumption) (by with_reducible assumption) (by with_reducible assumption) (by decide) (by decide) | exact natPos (by with_reducible assumption) | exact natLe (by with_reducible assumption) (by decide) | exact hbI (by with_reducible assumption) (by with_reducible assumption) (by with_reducible assumption) (by decide) | omega); (case hz_B0 => first | with_reducible assumption | decide | exact geI (by with_reducible assumption) (by decide) | exact leI (by with_reducible assumption) (by decide) | exact ltLe (by with_reducible assumption) (by decide) | exact dropI (by with_reducible assumption) (by decide) | exact upI (by with_reducible assumption) (by decide) | exact pgeI (by with_reducible assumption) (by decide) | exact pleI (by with_reducible assumption) (by decide) | exact pge2I (by with_reducible assumption) (by decide) | exact self2I (by decide) | exact self1I (by decide) | exact self0I (by decide) | exact addgeI (by with_reducible assumption) (by decide) | exact addltI (by with_reducible assumption) (by decide) | exact addleI (by with_reducible assumption) (by decide) | exact ge2I (by with_reducible assumption) (by with_reducible assumption) (by decide) | exact ge2pI (by with_reducible assumption) (by with_reducible assumption) (by decide) | exact bdA (by with_reducible assumption) (by decide) | exact bdB (by with_reducible assumption) (by with_reducible assumption) (by decide) | exact bdC (by with_reducible assumption) (by with_reducible assumption) (by decide) | exact bdD (by with_reducible assumption) (by with_reducible assumption) (by with_reducible assumption) (by decide) (by decide) | exact bdE (by with_reducible assumption) (by with_reducible assumption) (by with_reducible assumption) (by with_reducible assumption) (by decide) (by decide) | exact bdF (by with_reducible assumption) (by with_reducible assumption) (by with_reducible assumption) (by with_reducible assumption) (by decide) (by decide) | exact natPos (by with_reducible assumption) | exact natLe (by with_reducible assumption) (by decide) | exact hbI (by with_reducible assumption) (by with_reducible assumption) (by with_reducible assumption) (by decide) | omega); (try (intro i v I oI C oC D m₂ h tk E' ys at' t hP h0 h1 hC hx F' N' b1 b2 b3; (have hP' := hP); obtain ⟨tv, hv⟩ := hP'; subst hv; clear hP; (try dsimp only at N'); (try dsimp only); (try k_sweep)))))
    | with_reducible ((with_reducible show LCg.CompSrc _ _ _ _ _ _ _ _ _ _ _ _ _ _); ( k_dflt (refine LCg.CompSrc.range (by rfl) (by k_asm) (by k_asm) (by with_reducible assumption) (small_one (by first | decide | exact geI (by with_reducible assumption) (by decide) | exact ltI (by with_reducible assumption) (by decide) | exact addgeI (by with_reducible assumption) (by decide) | exact addltI (by with_reducible assumption) (by decide) | omega) (by first | decide | exact geI (by with_reducible assumption) (by decide) | exact ltI (by with_reducible assumption) (by decide) | exact addgeI (by with_reducible assumption) (by decide) | exact addltI (by with_reducible assumption) (by decide) | omega) (by first | decide | exact geI (by with_reducible assumption) (by decide) | exact ltI (by with_reducible assumption) (by decide) | exact addgeI (by with_reducible assumption) (by decide) | exact addltI (by with_reducible assumption) (by decide) | omega) (by first | decide | exact geI (by with_reducible assumption) (by decide) | exact ltI (by with_reducible assumption) (by decide) | exact addgeI (by with_reducible assumption) (by decide) | exact addltI (by with_reducible assumption) (by decide) | omega)) (rangeSize_nat _ _) (by rw [PySem.sizeLine_eq]; (first | with_reducible assumption | exact leN (by with_reducible assumption) (by decide) | exact eqN (by with_reducible assumption) (by decide) | exact leN3 (by with_reducible assumption) (by with_reducible assumption) (by with_reducible assumption) (by decide) | exact lenA (by with_reducible assumption) (by with_reducible assumption) (by decide) | exact lenB (by with_reducible assumption) (by with_reducible assumption) (by decide) | exact sizeB (by with_reducible assumption) (by with_reducible assumption) (by with_reducible assumption) (by decide) | exact tnA (by with_reducible assumption) (by decide) | exact tnB (by with_reducible assumption) (by decide) | exact posNat (by with_reducible assumption) | exact eq0 (by with_reducible assumption) | omega)) ?_); intro g'; k_dflt (refine' boxCompB ?hz_M ?hz_U IsB32 _ 1300 (by decide) ?hz_L0 ?hz_B0 ?_ ?_); (case hz_M => k_dflt k_mem); (case hz_U => k_updF); (case hz_L0 => first | with_reducible assumption | decide | exact geI (by with_reducible assumption) (by decide) | exact leI (by with_reducible assumption) (by decide) | exact ltLe (by with_reducible assumption) (by decide) | exact dropI (by with_reducible assumption) (by decide) | exact upI (by with_reducible assumption) (by decide) | exact pgeI (by with_reducible assumption) (by decide) | exact pleI (by with_reducible assumption) (by decide) | exact pge2I (by with_reducible assumption) (by decide) | exact self2I (by decide) | exact self1I (by decide) | exact self0I (by decide) | exact addgeI (by with_reducible assumption) (by decide) | exact addltI (by with_reducible assumption) (by decide) | exact addleI (by with_reducible assumption) (by decide) | exact ge2I (by with_reducible assumption) (by with_reducible assumption) (by decide) | exact ge2pI (by with_reducible assumption) (by with_reducible assumption) (by decide) | exact bdA (by with_reducible assumption) (by decide) | exact bdB (by with_reducible assumption) (by with_reducible assumption) (by decide) | exact bdC (by with_reducible assumption) (by with_reducible assumption) (by decide) | exact bdD (by with_reducible assumption) (by with_reducible assumption) (by with_reducible assumption) (by decide) (by decide) | exact bdE (by with_reducible assumption) (by with_reducible assumption) (by with_reducible assumption) (by with_reducible assumption) (by decide) (by decide) | exact bdF (by with_reducible assumption) (by with_reducible assumption) (by with_reducible assumption) (by with_reducible assumption) (by decide) (by decide) | exact natPos (by with_reducible assumption) | exact natLe (by with_reducible assumption) (by decide) | exact hbI (by with_reducible assumption) (by with_reducible assumption) (by with_reducible assumption) (by decide) | omega); (case hz_B0 => first | with_reducible assumption | decide | exact geI (by with_reducible assumption) (by decide) | exact leI (by with_reducible assumption) (by decide) | exact ltLe (by with_reducible assumption) (by decide) | exact dropI (by with_reducible assumption) (by decide) | exact upI (by with_reducible assumption) (by decide) | exact pgeI (by with_reducible assumption) (by decide) | exact pleI (by with_reducible assumption) (by decide) | exact pge2I (by with_reducible assumption) (by decide) | exact self2I (by decide) | exact self1I (by decide) | exact self0I (by decide) | exact addgeI (by with_reducible assumption) (by decide) | exact addltI (by with_reducible assumption) (by decide) | exact addleI (by with_reducible assumption) (by decide) | exact ge2I (by with_reducible assumption) (by with_reducible assumption) (by decide) | exact ge2pI (by with_reducible assumption) (by with_reducible assumption) (by decide) | exact bdA (by with_reducible assumption) (by decide) | exact bdB (by with_reducible assumption) (by with_reducible assumption) (by decide) | exact bdC (by with_reducible assumption) (by with_reducible assumption) (by decide) | exact bdD (by with_reducible assumption) (by with_reducible assumption) (by with_reducible assumption) (by decide) (by decide) | exact bdE (by with_reducible assumption) (by with_reducible assumption) (by with_reducible assumption) (by with_reducible assumption) (by decide) (by decide) | exact bdF (by with_reducible assumption) (by with_reducible assumption) (by with_reducible assumption) (by with_reducible assumption) (by decide) (by decide) | exact natPos (by with_reducible assumption) | exact natLe (by with_reducible assumption) (by decide) | exact hbI (by with_reducible assumption) (by with_reducible assumption) (by with_reducible assumption) (by decide) | omega); (try (intro i v I oI C oC D m₂ h tk E' ys at' t hP h0 h1 hC hx F' N' b1 b2 b3; (have hP' := hP); obtain ⟨tv, hv⟩ := hP'; subst hv; clear hP; (try dsimp only at N'); (try dsimp only); (try k_sweep)))))
    | with_reducible ( (with_reducible show wpAny _ _ (call (Value.ref 177) [Value.ref _]) _ _ _); k_dflt (refine' hash (Cx.law ?hz_B ?hz_F ?hz_X ?hz_T ?hz_K ?hz_d ?hz_u ?hz_N ?hz_S) ?hz_R ?hz_a0 ?hz_a1 ?_); (case hz_B => k_asm); (case hz_F => k_asm); (case hz_X => k_asm); (case hz_T => k_asm); (case hz_K => first | exact rfl | assumption); (case hz_N => k_asm); (case hz_d => k_dflt (exact Nat.le_of_ble_eq_true rfl)); (case hz_u => k_dflt (exact Nat.le_of_ble_eq_true rfl)); (case hz_S => k_dflt (intro q hq; rw [List.mem_singleton] at hq; subst hq; k_mem)); (case hz_R => k_dflt (exact Rw.mk (by k_asm) (by k_mem) (by with_reducible assumption) (List.length_take_le _ _) (by k_ne))); (case hz_a0 => first | with_reducible assumption | decide | exact geI (by with_reducible assumption) (by decide) | exact leI (by with_reducible assumption) (by decide) | exact ltLe (by with_reducible assumption) (by decide) | exact dropI (by with_reducible assumption) (by decide) | exact upI (by with_reducible assumption) (by decide) | exact pgeI (by with_reducible assumption) (by decide) | exact pleI (by with_reducible assumption) (by decide) | exact pge2I (by with_reducible assumption) (by decide) | exact self2I (by decide) | exact self1I (by decide) | exact self0I (by decide) | exact addgeI (by with_reducible assumption) (by decide) | exact addltI (by with_reducible assumption) (by decide) | exact addleI (by with_reducible assumption) (by decide) | exact ge2I (by with_reducible assumption) (by with_reducible assumption) (by decide) | exact ge2pI (by with_reducible assumption) (by with_reducible assumption) (by decide) | exact bdA (by with_reducible assumption) (by decide) | exact bdB (by with_reducible assumption) (by with_reducible assumption) (by decide) | exact bdC (by with_reducible assumption) (by with_reducible assumption) (by decide) | exact bdD (by with_reducible assumption) (by with_reducible assumption) (by with_reducible assumption) (by decide) (by decide) | exact bdE (by with_reducible assumption) (by with_reducible assumption) (by with_reducible assumption) (by with_reducible assumption) (by decide) (by decide) | exact bdF (by with_reducible assumption) (by with_reducible assumption) (by with_reducible assumption) (by with_reducible assumption) (by decide) (by decide) | exact natPos (by with_reducible assumption) | exact natLe (by with_reducible assumption) (by decide) | exact hbI (by with_reducible assumption) (by with_reducible assumption) (by with_reducible assumption) (by decide) | omega); (case hz_a1 => first | with_reducible assumption | decide | exact geI (by with_reducible assumption) (by decide) | exact leI (by with_reducible assumption) (by decide) | exact ltLe (by with_reducible assumption) (by decide) | exact dropI (by with_reducible assumption) (by decide) | exact upI (by with_reducible assumption) (by decide) | exact pgeI (by with_reducible assumption) (by decide) | exact pleI (by with_reducible assumption) (by decide) | exact pge2I (by with_reducible assumption) (by decide) | exact self2I (by decide) | exact self1I (by decide) | exact self0I (by decide) | exact addgeI (by with_reducible assumption) (by decide) | exact addltI (by with_reducible assumption) (by decide) | exact addleI (by with_reducible assumption) (by decide) | exact ge2I (by with_reducible assumption) (by with_reducible assumption) (by decide) | exact ge2pI (by with_reducible assumption) (by with_reducible assumption) (by decide) | exact bdA (by with_reducible assumption) (by decide) | exact bdB (by with_reducible assumption) (by with_reducible assumption) (by decide) | exact bdC (by with_reducible assumption) (by with_reducible assumption) (by decide) | exact bdD (by with_reducible assumption) (by with_reducible assumption) (by with_reducible assumption) (by decide) (by decide) | exact bdE (by with_reducible assumption) (by with_reducible assumption) (by with_reducible assumption) (by with_reducible assumption) (by decide) (by decide) | exact bdF (by with_reducible assumption) (by with_reducible assumption) (by with_reducible assumption) (by with_reducible assumption) (by decide) (by decide) | exact natPos (by with_reducible assumption) | exact natLe (by with_reducible assumption) (by decide) | exact hbI (by with_reducible assumption) (by with_reducible assumption) (by with_reducible assumption) (by decide) | omega); intro b' _ at2' _ h' _ hb' v0 v1 kb' ho'; (have X' := but_F (by k_asm) (by k_asm) (by k_updF) kb' ho'); (have F' := X'.1); (have N' := X'.2); clear X' kb' ho'; (try dsimp only at N'); (try k_sweep); (try (refine keepP ?_)); (try dsimp only); (try k_fold))
    | with_reducible ( (with_reducible show wpAny _ _ (call (Value.ref 172) [Value.ref _]) _ _ _); k_dflt (refine' secret (Cx.law ?hz_B ?hz_F ?hz_X ?hz_T ?hz_K ?hz_d ?hz_u ?hz_N ?hz_S) ?hz_R ?hz_a0 ?hz_a1 ?_); (case hz_B => k_asm); (case hz_F => k_asm); (case hz_X => k_asm); (case hz_T => k_asm); (case hz_K => first | exact rfl | assumption); (case hz_N => k_asm); (case hz_d => k_dflt (exact Nat.le_of_ble_eq_true rfl)); (case hz_u => k_dflt (exact Nat.le_of_ble_eq_true rfl)); (case hz_S => k_dflt (intro q hq; rw [List.mem_singleton] at hq; subst hq; k_mem)); (case hz_R => k_dflt (exact Rw.mk (by k_asm) (by k_mem) (by with_reducible assumption) (List.length_take_le _ _) (by k_ne))); (case hz_a0 => first | with_reducible assumption | decide | exact geI (by with_reducible assumption) (by decide) | exact leI (by with_reducible assumption) (by decide) | exact ltLe (by with_reducible assumption) (by decide) | exact dropI (by with_reducible assumption) (by decide) | exact upI (by with_reducible assumption) (by decide) | exact pgeI (by with_reducible assumption) (by decide) | exact pleI (by with_reducible assumption) (by decide) | exact pge2I (by with_reducible assumption) (by decide) | exact self2I (by decide) | exact self1I (by decide) | exact self0I (by decide) | exact addgeI (by with_reducible assumption) (by decide) | exact addltI (by with_reducible assumption) (by decide) | exact addleI (by with_reducible assumption) (by decide) | exact ge2I (by with_reducible assumption) (by with_reducible assumption) (by decide) | exact ge2pI (by with_reducible assumption) (by with_reducible assumption) (by decide) | exact bdA (by with_reducible assumption) (by decide) | exact bdB (by with_reducible assumption) (by with_reducible assumption) (by decide) | exact bdC (by with_reducible assumption) (by with_reducible assumption) (by decide) | exact bdD (by with_reducible assumption) (by with_reducible assumption) (by with_reducible assumption) (by decide) (by decide) | exact bdE (by with_reducible assumption) (by with_reducible assumption) (by with_reducible assumption) (by with_reducible assumption) (by decide) (by decide) | exact bdF (by with_reducible assumption) (by with_reducible assumption) (by with_reducible assumption) (by with_reducible assumption) (by decide) (by decide) | exact natPos (by with_reducible assumption) | exact natLe (by with_reducible assumption) (by decide) | exact hbI (by with_reducible assumption) (by with_reducible assumption) (by with_reducible assumption) (by decide) | omega); (case hz_a1 => first | with_reducible assumption | decide | exact geI (by with_reducible assumption) (by decide) | exact leI (by with_reducible assumption) (by decide) | exact ltLe (by with_reducible assumption) (by decide) | exact dropI (by with_reducible assumption) (by decide) | exact upI (by with_reducible assumption) (by decide) | exact pgeI (by with_reducible assumption) (by decide) | exact pleI (by with_reducible assumption) (by decide) | exact pge2I (by with_reducible assumption) (by decide) | exact self2I (by decide) | exact self1I (by decide) | exact self0I (by decide) | exact addgeI (by with_reducible assumption) (by decide) | exact addltI (by with_reducible assumption) (by decide) | exact addleI (by with_reducible assumption) (by decide) | exact ge2I (by with_reducible assumption) (by with_reducible assumption) (by decide) | exact ge2pI (by with_reducible assumption) (by with_reducible assumption) (by decide) | exact bdA (by with_reducible assumption) (by decide) | exact bdB (by with_reducible assumption) (by with_reducible assumption) (by decide) | exact bdC (by with_reducible assumption) (by with_reducible assumption) (by decide) | exact bdD (by with_reducible assumption) (by with_reducible assumption) (by with_reducible assumption) (by decide) (by decide) | exact bdE (by with_reducible assumption) (by with_reducible assumption) (by with_reducible assumption) (by with_reducible assumption) (by decide) (by decide) | exact bdF (by with_reducible assumption) (by with_reducible assumption) (by with_reducible assumption) (by with_reducible assumption) (by decide) (by decide) | exact natPos (by with_reducible assumption) | exact natLe (by with_reducible assumption) (by decide) | exact hbI (by with_reducible assumption) (by with_reducible assumption) (by with_reducible assumption) (by decide) | omega); intro b' _ at2' _ h' _ hb' v0 v1 kb' ho'; (have X' := but_F (by k_asm) (by k_asm) (by k_updF) kb' ho'); (have F' := X'.1); (have N' := X'.2); clear X' kb' ho'; (try dsimp only at N'); (try k_sweep); (try (refine keepP ?_)); (try dsimp only); (try k_fold))
    | with_reducible ( (with_reducible show wpAny _ _ (call (Value.ref 158) [Value.ref _, Value.int _ _]) _ _ _); k_dflt (refine' takeR (Cx.law ?hz_B ?hz_F ?hz_X ?hz_T ?hz_K ?hz_d ?hz_u ?hz_N ?hz_S) ?hz_R ?hz_a0 ?hz_a1 ?hz_m0 ?hz_m1 ?_); (case hz_B => k_asm); (case hz_F => k_asm); (case hz_X => k_asm); (case hz_T => k_asm); (case hz_K => first | exact rfl | assumption); (case hz_N => k_asm); (case hz_d => k_dflt (exact Nat.le_of_ble_eq_true rfl)); (case hz_u => k_dflt (exact Nat.le_of_ble_eq_true rfl)); (case hz_S => k_dflt (intro q hq; rw [List.mem_singleton] at hq; subst hq; k_mem)); (case hz_R => k_dflt (exact Rw.mk (by k_asm) (by k_mem) (by with_reducible assumption) (List.length_take_le _ _) (by k_ne))); (case hz_a0 => first | with_reducible assumption | decide | exact geI (by with_reducible assumption) (by decide) | exact leI (by with_reducible assumption) (by decide) | exact ltLe (by with_reducible assumption) (by decide) | exact dropI (by with_reducible assumption) (by decide) | exact upI (by with_reducible assumption) (by decide) | exact pgeI (by with_reducible assumption) (by decide) | exact pleI (by with_reducible assumption) (by decide) | exact pge2I (by with_reducible assumption) (by decide) | exact self2I (by decide) | exact self1I (by decide) | exact self0I (by decide) | exact addgeI (by with_reducible assumption) (by decide) | exact addltI (by with_reducible assumption) (by decide) | exact addleI (by with_reducible assumption) (by decide) | exact ge2I (by with_reducible assumption) (by with_reducible assumption) (by decide) | exact ge2pI (by with_reducible assumption) (by with_reducible assumption) (by decide) | exact bdA (by with_reducible assumption) (by decide) | exact bdB (by with_reducible assumption) (by with_reducible assumption) (by decide) | exact bdC (by with_reducible assumption) (by with_reducible assumption) (by decide) | exact bdD (by with_reducible assumption) (by with_reducible assumption) (by with_reducible assumption) (by decide) (by decide) | exact bdE (by with_reducible assumption) (by with_reducible assumption) (by with_reducible assumption) (by with_reducible assumption) (by decide) (by decide) | exact bdF (by with_reducible assumption) (by with_reducible assumption) (by with_reducible assumption) (by with_reducible assumption) (by decide) (by decide) | exact natPos (by with_reducible assumption) | exact natLe (by with_reducible assumption) (by decide) | exact hbI (by with_reducible assumption) (by with_reducible assumption) (by with_reducible assumption) (by decide) | omega); (case hz_a1 => first | with_reducible assumption | decide | exact geI (by with_reducible assumption) (by decide) | exact leI (by with_reducible assumption) (by decide) | exact ltLe (by with_reducible assumption) (by decide) | exact dropI (by with_reducible assumption) (by decide) | exact upI (by with_reducible assumption) (by decide) | exact pgeI (by with_reducible assumption) (by decide) | exact pleI (by with_reducible assumption) (by decide) | exact pge2I (by with_reducible assumption) (by decide) | exact self2I (by decide) | exact self1I (by decide) | exact self0I (by decide) | exact addgeI (by with_reducible assumption) (by decide) | exact addltI (by with_reducible assumption) (by decide) | exact addleI (by with_reducible assumption) (by decide) | exact ge2I (by with_reducible assumption) (by with_reducible assumption) (by decide) | exact ge2pI (by with_reducible assumption) (by with_reducible assumption) (by decide) | exact bdA (by with_reducible assumption) (by decide) | exact bdB (by with_reducible assumption) (by with_reducible assumption) (by decide) | exact bdC (by with_reducible assumption) (by with_reducible assumption) (by decide) | exact bdD (by with_reducible assumption) (by with_reducible assumption) (by with_reducible assumption) (by decide) (by decide) | exact bdE (by with_reducible assumption) (by with_reducible assumption) (by with_reducible assumption) (by with_reducible assumption) (by decide) (by decide) | exact bdF (by with_reducible assumption) (by with_reducible assumption) (by with_reducible assumption) (by with_reducible assumption) (by decide) (by decide) | exact natPos (by with_reducible assumption) | exact natLe (by with_reducible assumption) (by decide) | exact hbI (by with_reducible assumption) (by with_reducible assumption) (by with_reducible assumption) (by decide) | omega); (case hz_m0 => first | with_reducible assumption | decide | exact geI (by with_reducible assumption) (by decide) | exact leI (by with_reducible assumption) (by decide) | exact ltLe (by with_reducible assumption) (by decide) | exact dropI (by with_reducible assumption) (by decide) | exact upI (by with_reducible assumption) (by decide) | exact pgeI (by with_reducible assumption) (by decide) | exact pleI (by with_reducible assumption) (by decide) | exact pge2I (by with_reducible assumption) (by decide) | exact self2I (by decide) | exact self1I (by decide) | exact self0I (by decide) | exact addgeI (by with_reducible assumption) (by decide) | exact addltI (by with_reducible assumption) (by decide) | exact addleI (by with_reducible assumption) (by decide) | exact ge2I (by with_reducible assumption) (by with_reducible assumption) (by decide) | exact ge2pI (by with_reducible assumption) (by with_reducible assumption) (by decide) | exact bdA (by with_reducible assumption) (by decide) | exact bdB (by with_reducible assumption) (by with_reducible assumption) (by decide) | exact bdC (by with_reducible assumption) (by with_reducible assumption) (by decide) | exact bdD (by with_reducible assumption) (by with_reducible assumption) (by with_reducible assumption) (by decide) (by decide) | exact bdE (by with_reducible assumption) (by with_reducible assumption) (by with_reducible assumption) (by with_reducible assumption) (by decide) (by decide) | exact bdF (by with_reducible assumption) (by with_reducible assumption) (by with_reducible assumption) (by with_reducible assumption) (by decide) (by decide) | exact natPos (by with_reducible assumption) | exact natLe (by with_reducible assumption) (by decide) | exact hbI (by with_reducible assumption) (by with_reducible assumption) (by with_reducible assumption) (by decide) | omega); (case hz_m1 => first | with_reducible assumption | decide | exact geI (by with_reducible assumption) (by decide) | exact leI (by with_reducible assumption) (by decide) | exact ltLe (by with_reducible assumption) (by decide) | exact dropI (by with_reducible assumption) (by decide) | exact upI (by with_reducible assumption) (by decide) | exact pgeI (by with_reducible assumption) (by decide) | exact pleI (by with_reducible assumption) (by decide) | exact pge2I (by with_reducible assumption) (by decide) | exact self2I (by decide) | exact self1I (by decide) | exact self0I (by decide) | exact addgeI (by with_reducible assumption) (by decide) | exact addltI (by with_reducible assumption) (by decide) | exact addleI (by with_reducible assumption) (by decide) | exact ge2I (by with_reducible assumption) (by with_reducible assumption) (by decide) | exact ge2pI (by with_reducible assumption) (by with_reducible assumption) (by decide) | exact bdA (by with_reducible assumption) (by decide) | exact bdB (by with_reducible assumption) (by with_reducible assumption) (by decide) | exact bdC (by with_reducible assumption) (by with_reducible assumption) (by decide) | exact bdD (by with_reducible assumption) (by with_reducible assumption) (by with_reducible assumption) (by decide) (by decide) | exact bdE (by with_reducible assumption) (by with_reducible assumption) (by with_reducible assumption) (by with_reducible assumption) (by decide) (by decide) | exact bdF (by with_reducible assumption) (by with_reducible assumption) (by with_reducible assumption) (by with_reducible assumption) (by decide) (by decide) | exact natPos (by with_reducible assumption) | exact natLe (by with_reducible assumption) (by decide) | exact hbI (by with_reducible assumption) (by with_reducible assumption) (by with_reducible assumption) (by decide) | omega); intro v' _ _ h' _ v0 v1 kb' ho'; (have X' := but_F (by k_asm) (by k_asm) (by k_updF) kb' ho'); (have F' := X'.1); (have N' := X'.2); clear X' kb' ho'; (try dsimp only at N'); (try k_sweep); (try (refine keepP ?_)); (try dsimp only); (try k_fold))
    | with_reducible ((with_reducible refine addS ?_); intro _ _; (try dsimp only))
    | with_reducible ((with_reducible show LCg.FinA _ _ _ _ _ _ _ _); ((unfold LCg.FinA); intro D' h' tk' F' N' o1'; (try dsimp only at o1'); (try simp only [List.nil_append, List.cons_append] at N'); (try dsimp only)))
    | walk1
    | (dsimp only; walk1)
    | (leave1; walk_say "STEP leave1"; try dsimp only)
    | fail "no step")
theorem tail_walk {w : World} {s : Shared} {E : Value → Shared → Prop} {Q : Flow → Shared → Prop} {h₀ base : Heap} {L fa f' c' KN CL BX RW SL HL ED : Nat} {p : Program} {loose : List PySem.Str} {mean : ExcName → Option Value} {mg mb : PySem.Str → Option Value} {oc o1 o2 o3 o4 tab : Obj} {ws : List Value} {wi : List Int} {ss hs : List Value} {n0 n : Nat} {doc pm ctv : Value} {qual : PySem.Str} {vs : Array Value} {tq ts : Tok} {small : Int}
    (B : Below callerA base [] h₀) (X : (hd.heap_39 w.params).In h₀) (T : Top p loose mean mg mb h₀)
    (d1 : o1.data = .cell (some (.ref BX))) (d2 : o2.data = .cell (some (.ref CL))) (d3 : o3.data = .cell (some (.ref KN))) (d4 : o4.data = .cell (some (.int small ts)))
    (hI : IntsAre ws (List.take 40 wi)) (l0 : 186 < L) (l1 : L + 1 + 1 + 1 + 1 < RW) (l2 : RW < BX) (l3 : BX < KN) (l4 : KN < CL) (l5 : CL < c') (l6 : c' < f') (l7 : f' < ED) (l8 : SL < ED) (l9 : HL < ED)
    (n1 : NeN SL BX) (n2 : NeN SL CL) (n3 : NeN SL KN) (n4 : NeN HL BX) (n5 : NeN HL CL) (n6 : NeN HL KN) (sE : ((ED : Addr) == sysModules) = false)
    (hss : ∀ y ∈ ss, IsB32 y) (hhs : ∀ y ∈ hs, IsB32 y) (c1 : 0 < ss.length) (c2 : ss.length ≤ 10) (c3 : 0 < hs.length) (c4 : hs.length ≤ 10) (hn : n ≤ 10)
    (hE : PassesOwn (model PG w) (callerA.deeper (envOfC (PySem.Str.ofString "law") (scX w.params).sc L fa (.ref 188))) (envOfC (PySem.Str.ofString "law") (scX w.params).sc L fa (.ref 188)) E) :
    ∀ at' t σ oed es evs (m₁ : PySem.Str → Option Value) h tk, 0 ≤ at' → at' ≤ 7000 → MR.Ok ⟨f', c', L+1+1, L+1+1+1, L+1+1+1+1, CL, KN, oc, o2, o3, o4, doc, pm, ctv, qual, vs, tq, ts, small⟩ → CallsAt CL → (∀ p ∈ σ.tups ++ evs, p.1 ≠ BX) → (∀ p ∈ σ.tups ++ evs, p.1 ≠ CL) → (∀ q ∈ evs, @Ne Nat q.1 CL ∧ @Ne Nat q.1 KN) → LF w ⟨f', c', L+1+1, L+1+1+1, L+1+1+1+1, CL, KN, oc, o2, o3, o4, doc, pm, ctv, qual, vs, tq, ts, small⟩ BX ED evs σ oed es n at' → σ.xs.length ≤ 60 → σ.its.size ≤ 100 →
      Fr h₀ L h (fun y => (List.lookup y (lawNames f' SL HL ED)).or (m₁ y)) →
      News h₀ L h (led w ⟨f', c', L+1+1, L+1+1+1, L+1+1+1+1, CL, KN, oc, o2, o3, o4, doc, pm, ctv, qual, vs, tq, ts, small⟩ BX RW (L+1) 186 SL HL ED (listOf ws.toArray 0) o1 tab (LCg.lst ss) (LCg.lst hs) n0 at' t oed σ evs) →
      (∀ h' k m' news', Fr h₀ L h' m' → News h₀ L h' news' → (186, tab) ∈ news' → Q (.ret (.bool true)) { s with heap := h', toks := k }) →
      wpAny (model PG w) (callerA.deeper (envOfC (PySem.Str.ofString "law") (scX w.params).sc L fa (.ref 188))) (execs (tailX w.params).l (envOfC (PySem.Str.ofString "law") (scX w.params).sc L fa (.ref 188))) Q E { s with heap := h, toks := tk } := by
  intro at' t σ oed es evs m₁ h tk z0 z1 Kr zC tB tC eC Lf hxs hsz F' N' fin
  dsimp only [led, MR.own, List.cons_append, List.nil_append] at N'
  obtain ⟨⟨ob0, ob1, ob2, ob3, ob4, ob5, ob6, ob7, ob8, ob9⟩, ⟨oc0, oc_1, oc_2, oc3, oc4, oc5, oc6, oc7, oc8, oc9⟩, ⟨ok0, ok1, ok2, ok3⟩⟩ := ord_facts l0 l1 l2 l3 l4 l5 l6
  obtain ⟨oe0, oe1, oe2, oe3, oe4, oe5, oe6, oe7, oe8, oe9, oe10, oe11, oe12⟩ := ord_facts2 l0 l1 l2 l3 l4 l5 l6 l7 l8 l9
  dsimp only [tailX, scX] at hE ⊢
  (try k_fold)
  repeat' (first
    | (k_unfold; (try dsimp only))
    | (k_end; wrow_close)
    | with_reducible ( (with_reducible show wpAny _ _ (call (Value.ref 144) [Value.bytes _ _, Value.bytes _ _, Value.ref _]) _ _ _); (rename LF _ _ _ _ _ _ _ _ _ _ => Lf); (rename MR.Ok _ => Kr); k_dflt (refine' dgk_rule2 (pre := [_, _, _, _, _, _, _, _]) Lf (Cx.law ?hz_B ?hz_F ?hz_X ?hz_T ?hz_K ?hz_d ?hz_u ?hz_N ?hz_S) ?hz_F2 ?hz_N2 Kr ?hz_hx ?hz_hm ?hz_hs ?hz_hp ?_); (case hz_B => k_asm); (case hz_F => k_asm); (case hz_X => k_asm); (case hz_T => k_asm); (case hz_K => first | exact rfl | assumption); (case hz_N => k_asm); (case hz_d => k_dflt (exact Nat.le_of_ble_eq_true rfl)); (case hz_u => k_dflt (exact Nat.le_of_ble_eq_true rfl)); (case hz_F2 => k_asm); (case hz_N2 => k_dflt k_asm); (case hz_S => k_dflt (exact fun q hq => List.mem_append_right [_, _, _, _, _, _, _, _] (List.mem_append_left _ hq))); (case hz_hx => first | with_reducible assumption | exact leN (by with_reducible assumption) (by decide) | exact eqN (by with_reducible assumption) (by decide) | exact leN3 (by with_reducible assumption) (by with_reducible assumption) (by with_reducible assumption) (by decide) | exact lenA (by with_reducible assumption) (by with_reducible assumption) (by decide) | exact lenB (by with_reducible assumption) (by with_reducible assumption) (by decide) | exact sizeB (by with_reducible assumption) (by with_reducible assumption) (by with_reducible assumption) (by decide) | exact tnA (by with_reducible assumption) (by decide) | exact tnB (by with_reducible assumption) (by decide) | exact posNat (by with_reducible assumption) | exact eq0 (by with_reducible assumption) | omega); (case hz_hm => first | with_reducible assumption | exact leN (by with_reducible assumption) (by decide) | exact eqN (by with_reducible assumption) (by decide) | exact leN3 (by with_reducible assumption) (by with_reducible assumption) (by with_reducible assumption) (by decide) | exact lenA (by with_reducible assumption) (by with_reducible assumption) (by decide) | exact lenB (by with_reducible assumption) (by with_reducible assumption) (by decide) | exact sizeB (by with_reducible assumption) (by with_reducible assumption) (by with_reducible assumption) (by decide) | exact tnA (by with_reducible assumption) (by decide) | exact tnB (by with_reducible assumption) (by decide) | exact posNat (by with_reducible assumption) | exact eq0 (by with_reducible assumption) | omega); (case hz_hs => with_reducible assumption); (case hz_hp => ((repeat (k_dflt (refine' pairs_cons ?_ ?_ ?_))); all_goals (first | exact pairs_nil | k_ne))); intro a0 a1' a2 a3 a4 t' h' k' sg' Ch' Mw' Ca' z5' F' N'; (have Dk' := Mw'.dict); (have Kk' := Mw'.keys); (have y0' := valOf_size Mw' (Chain.h0 Ch')); (have y1' := valOf_size Mw' (Chain.h1 Ch')); (have y4' := valOf_size Mw' (Chain.h4 Ch')); dsimp only [List.cons_append, List.nil_append, MR.own] at N'; (try k_sweep); (try (refine keepP ?_)); (try dsimp only); (try k_fold))
    | with_reducible ( (with_reducible show wpAny _ _ (subscriptTail _ _ (Value.ref _) (Value.int 4 _)) _ _ _); (rename CallsAre _ _ _ _ => Ca); (rename Chain _ _ _ _ _ _ _ _ => Ch); k_dflt (refine' item_ask ?hz_N ?hz_M Ca Ch ?hz_ht ?hz_z ?_ ?hz_a ?hz_b; (case hz_a => with_unfolding_all rfl); (case hz_b => intro _; with_unfolding_all rfl); (case hz_N => k_asm); (case hz_M => k_mem); (case hz_z => with_reducible assumption); (case hz_ht => (intro q hq; repeat (first | exact hq | exact List.mem_append_left _ hq | exact List.mem_append_right _ hq | refine List.mem_cons_of_mem _ ?_)))); intro D' k' ad' v' hk' hp'; (try dsimp only))
    | with_reducible ( (with_reducible show wpAny _ _ (subscriptTail _ _ (Value.ref _) (Value.int 0 _)) _ _ _); k_dflt (refine' item_again ?hz_N ?hz_M ?hz_hx ?hz_h0 ?hz_h1 ?_ ?hz_a ?hz_b; (case hz_a => with_unfolding_all rfl); (case hz_b => intro _; with_unfolding_all rfl); (case hz_N => k_asm); (case hz_M => k_mem); (case hz_hx => with_reducible assumption); (case hz_h0 => decide); (case hz_h1 => decide)); (try dsimp only))
    | with_reducible ( (with_reducible show wpAny _ _ (subscriptTail _ _ (Value.ref _) (Value.int 0 _)) _ _ _); k_dflt (refine' item_first ?hz_N ?hz_M ?hz_G ?hz_h1 ?_ ?hz_a ?hz_b; (case hz_a => with_unfolding_all rfl); (case hz_b => intro _; with_unfolding_all rfl); (case hz_N => k_asm); (case hz_M => k_mem); (case hz_G => with_reducible assumption); (case hz_h1 => first | with_reducible assumption | decide | exact geI (by with_reducible assumption) (by decide) | exact leI (by with_reducible assumption) (by decide) | exact ltLe (by with_reducible assumption) (by decide) | exact dropI (by with_reducible assumption) (by decide) | exact upI (by with_reducible assumption) (by decide) | exact pgeI (by with_reducible assumption) (by decide) | exact pleI (by with_reducible assumption) (by decide) | exact pge2I (by with_reducible assumption) (by decide) | exact self2I (by decide) | exact self1I (by decide) | exact self0I (by decide) | exact addgeI (by with_reducible assumption) (by decide) | exact addltI (by with_reducible assumption) (by decide) | exact addleI (by with_reducible assumption) (by decide) | exact ge2I (by with_reducible assumption) (by with_reducible assumption) (by decide) | exact ge2pI (by with_reducible assumption) (by with_reducible assumption) (by decide) | exact bdA (by with_reducible assumption) (by decide) | exact bdB (by with_reducible assumption) (by with_reducible assumption) (by decide) | exact bdC (by with_reducible assumption) (by with_reducible assumption) (by decide) | exact bdD (by with_reducible assumption) (by with_reducible assumption) (by with_reducible assumption) (by decide) (by decide) | exact bdE (by with_reducible assumption) (by with_reducible assumption) (by with_reducible assumption) (by with_reducible assumption) (by decide) (by decide) | exact bdF (by with_reducible assumption) (by with_reducible assumption) (by with_reducible assumption) (by with_reducible assumption) (by decide) (by decide) | exact natPos (by with_reducible assumption) | exact natLe (by with_reducible assumption) (by decide) | exact hbI (by with_reducible assumption) (by with_reducible assumption) (by with_reducible assumption) (by decide) | omega)); intro b' _ hb' hx'; (try dsimp only))
    | with_reducible ( (with_reducible show wpAny _ _ (call (Value.type _) [Value.ref _]) _ _ _); k_dflt (refine' bytesOf ?hz_F ?hz_N ?hz_M ?hz_G ?hz_z ?hz_hh ?_; (case hz_F => k_asm); (case hz_N => k_asm); (case hz_M => k_mem); (case hz_G => with_reducible assumption); (case hz_z => first | with_reducible assumption | exact leN (by with_reducible assumption) (by decide) | exact eqN (by with_reducible assumption) (by decide) | exact leN3 (by with_reducible assumption) (by with_reducible assumption) (by with_reducible assumption) (by decide) | exact lenA (by with_reducible assumption) (by with_reducible assumption) (by decide) | exact lenB (by with_reducible assumption) (by with_reducible assumption) (by decide) | exact sizeB (by with_reducible assumption) (by with_reducible assumption) (by with_reducible assumption) (by decide) | exact tnA (by with_reducible assumption) (by decide) | exact tnB (by with_reducible assumption) (by decide) | exact posNat (by with_reducible assumption) | exact eq0 (by with_reducible assumption) | omega); (case hz_hh => rfl)); intro h' b' _ _ F' N' hb'; (try k_sweep); (try dsimp only))
    | with_reducible ((with_reducible show IsByte _); (exact ⟨_, _, rfl, by assumption, by assumption⟩))
    | ((with_reducible show IsByte _); (exact ⟨_, _, rfl, by assumption, by assumption⟩))
    | with_reducible ((with_reducible show LCg.CompSrc _ _ _ _ _ _ _ _ _ _ _ _ _ _); ( (rename LF _ _ _ _ _ _ _ _ _ _ => Lf); k_dflt (refine LCg.CompSrc.range (by rfl) (by k_asm) (by k_asm) (by with_reducible assumption) (small_one (by first | decide | exact geI (by with_reducible assumption) (by decide) | exact ltI (by with_reducible assumption) (by decide) | exact addgeI (by with_reducible assumption) (by decide) | exact addltI (by with_reducible assumption) (by decide) | omega) (by first | decide | exact geI (by with_reducible assumption) (by decide) | exact ltI (by with_reducible assumption) (by decide) | exact addgeI (by with_reducible assumption) (by decide) | exact addltI (by with_reducible assumption) (by decide) | omega) (by first | decide | exact geI (by with_reducible assumption) (by decide) | exact ltI (by with_reducible assumption) (by decide) | exact addgeI (by with_reducible assumption) (by decide) | exact addltI (by with_reducible assumption) (by decide) | omega) (by first | decide | exact geI (by with_reducible assumption) (by decide) | exact ltI (by with_reducible assumption) (by decide) | exact addgeI (by with_reducible assumption) (by decide) | exact addltI (by with_reducible assumption) (by decide) | omega)) (rangeSize_nat _ _) (by rw [PySem.sizeLine_eq]; (first | with_reducible assumption | exact leN (by with_reducible assumption) (by decide) | exact eqN (by with_reducible assumption) (by decide) | exact leN3 (by with_reducible assumption) (by with_reducible assumption) (by with_reducible assumption) (by decide) | exact lenA (by with_reducible assumption) (by with_reducible assumption) (by decide) | exact lenB (by with_reducible assumption) (by with_reducible assumption) (by decide) | exact sizeB (by with_reducible assumption) (by with_reducible assumption) (by with_reducible assumption) (by decide) | exact tnA (by with_reducible assumption) (by decide) | exact tnB (by with_reducible assumption) (by decide) | exact posNat (by with_reducible assumption) | exact eq0 (by with_reducible assumption) | omega)) ?_); intro g'; k_dflt (refine' boxCompB ?hz_M ?hz_U IsByte _ 1 (by decide) ?hz_L0 ?hz_B0 ?_ ?_); (case hz_M => k_dflt k_mem); (case hz_U => k_updF); (case hz_L0 => first | with_reducible assumption | decide | exact geI (by with_reducible assumption) (by decide) | exact leI (by with_reducible assumption) (by decide) | exact ltLe (by with_reducible assumption) (by decide) | exact dropI (by with_reducible assumption) (by decide) | exact upI (by with_reducible assumption) (by decide) | exact pgeI (by with_reducible assumption) (by decide) | exact pleI (by with_reducible assumption) (by decide) | exact pge2I (by with_reducible assumption) (by decide) | exact self2I (by decide) | exact self1I (by decide) | exact self0I (by decide) | exact addgeI (by with_reducible assumption) (by decide) | exact addltI (by with_reducible assumption) (by decide) | exact addleI (by with_reducible assumption) (by decide) | exact ge2I (by with_reducible assumption) (by with_reducible assumption) (by decide) | exact ge2pI (by with_reducible assumption) (by with_reducible assumption) (by decide) | exact bdA (by with_reducible assumption) (by decide) | exact bdB (by with_reducible assumption) (by with_reducible assumption) (by decide) | exact bdC (by with_reducible assumption) (by with_reducible assumption) (by decide) | exact bdD (by with_reducible assumption) (by with_reducible assumption) (by with_reducible assumption) (by decide) (by decide) | exact bdE (by with_reducible assumption) (by with_reducible assumption) (by with_reducible assumption) (by with_reducible assumption) (by decide) (by decide) | exact bdF (by with_reducible assumption) (by with_reducible assumption) (by with_reducible assumption) (by with_reducible assumption) (by decide) (by decide) | exact natPos (by with_reducible assumption) | exact natLe (by with_reducible assumption) (by decide) | exact hbI (by with_reducible assumption) (by with_reducible assumption) (by with_reducible assumption) (by decide) | omega); (case hz_B0 => first | with_reducible assumption | decide | exact geI (by with_reducible assumption) (by decide) | exact leI (by with_reducible assumption) (by decide) | exact ltLe (by with_reducible assumption) (by decide) | exact dropI (by with_reducible assumption) (by decide) | exact upI (by with_reducible assumption) (by decide) | exact pgeI (by with_reducible assumption) (by decide) | exact pleI (by with_reducible assumption) (by decide) | exact pge2I (by with_reducible assumption) (by decide) | exact self2I (by decide) | exact self1I (by decide) | exact self0I (by decide) | exact addgeI (by with_reducible assumption) (by decide) | exact addltI (by with_reducible assumption) (by decide) | exact addleI (by with_reducible assumption) (by decide) | exact ge2I (by with_reducible assumption) (by with_reducible assumption) (by decide) | exact ge2pI (by with_reducible assumption) (by with_reducible assumption) (by decide) | exact bdA (by with_reducible assumption) (by decide) | exact bdB (by with_reducible assumption) (by with_reducible assumption) (by decide) | exact bdC (by with_reducible assumption) (by with_reducible assumption) (by decide) | exact bdD (by with_reducible assumption) (by with_reducible assumption) (by with_reducible assumption) (by decide) (by decide) | exact bdE (by with_reducible assumption) (by with_reducible assumption) (by with_reducible assumption) (by with_reducible assumption) (by decide) (by decide) | exact bdF (by with_reducible assumption) (by with_reducible assumption) (by with_reducible assumption) (by with_reducible assumption) (by decide) (by decide) | exact natPos (by with_reducible assumption) | exact natLe (by with_reducible assumption) (by decide) | exact hbI (by with_reducible assumption) (by with_reducible assumption) (by with_reducible assumption) (by decide) | omega); (try (intro i v I oI C oC D m₂ h tk E' ys at' t hP h0 h1 hC hx F' N' b1 b2 b3; (have hP' := hP); obtain ⟨tv, hv⟩ := hP'; subst hv; clear hP; (try dsimp only at N'); (try dsimp only); (try k_sweep)))))
    | with_reducible ((with_reducible show ForEnd _ _ _ _ _ _ _ _ _); ( (rename LF _ _ _ _ _ _ _ _ _ _ => Lf); (rename TurnI _ _ _ _ _ _ _ _ _ _ _ => Ti); (rename Chain _ _ _ _ _ _ _ _ => Ch); (rename CallsAre _ _ _ _ => Ca); (rename DObj _ (storedH _ _ _ _) _ => Dn); k_dflt (refine' turn_close Lf Ti ?hz_Gr ?hz_mo ?hz_Mw ?hz_cs5 Ch Ca Dn ?hz_tB ?hz_tE ?hz_F ?hz_N ?hz_h1 ?hz_h2 ?hz_h3 ?hz_h4 ?hz_mK ?hz_mT ?hz_mD ?hz_mA ?hz_fK ?hz_fT ?hz_fD ?hz_fA ?hz_z0 ?hz_z1 ?hz_s1 ?hz_s2 ?hz_s3 ?hz_s4 ?hz_s5 ?hz_s6 ?hz_s7 ?hz_s8 ?hz_s9 ?hz_s10); (case hz_Gr => with_reducible assumption); (case hz_mo => with_reducible assumption); (case hz_Mw => with_reducible assumption); (case hz_cs5 => with_reducible assumption); (case hz_tB => with_reducible assumption); (case hz_tE => with_reducible assumption); (case hz_F => k_asm); (case hz_N => k_asm); (case hz_h1 => k_dflt (exact rfl)); (case hz_h2 => k_dflt (exact rfl)); (case hz_h3 => k_dflt (exact rfl)); (case hz_h4 => k_dflt (exact rfl)); (case hz_mK => k_dflt k_mem); (case hz_mT => k_dflt k_mem); (case hz_mD => k_dflt k_mem); (case hz_mA => k_dflt k_mem); (case hz_fK => (k_dflt (refine' Free5.mk ?_ ?_ ?_ ?_ ?_); all_goals k_ne)); (case hz_fT => (k_dflt (refine' Free5.mk ?_ ?_ ?_ ?_ ?_); all_goals k_ne)); (case hz_fD => (k_dflt (refine' Free5.mk ?_ ?_ ?_ ?_ ?_); all_goals k_ne)); (case hz_fA => (k_dflt (refine' Free5.mk ?_ ?_ ?_ ?_ ?_); all_goals k_ne)); (case hz_s1 => k_dflt k_mem); (case hz_s2 => k_dflt k_mem); (case hz_z0 => first | with_reducible assumption | exact leN (by with_reducible assumption) (by decide) | exact eqN (by with_reducible assumption) (by decide) | decide | exact geI (by with_reducible assumption) (by decide) | exact leI (by with_reducible assumption) (by decide) | exact ltLe (by with_reducible assumption) (by decide) | exact dropI (by with_reducible assumption) (by decide) | exact upI (by with_reducible assumption) (by decide) | exact pgeI (by with_reducible assumption) (by decide) | exact pleI (by with_reducible assumption) (by decide) | exact pge2I (by with_reducible assumption) (by decide) | exact self2I (by decide) | exact self1I (by decide) | exact self0I (by decide) | exact addgeI (by with_reducible assumption) (by decide) | exact addltI (by with_reducible assumption) (by decide) | exact addleI (by with_reducible assumption) (by decide) | exact ge2I (by with_reducible assumption) (by with_reducible assumption) (by decide) | exact ge2pI (by with_reducible assumption) (by with_reducible assumption) (by decide) | exact bdA (by with_reducible assumption) (by decide) | exact bdB (by with_reducible assumption) (by with_reducible assumption) (by decide) | exact bdC (by with_reducible assumption) (by with_reducible assumption) (by decide) | exact bdD (by with_reducible assumption) (by with_reducible assumption) (by with_reducible assumption) (by decide) (by decide) | exact bdE (by with_reducible assumption) (by with_reducible assumption) (by with_reducible assumption) (by with_reducible assumption) (by decide) (by decide) | exact bdF (by with_reducible assumption) (by with_reducible assumption) (by with_reducible assumption) (by with_reducible assumption) (by decide) (by decide) | exact natPos (by with_reducible assumption) | exact natLe (by with_reducible assumption) (by decide) | exact hbI (by with_reducible assumption) (by with_reducible assumption) (by with_reducible assumption) (by decide) | omega); (case hz_z1 => first | with_reducible assumption | exact leN (by with_reducible assumption) (by decide) | exact eqN (by with_reducible assumption) (by decide) | decide | exact geI (by with_reducible assumption) (by decide) | exact leI (by with_reducible assumption) (by decide) | exact ltLe (by with_reducible assumption) (by decide) | exact dropI (by with_reducible assumption) (by decide) | exact upI (by with_reducible assumption) (by decide) | exact pgeI (by with_reducible assumption) (by decide) | exact pleI (by with_reducible assumption) (by decide) | exact pge2I (by with_reducible assumption) (by decide) | exact self2I (by decide) | exact self1I (by decide) | exact self0I (by decide) | exact addgeI (by with_reducible assumption) (by decide) | exact addltI (by with_reducible assumption) (by decide) | exact addleI (by with_reducible assumption) (by decide) | exact ge2I (by with_reducible assumption) (by with_reducible assumption) (by decide) | exact ge2pI (by with_reducible assumption) (by with_reducible assumption) (by decide) | exact bdA (by with_reducible assumption) (by decide) | exact bdB (by with_reducible assumption) (by with_reducible assumption) (by decide) | exact bdC (by with_reducible assumption) (by with_reducible assumption) (by decide) | exact bdD (by with_reducible assumption) (by with_reducible assumption) (by with_reducible assumption) (by decide) (by decide) | exact bdE (by with_reducible assumption) (by with_reducible assumption) (by with_reducible assumption) (by with_reducible assumption) (by decide) (by decide) | exact bdF (by with_reducible assumption) (by with_reducible assumption) (by with_reducible assumption) (by with_reducible assumption) (by decide) (by decide) | exact natPos (by with_reducible assumption) | exact natLe (by with_reducible assumption) (by decide) | exact hbI (by with_reducible assumption) (by with_reducible assumption) (by with_reducible assumption) (by decide) | omega); (case hz_s3 => k_dflt k_mem); (case hz_s4 => k_dflt k_mem); (case hz_s5 => k_dflt k_mem); (case hz_s6 => k_dflt k_mem); (case hz_s7 => k_dflt k_mem); (case hz_s8 => k_dflt k_mem); (case hz_s9 => k_dflt (refine' own_sub ?hz_o1 ?hz_o2 ?hz_o3 ?hz_o4 ?hz_o5 ?hz_o6 ?hz_o7 ?hz_o8; (case hz_o1 => k_mem); (case hz_o2 => k_mem); (case hz_o3 => k_mem); (case hz_o4 => k_mem); (case hz_o5 => k_mem); (case hz_o6 => k_mem); (case hz_o7 => k_mem); (case hz_o8 => (intro q hq; repeat (first | exact hq | exact List.mem_append_left _ hq | exact List.mem_append_right _ hq | refine List.mem_cons_of_mem _ ?_))))); (case hz_s10 => k_dflt (intro q hq; repeat (first | exact hq | exact List.mem_append_left _ hq | exact List.mem_append_right _ hq | refine List.mem_cons_of_mem _ ?_)))))
    | with_reducible ( (with_reducible show wpAny _ _ (setItem (Value.ref _) (Value.ref _) _) _ _ _); (rename LF _ _ _ _ _ _ _ _ _ _ => Lf); (have el' := Lf.el); k_dflt (refine' set_E (k := keyOf _ _) ?hz_hu ?hz_F ?hz_N ?hz_U ?hz_hk Lf.d ?hz_ks ?hz_z ?_; (case hz_F => k_asm); (case hz_N => k_asm); (case hz_U => k_updF); (case hz_hu => exact Nat.le_of_ble_eq_true rfl); (case hz_hk => exact tupB_key (News.get (by k_asm) (by k_mem))); (case hz_ks => exact keys_at Lf.ek (tups_at (by k_asm) (by (intro q hq; repeat (first | exact hq | exact List.mem_append_left _ hq | exact List.mem_append_right _ hq | refine List.mem_cons_of_mem _ ?_))))); (case hz_z => first | with_reducible assumption | exact leN (by with_reducible assumption) (by decide) | exact eqN (by with_reducible assumption) (by decide) | exact leN3 (by with_reducible assumption) (by with_reducible assumption) (by with_reducible assumption) (by decide) | exact lenA (by with_reducible assumption) (by with_reducible assumption) (by decide) | exact lenB (by with_reducible assumption) (by with_reducible assumption) (by decide) | exact sizeB (by with_reducible assumption) (by with_reducible assumption) (by with_reducible assumption) (by decide) | exact tnA (by with_reducible assumption) (by decide) | exact tnB (by with_reducible assumption) (by decide) | exact posNat (by with_reducible assumption) | exact eq0 (by with_reducible assumption) | omega)); intro h' o' k' F' N' Dn'; (try dsimp only at N'); (try k_sweep); (try dsimp only))
    | with_reducible ((with_reducible show wpAny _ _ (newTuple _) _ _ _); (k_dflt (refine' newTup ?hz_F ?hz_N ?_ ?hz_z; (case hz_F => k_asm); (case hz_N => k_asm); (case hz_z => first | k_dflt (exact szlit rfl) | size_fits)); intro D' h' F' N' s0 e0 l0 l1; clear s0 e0 l0; (try k_lt l1); (try k_sweep); (try dsimp only)))
    | with_reducible ( (with_reducible show wpAny _ _ (compareOp CmpOp.In (Value.ref _) (Value.ref _)) _ _ _); (rename LF _ _ _ _ _ _ _ _ _ _ => Lf); k_dflt (refine' in_E Lf.ev ?hz_Gr ?hz_mo ?hz_Ch ?hz_hu ?hz_hd ?hz_hk ?hz_ho Lf.d ?hz_ks ?_ ?_; (case hz_Gr => with_reducible assumption); (case hz_mo => with_reducible assumption); (case hz_hk => exact tupB_key (News.get (by k_asm) (by k_mem))); (case hz_Ch => with_reducible assumption); (case hz_hu => exact Nat.le_of_ble_eq_true rfl); (case hz_hd => with_reducible assumption); (case hz_ho => exact News.get (by k_asm) (by k_mem)); (case hz_ks => exact keys_at Lf.ek (tups_at (by k_asm) (by (intro q hq; repeat (first | exact hq | exact List.mem_append_left _ hq | exact List.mem_append_right _ hq | refine List.mem_cons_of_mem _ ?_)))))); (intro _ hp'; (try dsimp only)); rotate_left; (intro _ e' T' hp' Kp'; (try dsimp only)); rotate_right)
    | with_reducible ( (with_reducible show wpAny _ _ (compareOp CmpOp.NotEq (Value.ref _) (Value.ref _)) _ _ _); (rename KeptL _ _ _ _ _ => Kp); k_dflt (refine' ne_T Kp ?hz_N ?hz_ht ?hz_m1 ?hz_m2 ?hz_m3 ?hz_Ca ?hz_hu ?_; (case hz_N => k_asm); (case hz_m1 => k_mem); (case hz_m2 => k_mem); (case hz_m3 => k_mem); (case hz_Ca => with_reducible assumption); (case hz_ht => (intro q hq; repeat (first | exact hq | exact List.mem_append_left _ hq | exact List.mem_append_right _ hq | refine List.mem_cons_of_mem _ ?_))); (case hz_hu => exact Nat.le_of_ble_eq_true rfl)); (try dsimp only))
    | with_reducible ( (with_reducible show wpAny _ _ (compareOp CmpOp.NotEq (Value.ref _) (Value.ref _)) _ _ _); k_dflt (refine' ne_A ?hz_N ?hz_m1 ?hz_m2 ?hz_Ca ?hz_ht ?hz_k2 ?hz_hu ?_; (case hz_N => k_asm); (case hz_m1 => k_mem); (case hz_m2 => k_mem); (case hz_k2 => with_reducible assumption); (case hz_Ca => with_reducible assumption); (case hz_ht => (intro q hq; repeat (first | exact hq | exact List.mem_append_left _ hq | exact List.mem_append_right _ hq | refine List.mem_cons_of_mem _ ?_))); (case hz_hu => exact Nat.le_of_ble_eq_true rfl)); (try dsimp only))
    | with_reducible ( (with_reducible show wpAny _ _ (call (Value.ref 184) [Value.ref _, Value.bytes _ _, Value.bytes _ _]) _ _ _); k_dflt (refine' due (Cx.law ?hz_B ?hz_F ?hz_X ?hz_T ?hz_K ?hz_d ?hz_u ?hz_N ?hz_S) ?hz_hA ?hz_z0 ?hz_z1 ?hz_z2 ?hz_z3 ?_); (case hz_B => k_asm); (case hz_F => k_asm); (case hz_X => k_asm); (case hz_T => k_asm); (case hz_K => first | exact rfl | assumption); (case hz_N => k_asm); (case hz_d => k_dflt (exact Nat.le_of_ble_eq_true rfl)); (case hz_u => k_dflt (exact Nat.le_of_ble_eq_true rfl)); (case hz_S => k_dflt (exact nsub_LawX)); (case hz_hA => k_dflt (exact News.isList (by k_asm) (by k_mem))); (case hz_z0 => first | with_reducible assumption | exact leN (by with_reducible assumption) (by decide) | exact eqN (by with_reducible assumption) (by decide) | decide | exact geI (by with_reducible assumption) (by decide) | exact leI (by with_reducible assumption) (by decide) | exact ltLe (by with_reducible assumption) (by decide) | exact dropI (by with_reducible assumption) (by decide) | exact upI (by with_reducible assumption) (by decide) | exact pgeI (by with_reducible assumption) (by decide) | exact pleI (by with_reducible assumption) (by decide) | exact pge2I (by with_reducible assumption) (by decide) | exact self2I (by decide) | exact self1I (by decide) | exact self0I (by decide) | exact addgeI (by with_reducible assumption) (by decide) | exact addltI (by with_reducible assumption) (by decide) | exact addleI (by with_reducible assumption) (by decide) | exact ge2I (by with_reducible assumption) (by with_reducible assumption) (by decide) | exact ge2pI (by with_reducible assumption) (by with_reducible assumption) (by decide) | exact bdA (by with_reducible assumption) (by decide) | exact bdB (by with_reducible assumption) (by with_reducible assumption) (by decide) | exact bdC (by with_reducible assumption) (by with_reducible assumption) (by decide) | exact bdD (by with_reducible assumption) (by with_reducible assumption) (by with_reducible assumption) (by decide) (by decide) | exact bdE (by with_reducible assumption) (by with_reducible assumption) (by with_reducible assumption) (by with_reducible assumption) (by decide) (by decide) | exact bdF (by with_reducible assumption) (by with_reducible assumption) (by with_reducible assumption) (by with_reducible assumption) (by decide) (by decide) | exact natPos (by with_reducible assumption) | exact natLe (by with_reducible assumption) (by decide) | exact hbI (by with_reducible assumption) (by with_reducible assumption) (by with_reducible assumption) (by decide) | omega); (case hz_z1 => first | with_reducible assumption | exact leN (by with_reducible assumption) (by decide) | exact eqN (by with_reducible assumption) (by decide) | decide | exact geI (by with_reducible assumption) (by decide) | exact leI (by with_reducible assumption) (by decide) | exact ltLe (by with_reducible assumption) (by decide) | exact dropI (by with_reducible assumption) (by decide) | exact upI (by with_reducible assumption) (by decide) | exact pgeI (by with_reducible assumption) (by decide) | exact pleI (by with_reducible assumption) (by decide) | exact pge2I (by with_reducible assumption) (by decide) | exact self2I (by decide) | exact self1I (by decide) | exact self0I (by decide) | exact addgeI (by with_reducible assumption) (by decide) | exact addltI (by with_reducible assumption) (by decide) | exact addleI (by with_reducible assumption) (by decide) | exact ge2I (by with_reducible assumption) (by with_reducible assumption) (by decide) | exact ge2pI (by with_reducible assumption) (by with_reducible assumption) (by decide) | exact bdA (by with_reducible assumption) (by decide) | exact bdB (by with_reducible assumption) (by with_reducible assumption) (by decide) | exact bdC (by with_reducible assumption) (by with_reducible assumption) (by decide) | exact bdD (by with_reducible assumption) (by with_reducible assumption) (by with_reducible assumption) (by decide) (by decide) | exact bdE (by with_reducible assumption) (by with_reducible assumption) (by with_reducible assumption) (by with_reducible assumption) (by decide) (by decide) | exact bdF (by with_reducible assumption) (by with_reducible assumption) (by with_reducible assumption) (by with_reducible assumption) (by decide) (by decide) | exact natPos (by with_reducible assumption) | exact natLe (by with_reducible assumption) (by decide) | exact hbI (by with_reducible assumption) (by with_reducible assumption) (by with_reducible assumption) (by decide) | omega); (case hz_z2 => first | with_reducible assumption | exact leN (by with_reducible assumption) (by decide) | exact eqN (by with_reducible assumption) (by decide) | exact leN3 (by with_reducible assumption) (by with_reducible assumption) (by with_reducible assumption) (by decide) | exact lenA (by with_reducible assumption) (by with_reducible assumption) (by decide) | exact lenB (by with_reducible assumption) (by with_reducible assumption) (by decide) | exact sizeB (by with_reducible assumption) (by with_reducible assumption) (by with_reducible assumption) (by decide) | exact tnA (by with_reducible assumption) (by decide) | exact tnB (by with_reducible assumption) (by decide) | exact posNat (by with_reducible assumption) | exact eq0 (by with_reducible assumption) | omega); (case hz_z3 => first | with_reducible assumption | exact leN (by with_reducible assumption) (by decide) | exact eqN (by with_reducible assumption) (by decide) | exact leN3 (by with_reducible assumption) (by with_reducible assumption) (by with_reducible assumption) (by decide) | exact lenA (by with_reducible assumption) (by with_reducible assumption) (by decide) | exact lenB (by with_reducible assumption) (by with_reducible assumption) (by decide) | exact sizeB (by with_reducible assumption) (by with_reducible assumption) (by with_reducible assumption) (by decide) | exact tnA (by with_reducible assumption) (by decide) | exact tnB (by with_reducible assumption) (by decide) | exact posNat (by with_reducible assumption) | exact eq0 (by with_reducible assumption) | (rw [oct_size]; decide) | omega); intro D' vs' n' h' k' st' hD' Ky' fr'; (rename LF _ _ _ _ _ _ _ _ _ _ => Lf); (have nE' := fresh_ne_E Lf (by k_asm) (by k_dflt k_mem) fr'); (have F' := Fr.stay (by k_asm) st'); (have N' := News.fresh_cons (by k_asm) (by k_asm) st' hD' fr'); (try k_sweep); (try (refine keepP ?_)); (try dsimp only); (try k_fold))
    | with_reducible ( (with_reducible show wpAny _ _ (subscriptTail _ _ (Value.ref _) (Value.ref _)) _ _ _); k_dflt (refine' get_D ?hz_hu ?hz_hk ?hz_ho ?hz_D ?hz_ks ?hz_hp ?_ ?hz_a ?hz_b; (case hz_a => with_unfolding_all rfl); (case hz_b => intro _; with_unfolding_all rfl); (case hz_hp => with_reducible assumption); (case hz_hk => first | with_reducible assumption | exact tupB_key (News.get (by k_asm) (by k_mem))); (case hz_ho => exact News.get (by k_asm) (by k_mem)); (case hz_D => with_reducible assumption); (case hz_hu => exact Nat.le_of_ble_eq_true rfl); (case hz_ks => exact keys_at (by with_reducible assumption) (tups_at (by k_asm) (by (intro q hq; repeat (first | exact hq | exact List.mem_append_left _ hq | exact List.mem_append_right _ hq | refine List.mem_cons_of_mem _ ?_)))))); intro _; (try dsimp only))
    | with_reducible ((with_reducible show MapPost _ _ _ _ _ _ _ _); (k_dflt (refine' MapPost.intro ?hz_F ?hz_N); (case hz_F => k_asm); (case hz_N => k_asm)))
    | with_reducible ((with_reducible show LCg.CompSrc _ _ _ _ _ _ _ _ _ _ _ _ _ _); ( (rename CallsAre _ _ _ _ => Ca); (rename Chain _ _ _ _ _ _ _ _ => Ch); k_dflt (refine' LCg.CompSrc.ledger ?hz_hh ?hz_F ?hz_N ?hz_M ?hz_z ?_; (case hz_hh => rfl); (case hz_F => k_asm); (case hz_N => k_asm); (case hz_M => k_mem); (case hz_z => (rw [PySem.sizeLine_eq]; (first | with_reducible assumption | exact leN (by with_reducible assumption) (by decide) | exact eqN (by with_reducible assumption) (by decide) | exact leN3 (by with_reducible assumption) (by with_reducible assumption) (by with_reducible assumption) (by decide) | exact lenA (by with_reducible assumption) (by with_reducible assumption) (by decide) | exact lenB (by with_reducible assumption) (by with_reducible assumption) (by decide) | exact sizeB (by with_reducible assumption) (by with_reducible assumption) (by with_reducible assumption) (by decide) | exact tnA (by with_reducible assumption) (by decide) | exact tnB (by with_reducible assumption) (by decide) | exact posNat (by with_reducible assumption) | exact eq0 (by with_reducible assumption) | omega)))); intro g'; k_dflt (refine' known_comp Ca Ch ?hz_S ?hz_t ?hz_z ?_ ?_; (case hz_S => exact SrcAt.led (by k_mem)); (case hz_t => (intro q hq; repeat (first | exact hq | exact List.mem_append_left _ hq | exact List.mem_append_right _ hq | refine List.mem_cons_of_mem _ ?_))); (case hz_z => with_reducible assumption)); (intro i D k p I oI C oC Dl m₂ h' tk' E' ys hk' hp' hC' hx' F' N'; (try dsimp only at N'); (try dsimp only); (try k_sweep))))
    | with_reducible ((with_reducible show LCg.FinE _ _ _ _ _ _ _); ((unfold LCg.FinE); intro D' h' tk' F' N' o1'; (try dsimp only at o1'); (try simp only [List.nil_append, List.cons_append] at N'); (try dsimp only)))
    | with_reducible ( (with_reducible show wpAny _ _ (call (Value.ref 165) [Value.int _ _]) _ _ _); k_dflt (refine' octets (Cx.law ?hz_B ?hz_F ?hz_X ?hz_T ?hz_K ?hz_d ?hz_u ?hz_N ?hz_S) ?hz_z ?hz_z' ?_); (case hz_B => k_asm); (case hz_F => k_asm); (case hz_X => k_asm); (case hz_T => k_asm); (case hz_K => first | exact rfl | assumption); (case hz_N => k_asm); (case hz_d => k_dflt (exact Nat.le_of_ble_eq_true rfl)); (case hz_u => k_dflt (exact Nat.le_of_ble_eq_true rfl)); (case hz_S => k_dflt (exact nsub_LawX)); (case hz_z => with_reducible assumption); (case hz_z' => with_reducible assumption); intro _ h' _ st'; (have F' := Fr.stay (by k_asm) st'); (have N' := News.stay (by k_asm) st'); (try k_sweep); (try (refine keepP ?_)); (try dsimp only); (try k_fold))
    | with_reducible ((with_reducible refine' modN ?_); intro v _ _ hv h0 h1; (have zv := szN h0 h1); subst hv; (try dsimp only))
    | with_reducible ( (with_reducible show wpAny _ _ (call (Value.ref _) [Value.bytes _ _, Value.str _ _]) _ _ _); kfb_any; k_dflt (refine' from_bytes_call ?hz_kfbN ?hz_kfbM ?hz_kfbS ?_; (case hz_kfbN => k_asm); (case hz_kfbM => k_mem); (case hz_kfbS => first | with_reducible assumption | exact leN (by with_reducible assumption) (by decide) | exact eqN (by with_reducible assumption) (by decide) | exact leN3 (by with_reducible assumption) (by with_reducible assumption) (by with_reducible assumption) (by decide) | exact lenA (by with_reducible assumption) (by with_reducible assumption) (by decide) | exact lenB (by with_reducible assumption) (by with_reducible assumption) (by decide) | exact sizeB (by with_reducible assumption) (by with_reducible assumption) (by with_reducible assumption) (by decide) | exact tnA (by with_reducible assumption) (by decide) | exact tnB (by with_reducible assumption) (by decide) | exact posNat (by with_reducible assumption) | exact eq0 (by with_reducible assumption) | omega)); intro _ _; (try dsimp only))
    | with_reducible ( (with_reducible show wpAny _ _ (call (Value.builtin _) [Value.ref _]) _ _ _); k_dflt (refine' len5 ?hz_N ?hz_M ?hz_z ?_; (case hz_N => k_asm); (case hz_M => k_mem); (case hz_z => with_reducible assumption)); intro _ _; (try dsimp only))
    | with_reducible ( (with_reducible show wpAny _ _ (call (Value.ref 151) [Value.bytes _ _, Value.bytes _ _, Value.ref _]) _ _ _); (rename LF _ _ _ _ _ _ _ _ _ _ => Lf); (rename TurnI _ _ _ _ _ _ _ _ _ _ _ => Ti); (rename MR.Ok _ => Kr); k_dflt (refine' sign_rule2 (pre := [_, _, _, _, _, _, _, _]) Lf Ti (Cx.law ?hz_B ?hz_F ?hz_X ?hz_T ?hz_K ?hz_d ?hz_u ?hz_N ?hz_S) ?hz_F2 ?hz_N2 Kr ?hz_hx ?hz_hm ?hz_hs ?hz_hp ?hz_pB ?hz_pE ?hz_pI ?_); (case hz_B => k_asm); (case hz_F => k_asm); (case hz_X => k_asm); (case hz_T => k_asm); (case hz_K => first | exact rfl | assumption); (case hz_N => k_asm); (case hz_d => k_dflt (exact Nat.le_of_ble_eq_true rfl)); (case hz_u => k_dflt (exact Nat.le_of_ble_eq_true rfl)); (case hz_F2 => k_asm); (case hz_N2 => k_dflt k_asm); (case hz_S => k_dflt (exact fun q hq => List.mem_append_right [_, _, _, _, _, _, _, _] (List.mem_append_left _ hq))); (case hz_hx => first | with_reducible assumption | exact leN (by with_reducible assumption) (by decide) | exact eqN (by with_reducible assumption) (by decide) | exact leN3 (by with_reducible assumption) (by with_reducible assumption) (by with_reducible assumption) (by decide) | exact lenA (by with_reducible assumption) (by with_reducible assumption) (by decide) | exact lenB (by with_reducible assumption) (by with_reducible assumption) (by decide) | exact sizeB (by with_reducible assumption) (by with_reducible assumption) (by with_reducible assumption) (by decide) | exact tnA (by with_reducible assumption) (by decide) | exact tnB (by with_reducible assumption) (by decide) | exact posNat (by with_reducible assumption) | exact eq0 (by with_reducible assumption) | omega); (case hz_hm => with_reducible assumption); (case hz_hs => with_reducible assumption); (case hz_hp => ((repeat (k_dflt (refine' pairs_cons ?_ ?_ ?_))); all_goals (first | exact pairs_nil | k_ne))); (case hz_pB => k_dflt k_mem); (case hz_pE => k_dflt k_mem); (case hz_pI => k_dflt k_mem); intro a0 a1' a2 a3 a4 D' t1' t2' t3' cD' h' k' sg' Ch' Mw' Ca' z5' mo' Gr' cs5' Ti' F' N' tB' tE' tI' tC' nB' nE' nI' nC' nK'; (have Dk' := Mw'.dict); (have Kk' := Mw'.keys); (have De' := Lf.d); (have Ke' := Lf.ek); (have y0' := valOf_size Mw' (Chain.h0 Ch')); (have y1' := valOf_size Mw' (Chain.h1 Ch')); dsimp only [List.cons_append, List.nil_append, MR.own] at N'; (try k_sweep); (try (refine keepP ?_)); (try dsimp only); (try k_fold))
    | with_reducible ((with_reducible show PopOut _ _ _ _ _ _ _ _); (k_dflt (refine' PopOut.intro ?hz_F ?hz_N ?hz_e); (case hz_F => k_asm); (case hz_N => k_asm); (case hz_e => first | with_reducible assumption | exact leN (by with_reducible assumption) (by decide) | exact eqN (by with_reducible assumption) (by decide) | exact leN3 (by with_reducible assumption) (by with_reducible assumption) (by with_reducible assumption) (by decide) | exact lenA (by with_reducible assumption) (by with_reducible assumption) (by decide) | exact lenB (by with_reducible assumption) (by with_reducible assumption) (by decide) | exact sizeB (by with_reducible assumption) (by with_reducible assumption) (by with_reducible assumption) (by decide) | exact tnA (by with_reducible assumption) (by decide) | exact tnB (by with_reducible assumption) (by decide) | exact posNat (by with_reducible assumption) | exact eq0 (by with_reducible assumption) | omega)))
    | with_reducible ((with_reducible show PopEnd _ _ _ _ _ _ _ _ _); (k_dflt (refine' PopEnd.intro ?hz_F ?hz_N ?hz_k); (case hz_F => k_asm); (case hz_N => k_asm); (case hz_k => first | with_reducible assumption | exact leN (by with_reducible assumption) (by decide) | exact eqN (by with_reducible assumption) (by decide) | exact leN3 (by with_reducible assumption) (by with_reducible assumption) (by with_reducible assumption) (by decide) | exact lenA (by with_reducible assumption) (by with_reducible assumption) (by decide) | exact lenB (by with_reducible assumption) (by with_reducible assumption) (by decide) | exact sizeB (by with_reducible assumption) (by with_reducible assumption) (by with_reducible assumption) (by decide) | exact tnA (by with_reducible assumption) (by decide) | exact tnB (by with_reducible assumption) (by decide) | exact posNat (by with_reducible assumption) | exact eq0 (by with_reducible assumption) | omega)))
    | with_reducible ( (with_reducible show wpAny _ _ (call (Value.builtin _) [Value.ref _]) _ _ _); (rename CallsAt _ => zC); k_dflt (refine' popN ?hz_F ?hz_N ?hz_U ?hz_p ?hz_z ?_; (case hz_F => k_asm); (case hz_N => k_asm); (case hz_U => k_updF); (case hz_p => first | with_reducible assumption | exact leN (by with_reducible assumption) (by decide) | exact eqN (by with_reducible assumption) (by decide) | exact leN3 (by with_reducible assumption) (by with_reducible assumption) (by with_reducible assumption) (by decide) | exact lenA (by with_reducible assumption) (by with_reducible assumption) (by decide) | exact lenB (by with_reducible assumption) (by with_reducible assumption) (by decide) | exact sizeB (by with_reducible assumption) (by with_reducible assumption) (by with_reducible assumption) (by decide) | exact tnA (by with_reducible assumption) (by decide) | exact tnB (by with_reducible assumption) (by decide) | exact posNat (by with_reducible assumption) | exact eq0 (by with_reducible assumption) | omega); (case hz_z => first | with_reducible assumption | exact leN (by with_reducible assumption) (by decide) | exact eqN (by with_reducible assumption) (by decide) | exact leN3 (by with_reducible assumption) (by with_reducible assumption) (by with_reducible assumption) (by decide) | exact lenA (by with_reducible assumption) (by with_reducible assumption) (by decide) | exact lenB (by with_reducible assumption) (by with_reducible assumption) (by decide) | exact sizeB (by with_reducible assumption) (by with_reducible assumption) (by with_reducible assumption) (by decide) | exact tnA (by with_reducible assumption) (by decide) | exact tnB (by with_reducible assumption) (by decide) | exact posNat (by with_reducible assumption) | exact eq0 (by with_reducible assumption) | omega)); intro y' h' its' hp' F' N'; (try dsimp only at N'); (try k_sweep); (try dsimp only))
    | with_reducible ((with_reducible show wpAny _ _ (exec (Stmt.While _ _ _ _) _) _ _ _); ( (rename CallsAt _ => zC); k_dflt (refine' calls_loop zC ?hz_F ?hz_N ?hz_M ?hz_U ?hz_z ?_ ?_ ?hz_hE); (case hz_F => k_asm); (case hz_N => k_asm); (case hz_M => k_dflt k_mem); (case hz_U => k_updF); (case hz_z => first | with_reducible assumption | exact leN (by with_reducible assumption) (by decide) | exact eqN (by with_reducible assumption) (by decide) | exact leN3 (by with_reducible assumption) (by with_reducible assumption) (by with_reducible assumption) (by decide) | exact lenA (by with_reducible assumption) (by with_reducible assumption) (by decide) | exact lenB (by with_reducible assumption) (by with_reducible assumption) (by decide) | exact sizeB (by with_reducible assumption) (by with_reducible assumption) (by with_reducible assumption) (by decide) | exact tnA (by with_reducible assumption) (by decide) | exact tnB (by with_reducible assumption) (by decide) | exact posNat (by with_reducible assumption) | exact eq0 (by with_reducible assumption) | omega); (case hz_hE => first | assumption | k_dflt passes_own); (intro its' c' h' tk' hz' F' N'; (try dsimp only at N'); (try k_sweep)); rotate_left; (intro c' h' tk' F' N'; (try dsimp only at N'); (try k_sweep)); rotate_right))
    | with_reducible ( (with_reducible show wpAny _ _ (subscriptTail _ _ (Value.ref _) (Value.int _ _)) _ _ _); k_dflt (refine' item32 ?hz_N ?hz_M ?hz_G ?hz_h0 ?hz_h1 ?hz_z ?_ ?hz_a ?hz_b; (case hz_a => with_unfolding_all rfl); (case hz_b => intro _; with_unfolding_all rfl); (case hz_N => k_asm); (case hz_M => k_mem); (case hz_G => with_reducible assumption); (case hz_h0 => first | with_reducible assumption | decide | exact geI (by with_reducible assumption) (by decide) | exact leI (by with_reducible assumption) (by decide) | exact ltLe (by with_reducible assumption) (by decide) | exact dropI (by with_reducible assumption) (by decide) | exact upI (by with_reducible assumption) (by decide) | exact pgeI (by with_reducible assumption) (by decide) | exact pleI (by with_reducible assumption) (by decide) | exact pge2I (by with_reducible assumption) (by decide) | exact self2I (by decide) | exact self1I (by decide) | exact self0I (by decide) | exact addgeI (by with_reducible assumption) (by decide) | exact addltI (by with_reducible assumption) (by decide) | exact addleI (by with_reducible assumption) (by decide) | exact ge2I (by with_reducible assumption) (by with_reducible assumption) (by decide) | exact ge2pI (by with_reducible assumption) (by with_reducible assumption) (by decide) | exact bdA (by with_reducible assumption) (by decide) | exact bdB (by with_reducible assumption) (by with_reducible assumption) (by decide) | exact bdC (by with_reducible assumption) (by with_reducible assumption) (by decide) | exact bdD (by with_reducible assumption) (by with_reducible assumption) (by with_reducible assumption) (by decide) (by decide) | exact bdE (by with_reducible assumption) (by with_reducible assumption) (by with_reducible assumption) (by with_reducible assumption) (by decide) (by decide) | exact bdF (by with_reducible assumption) (by with_reducible assumption) (by with_reducible assumption) (by with_reducible assumption) (by decide) (by decide) | exact natPos (by with_reducible assumption) | exact natLe (by with_reducible assumption) (by decide) | exact hbI (by with_reducible assumption) (by with_reducible assumption) (by with_reducible assumption) (by decide) | omega); (case hz_h1 => first | with_reducible assumption | decide | exact geI (by with_reducible assumption) (by decide) | exact leI (by with_reducible assumption) (by decide) | exact ltLe (by with_reducible assumption) (by decide) | exact dropI (by with_reducible assumption) (by decide) | exact upI (by with_reducible assumption) (by decide) | exact pgeI (by with_reducible assumption) (by decide) | exact pleI (by with_reducible assumption) (by decide) | exact pge2I (by with_reducible assumption) (by decide) | exact self2I (by decide) | exact self1I (by decide) | exact self0I (by decide) | exact addgeI (by with_reducible assumption) (by decide) | exact addltI (by with_reducible assumption) (by decide) | exact addleI (by with_reducible assumption) (by decide) | exact ge2I (by with_reducible assumption) (by with_reducible assumption) (by decide) | exact ge2pI (by with_reducible assumption) (by with_reducible assumption) (by decide) | exact bdA (by with_reducible assumption) (by decide) | exact bdB (by with_reducible assumption) (by with_reducible assumption) (by decide) | exact bdC (by with_reducible assumption) (by with_reducible assumption) (by decide) | exact bdD (by with_reducible assumption) (by with_reducible assumption) (by with_reducible assumption) (by decide) (by decide) | exact bdE (by with_reducible assumption) (by with_reducible assumption) (by with_reducible assumption) (by with_reducible assumption) (by decide) (by decide) | exact bdF (by with_reducible assumption) (by with_reducible assumption) (by with_reducible assumption) (by with_reducible assumption) (by decide) (by decide) | exact natPos (by with_reducible assumption) | exact natLe (by with_reducible assumption) (by decide) | exact hbI (by with_reducible assumption) (by with_reducible assumption) (by with_reducible assumption) (by decide) | omega); (case hz_z => first | with_reducible assumption | exact leN (by with_reducible assumption) (by decide) | exact eqN (by with_reducible assumption) (by decide) | exact leN3 (by with_reducible assumption) (by with_reducible assumption) (by with_reducible assumption) (by decide) | exact lenA (by with_reducible assumption) (by with_reducible assumption) (by decide) | exact lenB (by with_reducible assumption) (by with_reducible assumption) (by decide) | exact sizeB (by with_reducible assumption) (by with_reducible assumption) (by with_reducible assumption) (by decide) | exact tnA (by with_reducible assumption) (by decide) | exact tnB (by with_reducible assumption) (by decide) | exact posNat (by with_reducible assumption) | exact eq0 (by with_reducible assumption) | omega)); intro b' _ hb'; (try dsimp only))
    | with_reducible ((with_reducible show wpAny _ _ (call (Value.builtin _) [Value.ref _]) _ _ _); k_dflt (refine' lenL ?hz_N ?hz_M ?hz_z ?_; (case hz_N => k_asm); (case hz_M => k_mem); (case hz_z => first | with_reducible assumption | exact leN (by with_reducible assumption) (by decide) | exact eqN (by with_reducible assumption) (by decide) | exact leN3 (by with_reducible assumption) (by with_reducible assumption) (by with_reducible assumption) (by decide) | exact lenA (by with_reducible assumption) (by with_reducible assumption) (by decide) | exact lenB (by with_reducible assumption) (by with_reducible assumption) (by decide) | exact sizeB (by with_reducible assumption) (by with_reducible assumption) (by with_reducible assumption) (by decide) | exact tnA (by with_reducible assumption) (by decide) | exact tnB (by with_reducible assumption) (by decide) | exact posNat (by with_reducible assumption) | exact eq0 (by with_reducible assumption) | omega)); intro _ _; (try dsimp only))
    | with_reducible ((with_reducible show wpAny _ _ (call (Value.builtin _) [Value.ref _]) _ _ _); k_dflt (refine' lenN ?hz_N ?hz_M ?hz_z ?_; (case hz_N => k_asm); (case hz_M => k_mem); (case hz_z => first | with_reducible assumption | exact leN (by with_reducible assumption) (by decide) | exact eqN (by with_reducible assumption) (by decide) | exact leN3 (by with_reducible assumption) (by with_reducible assumption) (by with_reducible assumption) (by decide) | exact lenA (by with_reducible assumption) (by with_reducible assumption) (by decide) | exact lenB (by with_reducible assumption) (by with_reducible assumption) (by decide) | exact sizeB (by with_reducible assumption) (by with_reducible assumption) (by with_reducible assumption) (by decide) | exact tnA (by with_reducible assumption) (by decide) | exact tnB (by with_reducible assumption) (by decide) | exact posNat (by with_reducible assumption) | exact eq0 (by with_reducible assumption) | omega)); intro _ _; (try dsimp only))
    | with_reducible ((with_reducible show IsB32 _); (exact ⟨_, _, rfl, by assumption⟩))
    | ((with_reducible show IsB32 _); (exact ⟨_, _, rfl, by assumption⟩))
    | with_reducible ((with_reducible show BoxPost _ _ _ _ _ _ _ _ _ _ _ _ _ _ _ _ _ _ _); ( k_dflt (refine' BoxPost.intro ?hz_F ?hz_N ?hz_a ?hz_b ?_); (case hz_F => k_asm); (case hz_N => k_asm); (case hz_a => first | with_reducible assumption | decide | exact geI (by with_reducible assumption) (by decide) | exact leI (by with_reducible assumption) (by decide) | exact ltLe (by with_reducible assumption) (by decide) | exact dropI (by with_reducible assumption) (by decide) | exact upI (by with_reducible assumption) (by decide) | exact pgeI (by with_reducible assumption) (by decide) | exact pleI (by with_reducible assumption) (by decide) | exact pge2I (by with_reducible assumption) (by decide) | exact self2I (by decide) | exact self1I (by decide) | exact self0I (by decide) | exact addgeI (by with_reducible assumption) (by decide) | exact addltI (by with_reducible assumption) (by decide) | exact addleI (by with_reducible assumption) (by decide) | exact ge2I (by with_reducible assumption) (by with_reducible assumption) (by decide) | exact ge2pI (by with_reducible assumption) (by with_reducible assumption) (by decide) | exact bdA (by with_reducible assumption) (by decide) | exact bdB (by with_reducible assumption) (by with_reducible assumption) (by decide) | exact bdC (by with_reducible assumption) (by with_reducible assumption) (by decide) | exact bdD (by with_reducible assumption) (by with_reducible assumption) (by with_reducible assumption) (by decide) (by decide) | exact bdE (by with_reducible assumption) (by with_reducible assumption) (by with_reducible assumption) (by with_reducible assumption) (by decide) (by decide) | exact bdF (by with_reducible assumption) (by with_reducible assumption) (by with_reducible assumption) (by with_reducible assumption) (by decide) (by decide) | exact natPos (by with_reducible assumption) | exact natLe (by with_reducible assumption) (by decide) | exact hbI (by with_reducible assumption) (by with_reducible assumption) (by with_reducible assumption) (by decide) | omega); (case hz_b => first | with_reducible assumption | decide | exact geI (by with_reducible assumption) (by decide) | exact leI (by with_reducible assumption) (by decide) | exact ltLe (by with_reducible assumption) (by decide) | exact dropI (by with_reducible assumption) (by decide) | exact upI (by with_reducible assumption) (by decide) | exact pgeI (by with_reducible assumption) (by decide) | exact pleI (by with_reducible assumption) (by decide) | exact pge2I (by with_reducible assumption) (by decide) | exact self2I (by decide) | exact self1I (by decide) | exact self0I (by decide) | exact addgeI (by with_reducible assumption) (by decide) | exact addltI (by with_reducible assumption) (by decide) | exact addleI (by with_reducible assumption) (by decide) | exact ge2I (by with_reducible assumption) (by with_reducible assumption) (by decide) | exact ge2pI (by with_reducible assumption) (by with_reducible assumption) (by decide) | exact bdA (by with_reducible assumption) (by decide) | exact bdB (by with_reducible assumption) (by with_reducible assumption) (by decide) | exact bdC (by with_reducible assumption) (by with_reducible assumption) (by decide) | exact bdD (by with_reducible assumption) (by with_reducible assumption) (by with_reducible assumption) (by decide) (by decide) | exact bdE (by with_reducible assumption) (by with_reducible assumption) (by with_reducible assumption) (by with_reducible assumption) (by decide) (by decide) | exact bdF (by with_reducible assumption) (by with_reducible assumption) (by with_reducible assumption) (by with_reducible assumption) (by decide) (by decide) | exact natPos (by with_reducible assumption) | exact natLe (by with_reducible assumption) (by decide) | exact hbI (by with_reducible assumption) (by with_reducible assumption) (by with_reducible assumption) (by decide) | omega)))
    | with_reducible ((with_reducible show LCg.CompSrc _ _ _ _ _ _ _ _ _ _ _ _ _ _); ( (fail_if_success (rename LCg.Off1 _ _ => z)); k_dflt (refine LCg.CompSrc.range (by rfl) (by k_asm) (by k_asm) (by with_reducible assumption) (small_one (by first | decide | exact geI (by with_reducible assumption) (by decide) | exact ltI (by with_reducible assumption) (by decide) | exact addgeI (by with_reducible assumption) (by decide) | exact addltI (by with_reducible assumption) (by decide) | omega) (by first | decide | exact geI (by with_reducible assumption) (by decide) | exact ltI (by with_reducible assumption) (by decide) | exact addgeI (by with_reducible assumption) (by decide) | exact addltI (by with_reducible assumption) (by decide) | omega) (by first | decide | exact geI (by with_reducible assumption) (by decide) | exact ltI (by with_reducible assumption) (by decide) | exact addgeI (by with_reducible assumption) (by decide) | exact addltI (by with_reducible assumption) (by decide) | omega) (by first | decide | exact geI (by with_reducible assumption) (by decide) | exact ltI (by with_reducible assumption) (by decide) | exact addgeI (by with_reducible assumption) (by decide) | exact addltI (by with_reducible assumption) (by decide) | omega)) (rangeSize_nat _ _) (by rw [PySem.sizeLine_eq]; (first | with_reducible assumption | exact leN (by with_reducible assumption) (by decide) | exact eqN (by with_reducible assumption) (by decide) | exact leN3 (by with_reducible assumption) (by with_reducible assumption) (by with_reducible assumption) (by decide) | exact lenA (by with_reducible assumption) (by with_reducible assumption) (by decide) | exact lenB (by with_reducible assumption) (by with_reducible assumption) (by decide) | exact sizeB (by with_reducible assumption) (by with_reducible assumption) (by with_reducible assumption) (by decide) | exact tnA (by with_reducible assumption) (by decide) | exact tnB (by with_reducible assumption) (by decide) | exact posNat (by with_reducible assumption) | exact eq0 (by with_reducible assumption) | omega)) ?_); intro g'; k_dflt (refine' boxCompB ?hz_M ?hz_U IsB32 _ 40 (by decide) ?hz_L0 ?hz_B0 ?_ ?_); (case hz_M => k_dflt k_mem); (case hz_U => k_updF); (case hz_L0 => first | with_reducible assumption | decide | exact geI (by with_reducible assumption) (by decide) | exact leI (by with_reducible assumption) (by decide) | exact ltLe (by with_reducible assumption) (by decide) | exact dropI (by with_reducible assumption) (by decide) | exact upI (by with_reducible assumption) (by decide) | exact pgeI (by with_reducible assumption) (by decide) | exact pleI (by with_reducible assumption) (by decide) | exact pge2I (by with_reducible assumption) (by decide) | exact self2I (by decide) | exact self1I (by decide) | exact self0I (by decide) | exact addgeI (by with_reducible assumption) (by decide) | exact addltI (by with_reducible assumption) (by decide) | exact addleI (by with_reducible assumption) (by decide) | exact ge2I (by with_reducible assumption) (by with_reducible assumption) (by decide) | exact ge2pI (by with_reducible assumption) (by with_reducible assumption) (by decide) | exact bdA (by with_reducible assumption) (by decide) | exact bdB (by with_reducible assumption) (by with_reducible assumption) (by decide) | exact bdC (by with_reducible assumption) (by with_reducible assumption) (by decide) | exact bdD (by with_reducible assumption) (by with_reducible assumption) (by with_reducible assumption) (by decide) (by decide) | exact bdE (by with_reducible assumption) (by with_reducible assumption) (by with_reducible assumption) (by with_reducible assumption) (by decide) (by decide) | exact bdF (by with_reducible assumption) (by with_reducible assumption) (by with_reducible assumption) (by with_reducible assumption) (by decide) (by decide) | exact natPos (by with_reducible assumption) | exact natLe (by with_reducible assumption) (by decide) | exact hbI (by with_reducible assumption) (by with_reducible assumption) (by with_reducible assumption) (by decide) | omega); (case hz_B0 => first | with_reducible assumption | decide | exact geI (by with_reducible assumption) (by decide) | exact leI (by with_reducible assumption) (by decide) | exact ltLe (by with_reducible assumption) (by decide) | exact dropI (by with_reducible assumption) (by decide) | exact upI (by with_reducible assumption) (by decide) | exact pgeI (by with_reducible assumption) (by decide) | exact pleI (by with_reducible assumption) (by decide) | exact pge2I (by with_reducible assumption) (by decide) | exact self2I (by decide) | exact self1I (by decide) | exact self0I (by decide) | exact addgeI (by with_reducible assumption) (by decide) | exact addltI (by with_reducible assumption) (by decide) | exact addleI (by with_reducible assumption) (by decide) | exact ge2I (by with_reducible assumption) (by with_reducible assumption) (by decide) | exact ge2pI (by with_reducible assumption) (by with_reducible assumption) (by decide) | exact bdA (by with_reducible assumption) (by decide) | exact bdB (by with_reducible assumption) (by with_reducible assumption) (by decide) | exact bdC (by with_reducible assumption) (by with_reducible assumption) (by decide) | exact bdD (by with_reducible assumption) (by with_reducible assumption) (by with_reducible assumption) (by decide) (by decide) | exact bdE (by with_reducible assumption) (by with_reducible assumption) (by with_reducible assumption) (by with_reducible assumption) (by decide) (by decide) | exact bdF (by with_reducible assumption) (by with_reducible assumption) (by with_reducible assumption) (by with_reducible assumption) (by decide) (by decide) | exact natPos (by with_reducible assumption) | exact natLe (by with_reducible assumption) (by decide) | exact hbI (by with_reducible assumption) (by with_reducible assumption) (by with_reducible assumption) (by decide) | omega); (try (intro i v I oI C oC D m₂ h tk E' ys at' t hP h0 h1 hC hx F' N' b1 b2 b3; (have hP' := hP); obtain ⟨tv, hv⟩ := hP'; subst hv; clear hP; (try dsimp only at N'); (try dsimp only); (try k_sweep)))))
    | with_reducible ((with_reducible show LCg.CompSrc _ _ _ _ _ _ _ _ _ _ _ _ _ _); ( k_dflt (refine LCg.CompSrc.range (by rfl) (by k_asm) (by k_asm) (by with_reducible assumption) (small_one (by first | decide | exact geI (by with_reducible assumption) (by decide) | exact ltI (by with_reducible assumption) (by decide) | exact addgeI (by with_reducible assumption) (by decide) | exact addltI (by with_reducible assumption) (by decide) | omega) (by first | decide | exact geI (by with_reducible assumption) (by decide) | exact ltI (by with_reducible assumption) (by decide) | exact addgeI (by with_reducible assumption) (by decide) | exact addltI (by with_reducible assumption) (by decide) | omega) (by first | decide | exact geI (by with_reducible assumption) (by decide) | exact ltI (by with_reducible assumption) (by decide) | exact addgeI (by with_reducible assumption) (by decide) | exact addltI (by with_reducible assumption) (by decide) | omega) (by first | decide | exact geI (by with_reducible assumption) (by decide) | exact ltI (by with_reducible assumption) (by decide) | exact addgeI (by with_reducible assumption) (by decide) | exact addltI (by with_reducible assumption) (by decide) | omega)) (rangeSize_nat _ _) (by rw [PySem.sizeLine_eq]; (first | with_reducible assumption | exact leN (by with_reducible assumption) (by decide) | exact eqN (by with_reducible assumption) (by decide) | exact leN3 (by with_reducible assumption) (by with_reducible assumption) (by with_reducible assumption) (by decide) | exact lenA (by with_reducible assumption) (by with_reducible assumption) (by decide) | exact lenB (by with_reducible assumption) (by with_reducible assumption) (by decide) | exact sizeB (by with_reducible assumption) (by with_reducible assumption) (by with_reducible assumption) (by decide) | exact tnA (by with_reducible assumption) (by decide) | exact tnB (by with_reducible assumption) (by decide) | exact posNat (by with_reducible assumption) | exact eq0 (by with_reducible assumption) | omega)) ?_); intro g'; k_dflt (refine' boxCompB ?hz_M ?hz_U IsB32 _ 1300 (by decide) ?hz_L0 ?hz_B0 ?_ ?_); (case hz_M => k_dflt k_mem); (case hz_U => k_updF); (case hz_L0 => first | with_reducible assumption | decide | exact geI (by with_reducible assumption) (by decide) | exact leI (by with_reducible assumption) (by decide) | exact ltLe (by with_reducible assumption) (by decide) | exact dropI (by with_reducible assumption) (by decide) | exact upI (by with_reducible assumption) (by decide) | exact pgeI (by with_reducible assumption) (by decide) | exact pleI (by with_reducible assumption) (by decide) | exact pge2I (by with_reducible assumption) (by decide) | exact self2I (by decide) | exact self1I (by decide) | exact self0I (by decide) | exact addgeI (by with_reducible assumption) (by decide) | exact addltI (by with_reducible assumption) (by decide) | exact addleI (by with_reducible assumption) (by decide) | exact ge2I (by with_reducible assumption) (by with_reducible assumption) (by decide) | exact ge2pI (by with_reducible assumption) (by with_reducible assumption) (by decide) | exact bdA (by with_reducible assumption) (by decide) | exact bdB (by with_reducible assumption) (by with_reducible assumption) (by decide) | exact bdC (by with_reducible assumption) (by with_reducible assumption) (by decide) | exact bdD (by with_reducible assumption) (by with_reducible assumption) (by with_reducible assumption) (by decide) (by decide) | exact bdE (by with_reducible assumption) (by with_reducible assumption) (by with_reducible assumption) (by with_reducible assumption) (by decide) (by decide) | exact bdF (by with_reducible assumption) (by with_reducible assumption) (by with_reducible assumption) (by with_reducible assumption) (by decide) (by decide) | exact natPos (by with_reducible assumption) | exact natLe (by with_reducible assumption) (by decide) | exact hbI (by with_reducible assumption) (by with_reducible assumption) (by with_reducible assumption) (by decide) | omega); (case hz_B0 => first | with_reducible assumption | decide | exact geI (by with_reducible assumption) (by decide) | exact leI (by with_reducible assumption) (by decide) | exact ltLe (by with_reducible assumption) (by decide) | exact dropI (by with_reducible assumption) (by decide) | exact upI (by with_reducible assumption) (by decide) | exact pgeI (by with_reducible assumption) (by decide) | exact pleI (by with_reducible assumption) (by decide) | exact pge2I (by with_reducible assumption) (by decide) | exact self2I (by decide) | exact self1I (by decide) | exact self0I (by decide) | exact addgeI (by with_reducible assumption) (by decide) | exact addltI (by with_reducible assumption) (by decide) | exact addleI (by with_reducible assumption) (by decide) | exact ge2I (by with_reducible assumption) (by with_reducible assumption) (by decide) | exact ge2pI (by with_reducible assumption) (by with_reducible assumption) (by decide) | exact bdA (by with_reducible assumption) (by decide) | exact bdB (by with_reducible assumption) (by with_reducible assumption) (by decide) | exact bdC (by with_reducible assumption) (by with_reducible assumption) (by decide) | exact bdD (by with_reducible assumption) (by with_reducible assumption) (by with_reducible assumption) (by decide) (by decide) | exact bdE (by with_reducible assumption) (by with_reducible assumption) (by with_reducible assumption) (by with_reducible assumption) (by decide) (by decide) | exact bdF (by with_reducible assumption) (by with_reducible assumption) (by with_reducible assumption) (by with_reducible assumption) (by decide) (by decide) | exact natPos (by with_reducible assumption) | exact natLe (by with_reducible assumption) (by decide) | exact hbI (by with_reducible assumption) (by with_reducible assumption) (by with_reducible assumption) (by decide) | omega); (try (intro i v I oI C oC D m₂ h tk E' ys at' t hP h0 h1 hC hx F' N' b1 b2 b3; (have hP' := hP); obtain ⟨tv, hv⟩ := hP'; subst hv; clear hP; (try dsimp only at N'); (try dsimp only); (try k_sweep)))))
    | with_reducible ( (with_reducible show wpAny _ _ (call (Value.ref 177) [Value.ref _]) _ _ _); k_dflt (refine' hash (Cx.law ?hz_B ?hz_F ?hz_X ?hz_T ?hz_K ?hz_d ?hz_u ?hz_N ?hz_S) ?hz_R ?hz_a0 ?hz_a1 ?_); (case hz_B => k_asm); (case hz_F => k_asm); (case hz_X => k_asm); (case hz_T => k_asm); (case hz_K => first | exact rfl | assumption); (case hz_N => k_asm); (case hz_d => k_dflt (exact Nat.le_of_ble_eq_true rfl)); (case hz_u => k_dflt (exact Nat.le_of_ble_eq_true rfl)); (case hz_S => k_dflt (intro q hq; rw [List.mem_singleton] at hq; subst hq; k_mem)); (case hz_R => k_dflt (exact Rw.mk (by k_asm) (by k_mem) (by with_reducible assumption) (List.length_take_le _ _) (by k_ne))); (case hz_a0 => first | with_reducible assumption | decide | exact geI (by with_reducible assumption) (by decide) | exact leI (by with_reducible assumption) (by decide) | exact ltLe (by with_reducible assumption) (by decide) | exact dropI (by with_reducible assumption) (by decide) | exact upI (by with_reducible assumption) (by decide) | exact pgeI (by with_reducible assumption) (by decide) | exact pleI (by with_reducible assumption) (by decide) | exact pge2I (by with_reducible assumption) (by decide) | exact self2I (by decide) | exact self1I (by decide) | exact self0I (by decide) | exact addgeI (by with_reducible assumption) (by decide) | exact addltI (by with_reducible assumption) (by decide) | exact addleI (by with_reducible assumption) (by decide) | exact ge2I (by with_reducible assumption) (by with_reducible assumption) (by decide) | exact ge2pI (by with_reducible assumption) (by with_reducible assumption) (by decide) | exact bdA (by with_reducible assumption) (by decide) | exact bdB (by with_reducible assumption) (by with_reducible assumption) (by decide) | exact bdC (by with_reducible assumption) (by with_reducible assumption) (by decide) | exact bdD (by with_reducible assumption) (by with_reducible assumption) (by with_reducible assumption) (by decide) (by decide) | exact bdE (by with_reducible assumption) (by with_reducible assumption) (by with_reducible assumption) (by with_reducible assumption) (by decide) (by decide) | exact bdF (by with_reducible assumption) (by with_reducible assumption) (by with_reducible assumption) (by with_reducible assumption) (by decide) (by decide) | exact natPos (by with_reducible assumption) | exact natLe (by with_reducible assumption) (by decide) | exact hbI (by with_reducible assumption) (by with_reducible assumption) (by with_reducible assumption) (by decide) | omega); (case hz_a1 => first | with_reducible assumption | decide | exact geI (by with_reducible assumption) (by decide) | exact leI (by with_reducible assumption) (by decide) | exact ltLe (by with_reducible assumption) (by decide) | exact dropI (by with_reducible assumption) (by decide) | exact upI (by with_reducible assumption) (by decide) | exact pgeI (by with_reducible assumption) (by decide) | exact pleI (by with_reducible assumption) (by decide) | exact pge2I (by with_reducible assumption) (by decide) | exact self2I (by decide) | exact self1I (by decide) | exact self0I (by decide) | exact addgeI (by with_reducible assumption) (by decide) | exact addltI (by with_reducible assumption) (by decide) | exact addleI (by with_reducible assumption) (by decide) | exact ge2I (by with_reducible assumption) (by with_reducible assumption) (by decide) | exact ge2pI (by with_reducible assumption) (by with_reducible assumption) (by decide) | exact bdA (by with_reducible assumption) (by decide) | exact bdB (by with_reducible assumption) (by with_reducible assumption) (by decide) | exact bdC (by with_reducible assumption) (by with_reducible assumption) (by decide) | exact bdD (by with_reducible assumption) (by with_reducible assumption) (by with_reducible assumption) (by decide) (by decide) | exact bdE (by with_reducible assumption) (by with_reducible assumption) (by with_reducible assumption) (by with_reducible assumption) (by decide) (by decide) | exact bdF (by with_reducible assumption) (by with_reducible assumption) (by with_reducible assumption) (by with_reducible assumption) (by decide) (by decide) | exact natPos (by with_reducible assumption) | exact natLe (by with_reducible assumption) (by decide) | exact hbI (by with_reducible assumption) (by with_reducible assumption) (by with_reducible assumption) (by decide) | omega); intro b' _ at2' _ h' _ hb' v0 v1 kb' ho'; (have X' := but_F (by k_asm) (by k_asm) (by k_updF) kb' ho'); (have F' := X'.1); (have N' := X'.2); clear X' kb' ho'; (try dsimp only at N'); (try k_sweep); (try (refine keepP ?_)); (try dsimp only); (try k_fold))
    | with_reducible ( (with_reducible show wpAny _ _ (call (Value.ref 172) [Value.ref _]) _ _ _); k_dflt (refine' secret (Cx.law ?hz_B ?hz_F ?hz_X ?hz_T ?hz_K ?hz_d ?hz_u ?hz_N ?hz_S) ?hz_R ?hz_a0 ?hz_a1 ?_); (case hz_B => k_asm); (case hz_F => k_asm); (case hz_X => k_asm); (case hz_T => k_asm); (case hz_K => first | exact rfl | assumption); (case hz_N => k_asm); (case hz_d => k_dflt (exact Nat.le_of_ble_eq_true rfl)); (case hz_u => k_dflt (exact Nat.le_of_ble_eq_true rfl)); (case hz_S => k_dflt (intro q hq; rw [List.mem_singleton] at hq; subst hq; k_mem)); (case hz_R => k_dflt (exact Rw.mk (by k_asm) (by k_mem) (by with_reducible assumption) (List.length_take_le _ _) (by k_ne))); (case hz_a0 => first | with_reducible assumption | decide | exact geI (by with_reducible assumption) (by decide) | exact leI (by with_reducible assumption) (by decide) | exact ltLe (by with_reducible assumption) (by decide) | exact dropI (by with_reducible assumption) (by decide) | exact upI (by with_reducible assumption) (by decide) | exact pgeI (by with_reducible assumption) (by decide) | exact pleI (by with_reducible assumption) (by decide) | exact pge2I (by with_reducible assumption) (by decide) | exact self2I (by decide) | exact self1I (by decide) | exact self0I (by decide) | exact addgeI (by with_reducible assumption) (by decide) | exact addltI (by with_reducible assumption) (by decide) | exact addleI (by with_reducible assumption) (by decide) | exact ge2I (by with_reducible assumption) (by with_reducible assumption) (by decide) | exact ge2pI (by with_reducible assumption) (by with_reducible assumption) (by decide) | exact bdA (by with_reducible assumption) (by decide) | exact bdB (by with_reducible assumption) (by with_reducible assumption) (by decide) | exact bdC (by with_reducible assumption) (by with_reducible assumption) (by decide) | exact bdD (by with_reducible assumption) (by with_reducible assumption) (by with_reducible assumption) (by decide) (by decide) | exact bdE (by with_reducible assumption) (by with_reducible assumption) (by with_reducible assumption) (by with_reducible assumption) (by decide) (by decide) | exact bdF (by with_reducible assumption) (by with_reducible assumption) (by with_reducible assumption) (by with_reducible assumption) (by decide) (by decide) | exact natPos (by with_reducible assumption) | exact natLe (by with_reducible assumption) (by decide) | exact hbI (by with_reducible assumption) (by with_reducible assumption) (by with_reducible assumption) (by decide) | omega); (case hz_a1 => first | with_reducible assumption | decide | exact geI (by with_reducible assumption) (by decide) | exact leI (by with_reducible assumption) (by decide) | exact ltLe (by with_reducible assumption) (by decide) | exact dropI (by with_reducible assumption) (by decide) | exact upI (by with_reducible assumption) (by decide) | exact pgeI (by with_reducible assumption) (by decide) | exact pleI (by with_reducible assumption) (by decide) | exact pge2I (by with_reducible assumption) (by decide) | exact self2I (by decide) | exact self1I (by decide) | exact self0I (by decide) | exact addgeI (by with_reducible assumption) (by decide) | exact addltI (by with_reducible assumption) (by decide) | exact addleI (by with_reducible assumption) (by decide) | exact ge2I (by with_reducible assumption) (by with_reducible assumption) (by decide) | exact ge2pI (by with_reducible assumption) (by with_reducible assumption) (by decide) | exact bdA (by with_reducible assumption) (by decide) | exact bdB (by with_reducible assumption) (by with_reducible assumption) (by decide) | exact bdC (by with_reducible assumption) (by with_reducible assumption) (by decide) | exact bdD (by with_reducible assumption) (by with_reducible assumption) (by with_reducible assumption) (by decide) (by decide) | exact bdE (by with_reducible assumption) (by with_reducible assumption) (by with_reducible assumption) (by with_reducible assumption) (by decide) (by decide) | exact bdF (by with_reducible assumption) (by with_reducible assumption) (by with_reducible assumption) (by with_reducible assumption) (by decide) (by decide) | exact natPos (by with_reducible assumption) | exact natLe (by with_reducible assumption) (by decide) | exact hbI (by with_reducible assumption) (by with_reducible assumption) (by with_reducible assumption) (by decide) | omega); intro b' _ at2' _ h' _ hb' v0 v1 kb' ho'; (have X' := but_F (by k_asm) (by k_asm) (by k_updF) kb' ho'); (have F' := X'.1); (have N' := X'.2); clear X' kb' ho'; (try dsimp only at N'); (try k_sweep); (try (refine keepP ?_)); (try dsimp only); (try k_fold))
    | with_reducible ( (with_reducible show wpAny _ _ (call (Value.ref 158) [Value.ref _, Value.int _ _]) _ _ _); k_dflt (refine' takeR (Cx.law ?hz_B ?hz_F ?hz_X ?hz_T ?hz_K ?hz_d ?hz_u ?hz_N ?hz_S) ?hz_R ?hz_a0 ?hz_a1 ?hz_m0 ?hz_m1 ?_); (case hz_B => k_asm); (case hz_F => k_asm); (case hz_X => k_asm); (case hz_T => k_asm); (case hz_K => first | exact rfl | assumption); (case hz_N => k_asm); (case hz_d => k_dflt (exact Nat.le_of_ble_eq_true rfl)); (case hz_u => k_dflt (exact Nat.le_of_ble_eq_true rfl)); (case hz_S => k_dflt (intro q hq; rw [List.mem_singleton] at hq; subst hq; k_mem)); (case hz_R => k_dflt (exact Rw.mk (by k_asm) (by k_mem) (by with_reducible assumption) (List.length_take_le _ _) (by k_ne))); (case hz_a0 => first | with_reducible assumption | decide | exact geI (by with_reducible assumption) (by decide) | exact leI (by with_reducible assumption) (by decide) | exact ltLe (by with_reducible assumption) (by decide) | exact dropI (by with_reducible assumption) (by decide) | exact upI (by with_reducible assumption) (by decide) | exact pgeI (by with_reducible assumption) (by decide) | exact pleI (by with_reducible assumption) (by decide) | exact pge2I (by with_reducible assumption) (by decide) | exact self2I (by decide) | exact self1I (by decide) | exact self0I (by decide) | exact addgeI (by with_reducible assumption) (by decide) | exact addltI (by with_reducible assumption) (by decide) | exact addleI (by with_reducible assumption) (by decide) | exact ge2I (by with_reducible assumption) (by with_reducible assumption) (by decide) | exact ge2pI (by with_reducible assumption) (by with_reducible assumption) (by decide) | exact bdA (by with_reducible assumption) (by decide) | exact bdB (by with_reducible assumption) (by with_reducible assumption) (by decide) | exact bdC (by with_reducible assumption) (by with_reducible assumption) (by decide) | exact bdD (by with_reducible assumption) (by with_reducible assumption) (by with_reducible assumption) (by decide) (by decide) | exact bdE (by with_reducible assumption) (by with_reducible assumption) (by with_reducible assumption) (by with_reducible assumption) (by decide) (by decide) | exact bdF (by with_reducible assumption) (by with_reducible assumption) (by with_reducible assumption) (by with_reducible assumption) (by decide) (by decide) | exact natPos (by with_reducible assumption) | exact natLe (by with_reducible assumption) (by decide) | exact hbI (by with_reducible assumption) (by with_reducible assumption) (by with_reducible assumption) (by decide) | omega); (case hz_a1 => first | with_reducible assumption | decide | exact geI (by with_reducible assumption) (by decide) | exact leI (by with_reducible assumption) (by decide) | exact ltLe (by with_reducible assumption) (by decide) | exact dropI (by with_reducible assumption) (by decide) | exact upI (by with_reducible assumption) (by decide) | exact pgeI (by with_reducible assumption) (by decide) | exact pleI (by with_reducible assumption) (by decide) | exact pge2I (by with_reducible assumption) (by decide) | exact self2I (by decide) | exact self1I (by decide) | exact self0I (by decide) | exact addgeI (by with_reducible assumption) (by decide) | exact addltI (by with_reducible assumption) (by decide) | exact addleI (by with_reducible assumption) (by decide) | exact ge2I (by with_reducible assumption) (by with_reducible assumption) (by decide) | exact ge2pI (by with_reducible assumption) (by with_reducible assumption) (by decide) | exact bdA (by with_reducible assumption) (by decide) | exact bdB (by with_reducible assumption) (by with_reducible assumption) (by decide) | exact bdC (by with_reducible assumption) (by with_reducible assumption) (by decide) | exact bdD (by with_reducible assumption) (by with_reducible assumption) (by with_reducible assumption) (by decide) (by decide) | exact bdE (by with_reducible assumption) (by with_reducible assumption) (by with_reducible assumption) (by with_reducible assumption) (by decide) (by decide) | exact bdF (by with_reducible assumption) (by with_reducible assumption) (by with_reducible assumption) (by with_reducible assumption) (by decide) (by decide) | exact natPos (by with_reducible assumption) | exact natLe (by with_reducible assumption) (by decide) | exact hbI (by with_reducible assumption) (by with_reducible assumption) (by with_reducible assumption) (by decide) | omega); (case hz_m0 => first | with_reducible assumption | decide | exact geI (by with_reducible assumption) (by decide) | exact leI (by with_reducible assumption) (by decide) | exact ltLe (by with_reducible assumption) (by decide) | exact dropI (by with_reducible assumption) (by decide) | exact upI (by with_reducible assumption) (by decide) | exact pgeI (by with_reducible assumption) (by decide) | exact pleI (by with_reducible assumption) (by decide) | exact pge2I (by with_reducible assumption) (by decide) | exact self2I (by decide) | exact self1I (by decide) | exact self0I (by decide) | exact addgeI (by with_reducible assumption) (by decide) | exact addltI (by with_reducible assumption) (by decide) | exact addleI (by with_reducible assumption) (by decide) | exact ge2I (by with_reducible assumption) (by with_reducible assumption) (by decide) | exact ge2pI (by with_reducible assumption) (by with_reducible assumption) (by decide) | exact bdA (by with_reducible assumption) (by decide) | exact bdB (by with_reducible assumption) (by with_reducible assumption) (by decide) | exact bdC (by with_reducible assumption) (by with_reducible assumption) (by decide) | exact bdD (by with_reducible assumption) (by with_reducible assumption) (by with_reducible assumption) (by decide) (by decide) | exact bdE (by with_reducible assumption) (by with_reducible assumption) (by with_reducible assumption) (by with_reducible assumption) (by decide) (by decide) | exact bdF (by with_reducible assumption) (by with_reducible assumption) (by with_reducible assumption) (by with_reducible assumption) (by decide) (by decide) | exact natPos (by with_reducible assumption) | exact natLe (by with_reducible assumption) (by decide) | exact hbI (by with_reducible assumption) (by with_reducible assumption) (by with_reducible assumption) (by decide) | omega); (case hz_m1 => first | with_reducible assumption | decide | exact geI (by with_reducible assumption) (by decide) | exact leI (by with_reducible assumption) (by decide) | exact ltLe (by with_reducible assumption) (by decide) | exact dropI (by with_reducible assumption) (by decide) | exact upI (by with_reducible assumption) (by decide) | exact pgeI (by with_reducible assumption) (by decide) | exact pleI (by with_reducible assumption) (by decide) | exact pge2I (by with_reducible assumption) (by decide) | exact self2I (by decide) | exact self1I (by decide) | exact self0I (by decide) | exact addgeI (by with_reducible assumption) (by decide) | exact addltI (by with_reducible assumption) (by decide) | exact addleI (by with_reducible assumption) (by decide) | exact ge2I (by with_reducible assumption) (by with_reducible assumption) (by decide) | exact ge2pI (by with_reducible assumption) (by with_reducible assumption) (by decide) | exact bdA (by with_reducible assumption) (by decide) | exact bdB (by with_reducible assumption) (by with_reducible assumption) (by decide) | exact bdC (by with_reducible assumption) (by with_reducible assumption) (by decide) | exact bdD (by with_reducible assumption) (by with_reducible assumption) (by with_reducible assumption) (by decide) (by decide) | exact bdE (by with_reducible assumption) (by with_reducible assumption) (by with_reducible assumption) (by with_reducible assumption) (by decide) (by decide) | exact bdF (by with_reducible assumption) (by with_reducible assumption) (by with_reducible assumption) (by with_reducible assumption) (by decide) (by decide) | exact natPos (by with_reducible assumption) | exact natLe (by with_reducible assumption) (by decide) | exact hbI (by with_reducible assumption) (by with_reducible assumption) (by with_reducible assumption) (by decide) | omega); intro v' _ _ h' _ v0 v1 kb' ho'; (have X' := but_F (by k_asm) (by k_asm) (by k_updF) kb' ho'); (have F' := X'.1); (have N' := X'.2); clear X' kb' ho'; (try dsimp only at N'); (try k_sweep); (try (refine keepP ?_)); (try dsimp only); (try k_fold))
    | with_reducible ((with_reducible refine addS ?_); intro _ _; (try dsimp only))
    | with_reducible ((with_reducible show LCg.FinA _ _ _ _ _ _ _ _); ((unfold LCg.FinA); intro D' h' tk' F' N' o1'; (try dsimp only at o1'); (try simp only [List.nil_append, List.cons_append] at N'); (try dsimp only)))
    | walk1
    | (dsimp only; walk1)
    | (leave1; walk_say "STEP leave1"; try dsimp only)
    | fail "no step")
  all_goals
    rename Fr _ _ _ _ => F9
    rename News _ _ _ _ => N9
    (try rw [beq_self_eq_true])
    exact fin _ _ _ _ F9 N9 (by k_mem)
theorem law0 : PySem.Challenge.rw_jv0012_01.Holds := hd (by
  k_go0
  all_goals (try k_fold)
  all_goals (try (have oS := ordS (by with_reducible assumption)))
  repeat' (first
    | (k_unfold; (try dsimp only))
    | (k_end; wrow_close)
    | with_reducible ((with_reducible show wpAny _ _ (exec (Stmt.Assign _ (Expr.ListComp _ _ _ _) _) _) _ _ _); ( (fail_if_success (rename MOk _ _ _ => z)); (rename News _ _ _ _ => N0); (rename Fr _ _ _ _ => F0); k_dflt (refine' law_mid F0 N0 rfl ?hz_e2 ?hz_e3 ?hz_e4 ?hz_hoc ?hz_hvs ?hz_lo ?hz_hd ?hz_hof ?hz_s1 ?hz_s2 ?hz_n1 ?hz_n2 ?_); (case hz_e2 => with_reducible assumption); (case hz_e3 => with_reducible assumption); (case hz_e4 => with_reducible assumption); (case hz_hoc => with_reducible assumption); (case hz_hvs => with_reducible assumption); (case hz_lo => with_reducible assumption); (case hz_hd => with_reducible assumption); (case hz_hof => k_dflt (exact rfl)); (case hz_s1 => first | with_reducible assumption | decide | exact geI (by with_reducible assumption) (by decide) | exact leI (by with_reducible assumption) (by decide) | exact ltLe (by with_reducible assumption) (by decide) | exact dropI (by with_reducible assumption) (by decide) | exact upI (by with_reducible assumption) (by decide) | exact pgeI (by with_reducible assumption) (by decide) | exact pleI (by with_reducible assumption) (by decide) | exact pge2I (by with_reducible assumption) (by decide) | exact self2I (by decide) | exact self1I (by decide) | exact self0I (by decide) | exact addgeI (by with_reducible assumption) (by decide) | exact addltI (by with_reducible assumption) (by decide) | exact addleI (by with_reducible assumption) (by decide) | exact ge2I (by with_reducible assumption) (by with_reducible assumption) (by decide) | exact ge2pI (by with_reducible assumption) (by with_reducible assumption) (by decide) | exact bdA (by with_reducible assumption) (by decide) | exact bdB (by with_reducible assumption) (by with_reducible assumption) (by decide) | exact bdC (by with_reducible assumption) (by with_reducible assumption) (by decide) | exact bdD (by with_reducible assumption) (by with_reducible assumption) (by with_reducible assumption) (by decide) (by decide) | exact bdE (by with_reducible assumption) (by with_reducible assumption) (by with_reducible assumption) (by with_reducible assumption) (by decide) (by decide) | exact bdF (by with_reducible assumption) (by with_reducible assumption) (by with_reducible assumption) (by with_reducible assumption) (by decide) (by decide) | exact natPos (by with_reducible assumption) | exact natLe (by with_reducible assumption) (by decide) | exact hbI (by with_reducible assumption) (by with_reducible assumption) (by with_reducible assumption) (by decide) | omega); (case hz_s2 => first | with_reducible assumption | decide | exact geI (by with_reducible assumption) (by decide) | exact leI (by with_reducible assumption) (by decide) | exact ltLe (by with_reducible assumption) (by decide) | exact dropI (by with_reducible assumption) (by decide) | exact upI (by with_reducible assumption) (by decide) | exact pgeI (by with_reducible assumption) (by decide) | exact pleI (by with_reducible assumption) (by decide) | exact pge2I (by with_reducible assumption) (by decide) | exact self2I (by decide) | exact self1I (by decide) | exact self0I (by decide) | exact addgeI (by with_reducible assumption) (by decide) | exact addltI (by with_reducible assumption) (by decide) | exact addleI (by with_reducible assumption) (by decide) | exact ge2I (by with_reducible assumption) (by with_reducible assumption) (by decide) | exact ge2pI (by with_reducible assumption) (by with_reducible assumption) (by decide) | exact bdA (by with_reducible assumption) (by decide) | exact bdB (by with_reducible assumption) (by with_reducible assumption) (by decide) | exact bdC (by with_reducible assumption) (by with_reducible assumption) (by decide) | exact bdD (by with_reducible assumption) (by with_reducible assumption) (by with_reducible assumption) (by decide) (by decide) | exact bdE (by with_reducible assumption) (by with_reducible assumption) (by with_reducible assumption) (by with_reducible assumption) (by decide) (by decide) | exact bdF (by with_reducible assumption) (by with_reducible assumption) (by with_reducible assumption) (by with_reducible assumption) (by decide) (by decide) | exact natPos (by with_reducible assumption) | exact natLe (by with_reducible assumption) (by decide) | exact hbI (by with_reducible assumption) (by with_reducible assumption) (by with_reducible assumption) (by decide) | omega); (case hz_n1 => (refine ⟨?_, ?_, ?_, ?_, ?_⟩ <;> k_ne)); (case hz_n2 => (refine ⟨?_, ?_, ?_, ?_, ?_, ?_⟩ <;> k_ne)); clear F0 N0; intro q' pm' ct' dc' fo' ok' m' KR' DK' F' N'; (obtain ⟨w0, w1, w2, w3, w4, w5, x0, x1, x2, x3, x4, x5, x6, x7, x8, x9⟩ := ord_of N' (by refine ⟨?_, ?_, ?_, ?_, ?_, ?_, ?_, ?_, ?_, ?_⟩ <;> first | kpa_ne | exact Nat.lt_succ_self _ | omega)); (repeat (rename _ = Data.cell (bindC _ _ _ _) => z; clear z)); (try (rename CellsAre _ _ _ => z; clear z)); (try (rename Dflts _ _ _ => z; clear z)); (try (rename Heap.CodeRec _ _ _ => z; clear z))))
    | with_reducible ((with_reducible show wpAny _ _ (pyIter (Value.ref _)) _ _ _); ( (rename IsRange _ _ _ _ _ _ _ _ => R'); (rename MOk _ _ _ => KR9); k_dflt (refine' law_for ?hz_hL ?hz_hh R' ?hz_sm ?hz_nn ?hz_n10 ?hz_F ?hz_N KR9 ?hz_DK ?hz_DE ?hz_h1 ?hz_h2 ?hz_h3 ?hz_h4 ?hz_b0 ?hz_b1 ?hz_aB ?hz_aE ?_ ?_); (case hz_hh => k_dflt (exact rfl)); (case hz_sm => exact small_one (by first | decide | exact geI (by with_reducible assumption) (by decide) | exact ltI (by with_reducible assumption) (by decide) | exact addgeI (by with_reducible assumption) (by decide) | exact addltI (by with_reducible assumption) (by decide) | omega) (by first | decide | exact geI (by with_reducible assumption) (by decide) | exact ltI (by with_reducible assumption) (by decide) | exact addgeI (by with_reducible assumption) (by decide) | exact addltI (by with_reducible assumption) (by decide) | omega) (by first | decide | exact geI (by with_reducible assumption) (by decide) | exact ltI (by with_reducible assumption) (by decide) | exact addgeI (by with_reducible assumption) (by decide) | exact addltI (by with_reducible assumption) (by decide) | omega) (by first | decide | exact geI (by with_reducible assumption) (by decide) | exact ltI (by with_reducible assumption) (by decide) | exact addgeI (by with_reducible assumption) (by decide) | exact addltI (by with_reducible assumption) (by decide) | omega)); (case hz_nn => exact rangeSize_nat _ _); (case hz_n10 => first | with_reducible assumption | exact leN (by with_reducible assumption) (by decide) | exact eqN (by with_reducible assumption) (by decide) | exact leN3 (by with_reducible assumption) (by with_reducible assumption) (by with_reducible assumption) (by decide) | exact lenA (by with_reducible assumption) (by with_reducible assumption) (by decide) | exact lenB (by with_reducible assumption) (by with_reducible assumption) (by decide) | exact sizeB (by with_reducible assumption) (by with_reducible assumption) (by with_reducible assumption) (by decide) | exact tnA (by with_reducible assumption) (by decide) | exact tnB (by with_reducible assumption) (by decide) | exact posNat (by with_reducible assumption) | exact eq0 (by with_reducible assumption) | omega); (case hz_F => k_asm); (case hz_N => k_dflt k_asm); (case hz_hL => k_dflt (exact rfl)); (case hz_DK => with_reducible assumption); (case hz_DE => exact dobj_empty (by with_reducible assumption)); (case hz_h1 => k_dflt (exact rfl)); (case hz_h2 => k_dflt (exact rfl)); (case hz_h3 => k_dflt (exact rfl)); (case hz_h4 => k_dflt (exact rfl)); (case hz_b0 => first | with_reducible assumption | decide | exact geI (by with_reducible assumption) (by decide) | exact leI (by with_reducible assumption) (by decide) | exact ltLe (by with_reducible assumption) (by decide) | exact dropI (by with_reducible assumption) (by decide) | exact upI (by with_reducible assumption) (by decide) | exact pgeI (by with_reducible assumption) (by decide) | exact pleI (by with_reducible assumption) (by decide) | exact pge2I (by with_reducible assumption) (by decide) | exact self2I (by decide) | exact self1I (by decide) | exact self0I (by decide) | exact addgeI (by with_reducible assumption) (by decide) | exact addltI (by with_reducible assumption) (by decide) | exact addleI (by with_reducible assumption) (by decide) | exact ge2I (by with_reducible assumption) (by with_reducible assumption) (by decide) | exact ge2pI (by with_reducible assumption) (by with_reducible assumption) (by decide) | exact bdA (by with_reducible assumption) (by decide) | exact bdB (by with_reducible assumption) (by with_reducible assumption) (by decide) | exact bdC (by with_reducible assumption) (by with_reducible assumption) (by decide) | exact bdD (by with_reducible assumption) (by with_reducible assumption) (by with_reducible assumption) (by decide) (by decide) | exact bdE (by with_reducible assumption) (by with_reducible assumption) (by with_reducible assumption) (by with_reducible assumption) (by decide) (by decide) | exact bdF (by with_reducible assumption) (by with_reducible assumption) (by with_reducible assumption) (by with_reducible assumption) (by decide) (by decide) | exact natPos (by with_reducible assumption) | exact natLe (by with_reducible assumption) (by decide) | exact hbI (by with_reducible assumption) (by with_reducible assumption) (by with_reducible assumption) (by decide) | omega); (case hz_b1 => first | with_reducible assumption | decide | exact geI (by with_reducible assumption) (by decide) | exact leI (by with_reducible assumption) (by decide) | exact ltLe (by with_reducible assumption) (by decide) | exact dropI (by with_reducible assumption) (by decide) | exact upI (by with_reducible assumption) (by decide) | exact pgeI (by with_reducible assumption) (by decide) | exact pleI (by with_reducible assumption) (by decide) | exact pge2I (by with_reducible assumption) (by decide) | exact self2I (by decide) | exact self1I (by decide) | exact self0I (by decide) | exact addgeI (by with_reducible assumption) (by decide) | exact addltI (by with_reducible assumption) (by decide) | exact addleI (by with_reducible assumption) (by decide) | exact ge2I (by with_reducible assumption) (by with_reducible assumption) (by decide) | exact ge2pI (by with_reducible assumption) (by with_reducible assumption) (by decide) | exact bdA (by with_reducible assumption) (by decide) | exact bdB (by with_reducible assumption) (by with_reducible assumption) (by decide) | exact bdC (by with_reducible assumption) (by with_reducible assumption) (by decide) | exact bdD (by with_reducible assumption) (by with_reducible assumption) (by with_reducible assumption) (by decide) (by decide) | exact bdE (by with_reducible assumption) (by with_reducible assumption) (by with_reducible assumption) (by with_reducible assumption) (by decide) (by decide) | exact bdF (by with_reducible assumption) (by with_reducible assumption) (by with_reducible assumption) (by with_reducible assumption) (by decide) (by decide) | exact natPos (by with_reducible assumption) | exact natLe (by with_reducible assumption) (by decide) | exact hbI (by with_reducible assumption) (by with_reducible assumption) (by with_reducible assumption) (by decide) | omega); (case hz_aB => (k_dflt (refine' Apart.mk ?hz_p1 ?hz_p2 ?hz_p3 ?hz_p4 ?hz_p5 ?hz_p6 ?hz_p7); all_goals k_ne)); (case hz_aE => (k_dflt (refine' Apart.mk ?hz_q1 ?hz_q2 ?hz_q3 ?hz_q4 ?hz_q5 ?hz_q6 ?hz_q7); all_goals k_ne)); (refine Stop.of ?_); rotate_left; (refine Stop.of ?_); rotate_right))
    | with_reducible ((with_reducible show wpAny _ _ (exec (Stmt.For _ _ _ _ _) _) _ _ _); (k_dflt (refine For_invV _ (by rfl) (by rfl) ?_)))
    | with_reducible ( (with_reducible show wpAny _ _ (call (Value.ref 144) [Value.bytes _ _, Value.bytes _ _, Value.ref _]) _ _ _); (rename LF _ _ _ _ _ _ _ _ _ _ => Lf); (rename MR.Ok _ => Kr); k_dflt (refine' dgk_rule2 (pre := [_, _, _, _, _, _, _, _]) Lf (Cx.law ?hz_B ?hz_F ?hz_X ?hz_T ?hz_K ?hz_d ?hz_u ?hz_N ?hz_S) ?hz_F2 ?hz_N2 Kr ?hz_hx ?hz_hm ?hz_hs ?hz_hp ?_); (case hz_B => k_asm); (case hz_F => k_asm); (case hz_X => k_asm); (case hz_T => k_asm); (case hz_K => first | exact rfl | assumption); (case hz_N => k_asm); (case hz_d => k_dflt (exact Nat.le_of_ble_eq_true rfl)); (case hz_u => k_dflt (exact Nat.le_of_ble_eq_true rfl)); (case hz_F2 => k_asm); (case hz_N2 => k_dflt k_asm); (case hz_S => k_dflt (exact fun q hq => List.mem_append_right [_, _, _, _, _, _, _, _] (List.mem_append_left _ hq))); (case hz_hx => first | with_reducible assumption | exact leN (by with_reducible assumption) (by decide) | exact eqN (by with_reducible assumption) (by decide) | exact leN3 (by with_reducible assumption) (by with_reducible assumption) (by with_reducible assumption) (by decide) | exact lenA (by with_reducible assumption) (by with_reducible assumption) (by decide) | exact lenB (by with_reducible assumption) (by with_reducible assumption) (by decide) | exact sizeB (by with_reducible assumption) (by with_reducible assumption) (by with_reducible assumption) (by decide) | exact tnA (by with_reducible assumption) (by decide) | exact tnB (by with_reducible assumption) (by decide) | exact posNat (by with_reducible assumption) | exact eq0 (by with_reducible assumption) | omega); (case hz_hm => first | with_reducible assumption | exact leN (by with_reducible assumption) (by decide) | exact eqN (by with_reducible assumption) (by decide) | exact leN3 (by with_reducible assumption) (by with_reducible assumption) (by with_reducible assumption) (by decide) | exact lenA (by with_reducible assumption) (by with_reducible assumption) (by decide) | exact lenB (by with_reducible assumption) (by with_reducible assumption) (by decide) | exact sizeB (by with_reducible assumption) (by with_reducible assumption) (by with_reducible assumption) (by decide) | exact tnA (by with_reducible assumption) (by decide) | exact tnB (by with_reducible assumption) (by decide) | exact posNat (by with_reducible assumption) | exact eq0 (by with_reducible assumption) | omega); (case hz_hs => with_reducible assumption); (case hz_hp => ((repeat (k_dflt (refine' pairs_cons ?_ ?_ ?_))); all_goals (first | exact pairs_nil | k_ne))); intro a0 a1' a2 a3 a4 t' h' k' sg' Ch' Mw' Ca' z5' F' N'; (have Dk' := Mw'.dict); (have Kk' := Mw'.keys); (have y0' := valOf_size Mw' (Chain.h0 Ch')); (have y1' := valOf_size Mw' (Chain.h1 Ch')); (have y4' := valOf_size Mw' (Chain.h4 Ch')); dsimp only [List.cons_append, List.nil_append, MR.own] at N'; (try k_sweep); (try (refine keepP ?_)); (try dsimp only); (try k_fold))
    | with_reducible ( (with_reducible show wpAny _ _ (subscriptTail _ _ (Value.ref _) (Value.int 4 _)) _ _ _); (rename CallsAre _ _ _ _ => Ca); (rename Chain _ _ _ _ _ _ _ _ => Ch); k_dflt (refine' item_ask ?hz_N ?hz_M Ca Ch ?hz_ht ?hz_z ?_ ?hz_a ?hz_b; (case hz_a => with_unfolding_all rfl); (case hz_b => intro _; with_unfolding_all rfl); (case hz_N => k_asm); (case hz_M => k_mem); (case hz_z => with_reducible assumption); (case hz_ht => (intro q hq; repeat (first | exact hq | exact List.mem_append_left _ hq | exact List.mem_append_right _ hq | refine List.mem_cons_of_mem _ ?_)))); intro D' k' ad' v' hk' hp'; (try dsimp only))
    | with_reducible ( (with_reducible show wpAny _ _ (subscriptTail _ _ (Value.ref _) (Value.int 0 _)) _ _ _); k_dflt (refine' item_again ?hz_N ?hz_M ?hz_hx ?hz_h0 ?hz_h1 ?_ ?hz_a ?hz_b; (case hz_a => with_unfolding_all rfl); (case hz_b => intro _; with_unfolding_all rfl); (case hz_N => k_asm); (case hz_M => k_mem); (case hz_hx => with_reducible assumption); (case hz_h0 => decide); (case hz_h1 => decide)); (try dsimp only))
    | with_reducible ( (with_reducible show wpAny _ _ (subscriptTail _ _ (Value.ref _) (Value.int 0 _)) _ _ _); k_dflt (refine' item_first ?hz_N ?hz_M ?hz_G ?hz_h1 ?_ ?hz_a ?hz_b; (case hz_a => with_unfolding_all rfl); (case hz_b => intro _; with_unfolding_all rfl); (case hz_N => k_asm); (case hz_M => k_mem); (case hz_G => with_reducible assumption); (case hz_h1 => first | with_reducible assumption | decide | exact geI (by with_reducible assumption) (by decide) | exact leI (by with_reducible assumption) (by decide) | exact ltLe (by with_reducible assumption) (by decide) | exact dropI (by with_reducible assumption) (by decide) | exact upI (by with_reducible assumption) (by decide) | exact pgeI (by with_reducible assumption) (by decide) | exact pleI (by with_reducible assumption) (by decide) | exact pge2I (by with_reducible assumption) (by decide) | exact self2I (by decide) | exact self1I (by decide) | exact self0I (by decide) | exact addgeI (by with_reducible assumption) (by decide) | exact addltI (by with_reducible assumption) (by decide) | exact addleI (by with_reducible assumption) (by decide) | exact ge2I (by with_reducible assumption) (by with_reducible assumption) (by decide) | exact ge2pI (by with_reducible assumption) (by with_reducible assumption) (by decide) | exact bdA (by with_reducible assumption) (by decide) | exact bdB (by with_reducible assumption) (by with_reducible assumption) (by decide) | exact bdC (by with_reducible assumption) (by with_reducible assumption) (by decide) | exact bdD (by with_reducible assumption) (by with_reducible assumption) (by with_reducible assumption) (by decide) (by decide) | exact bdE (by with_reducible assumption) (by with_reducible assumption) (by with_reducible assumption) (by with_reducible assumption) (by decide) (by decide) | exact bdF (by with_reducible assumption) (by with_reducible assumption) (by with_reducible assumption) (by with_reducible assumption) (by decide) (by decide) | exact natPos (by with_reducible assumption) | exact natLe (by with_reducible assumption) (by decide) | exact hbI (by with_reducible assumption) (by with_reducible assumption) (by with_reducible assumption) (by decide) | omega)); intro b' _ hb' hx'; (try dsimp only))
    | with_reducible ( (with_reducible show wpAny _ _ (call (Value.type _) [Value.ref _]) _ _ _); k_dflt (refine' bytesOf ?hz_F ?hz_N ?hz_M ?hz_G ?hz_z ?hz_hh ?_; (case hz_F => k_asm); (case hz_N => k_asm); (case hz_M => k_mem); (case hz_G => with_reducible assumption); (case hz_z => first | with_reducible assumption | exact leN (by with_reducible assumption) (by decide) | exact eqN (by with_reducible assumption) (by decide) | exact leN3 (by with_reducible assumption) (by with_reducible assumption) (by with_reducible assumption) (by decide) | exact lenA (by with_reducible assumption) (by with_reducible assumption) (by decide) | exact lenB (by with_reducible assumption) (by with_reducible assumption) (by decide) | exact sizeB (by with_reducible assumption) (by with_reducible assumption) (by with_reducible assumption) (by decide) | exact tnA (by with_reducible assumption) (by decide) | exact tnB (by with_reducible assumption) (by decide) | exact posNat (by with_reducible assumption) | exact eq0 (by with_reducible assumption) | omega); (case hz_hh => rfl)); intro h' b' _ _ F' N' hb'; (try k_sweep); (try dsimp only))
    | with_reducible ((with_reducible show IsByte _); (exact ⟨_, _, rfl, by assumption, by assumption⟩))
    | ((with_reducible show IsByte _); (exact ⟨_, _, rfl, by assumption, by assumption⟩))
    | with_reducible ((with_reducible show LCg.CompSrc _ _ _ _ _ _ _ _ _ _ _ _ _ _); ( (rename LF _ _ _ _ _ _ _ _ _ _ => Lf); k_dflt (refine LCg.CompSrc.range (by rfl) (by k_asm) (by k_asm) (by with_reducible assumption) (small_one (by first | decide | exact geI (by with_reducible assumption) (by decide) | exact ltI (by with_reducible assumption) (by decide) | exact addgeI (by with_reducible assumption) (by decide) | exact addltI (by with_reducible assumption) (by decide) | omega) (by first | decide | exact geI (by with_reducible assumption) (by decide) | exact ltI (by with_reducible assumption) (by decide) | exact addgeI (by with_reducible assumption) (by decide) | exact addltI (by with_reducible assumption) (by decide) | omega) (by first | decide | exact geI (by with_reducible assumption) (by decide) | exact ltI (by with_reducible assumption) (by decide) | exact addgeI (by with_reducible assumption) (by decide) | exact addltI (by with_reducible assumption) (by decide) | omega) (by first | decide | exact geI (by with_reducible assumption) (by decide) | exact ltI (by with_reducible assumption) (by decide) | exact addgeI (by with_reducible assumption) (by decide) | exact addltI (by with_reducible assumption) (by decide) | omega)) (rangeSize_nat _ _) (by rw [PySem.sizeLine_eq]; (first | with_reducible assumption | exact leN (by with_reducible assumption) (by decide) | exact eqN (by with_reducible assumption) (by decide) | exact leN3 (by with_reducible assumption) (by with_reducible assumption) (by with_reducible assumption) (by decide) | exact lenA (by with_reducible assumption) (by with_reducible assumption) (by decide) | exact lenB (by with_reducible assumption) (by with_reducible assumption) (by decide) | exact sizeB (by with_reducible assumption) (by with_reducible assumption) (by with_reducible assumption) (by decide) | exact tnA (by with_reducible assumption) (by decide) | exact tnB (by with_reducible assumption) (by decide) | exact posNat (by with_reducible assumption) | exact eq0 (by with_reducible assumption) | omega)) ?_); intro g'; k_dflt (refine' boxCompB ?hz_M ?hz_U IsByte _ 1 (by decide) ?hz_L0 ?hz_B0 ?_ ?_); (case hz_M => k_dflt k_mem); (case hz_U => k_updF); (case hz_L0 => first | with_reducible assumption | decide | exact geI (by with_reducible assumption) (by decide) | exact leI (by with_reducible assumption) (by decide) | exact ltLe (by with_reducible assumption) (by decide) | exact dropI (by with_reducible assumption) (by decide) | exact upI (by with_reducible assumption) (by decide) | exact pgeI (by with_reducible assumption) (by decide) | exact pleI (by with_reducible assumption) (by decide) | exact pge2I (by with_reducible assumption) (by decide) | exact self2I (by decide) | exact self1I (by decide) | exact self0I (by decide) | exact addgeI (by with_reducible assumption) (by decide) | exact addltI (by with_reducible assumption) (by decide) | exact addleI (by with_reducible assumption) (by decide) | exact ge2I (by with_reducible assumption) (by with_reducible assumption) (by decide) | exact ge2pI (by with_reducible assumption) (by with_reducible assumption) (by decide) | exact bdA (by with_reducible assumption) (by decide) | exact bdB (by with_reducible assumption) (by with_reducible assumption) (by decide) | exact bdC (by with_reducible assumption) (by with_reducible assumption) (by decide) | exact bdD (by with_reducible assumption) (by with_reducible assumption) (by with_reducible assumption) (by decide) (by decide) | exact bdE (by with_reducible assumption) (by with_reducible assumption) (by with_reducible assumption) (by with_reducible assumption) (by decide) (by decide) | exact bdF (by with_reducible assumption) (by with_reducible assumption) (by with_reducible assumption) (by with_reducible assumption) (by decide) (by decide) | exact natPos (by with_reducible assumption) | exact natLe (by with_reducible assumption) (by decide) | exact hbI (by with_reducible assumption) (by with_reducible assumption) (by with_reducible assumption) (by decide) | omega); (case hz_B0 => first | with_reducible assumption | decide | exact geI (by with_reducible assumption) (by decide) | exact leI (by with_reducible assumption) (by decide) | exact ltLe (by with_reducible assumption) (by decide) | exact dropI (by with_reducible assumption) (by decide) | exact upI (by with_reducible assumption) (by decide) | exact pgeI (by with_reducible assumption) (by decide) | exact pleI (by with_reducible assumption) (by decide) | exact pge2I (by with_reducible assumption) (by decide) | exact self2I (by decide) | exact self1I (by decide) | exact self0I (by decide) | exact addgeI (by with_reducible assumption) (by decide) | exact addltI (by with_reducible assumption) (by decide) | exact addleI (by with_reducible assumption) (by decide) | exact ge2I (by with_reducible assumption) (by with_reducible assumption) (by decide) | exact ge2pI (by with_reducible assumption) (by with_reducible assumption) (by decide) | exact bdA (by with_reducible assumption) (by decide) | exact bdB (by with_reducible assumption) (by with_reducible assumption) (by decide) | exact bdC (by with_reducible assumption) (by with_reducible assumption) (by decide) | exact bdD (by with_reducible assumption) (by with_reducible assumption) (by with_reducible assumption) (by decide) (by decide) | exact bdE (by with_reducible assumption) (by with_reducible assumption) (by with_reducible assumption) (by with_reducible assumption) (by decide) (by decide) | exact bdF (by with_reducible assumption) (by with_reducible assumption) (by with_reducible assumption) (by with_reducible assumption) (by decide) (by decide) | exact natPos (by with_reducible assumption) | exact natLe (by with_reducible assumption) (by decide) | exact hbI (by with_reducible assumption) (by with_reducible assumption) (by with_reducible assumption) (by decide) | omega); (try (intro i v I oI C oC D m₂ h tk E' ys at' t hP h0 h1 hC hx F' N' b1 b2 b3; (have hP' := hP); obtain ⟨tv, hv⟩ := hP'; subst hv; clear hP; (try dsimp only at N'); (try dsimp only); (try k_sweep)))))
    | with_reducible ((with_reducible show ForEnd _ _ _ _ _ _ _ _ _); ( (rename LF _ _ _ _ _ _ _ _ _ _ => Lf); (rename TurnI _ _ _ _ _ _ _ _ _ _ _ => Ti); (rename Chain _ _ _ _ _ _ _ _ => Ch); (rename CallsAre _ _ _ _ => Ca); (rename DObj _ (storedH _ _ _ _) _ => Dn); k_dflt (refine' turn_close Lf Ti ?hz_Gr ?hz_mo ?hz_Mw ?hz_cs5 Ch Ca Dn ?hz_tB ?hz_tE ?hz_F ?hz_N ?hz_h1 ?hz_h2 ?hz_h3 ?hz_h4 ?hz_mK ?hz_mT ?hz_mD ?hz_mA ?hz_fK ?hz_fT ?hz_fD ?hz_fA ?hz_z0 ?hz_z1 ?hz_s1 ?hz_s2 ?hz_s3 ?hz_s4 ?hz_s5 ?hz_s6 ?hz_s7 ?hz_s8 ?hz_s9 ?hz_s10); (case hz_Gr => with_reducible assumption); (case hz_mo => with_reducible assumption); (case hz_Mw => with_reducible assumption); (case hz_cs5 => with_reducible assumption); (case hz_tB => with_reducible assumption); (case hz_tE => with_reducible assumption); (case hz_F => k_asm); (case hz_N => k_asm); (case hz_h1 => k_dflt (exact rfl)); (case hz_h2 => k_dflt (exact rfl)); (case hz_h3 => k_dflt (exact rfl)); (case hz_h4 => k_dflt (exact rfl)); (case hz_mK => k_dflt k_mem); (case hz_mT => k_dflt k_mem); (case hz_mD => k_dflt k_mem); (case hz_mA => k_dflt k_mem); (case hz_fK => (k_dflt (refine' Free5.mk ?_ ?_ ?_ ?_ ?_); all_goals k_ne)); (case hz_fT => (k_dflt (refine' Free5.mk ?_ ?_ ?_ ?_ ?_); all_goals k_ne)); (case hz_fD => (k_dflt (refine' Free5.mk ?_ ?_ ?_ ?_ ?_); all_goals k_ne)); (case hz_fA => (k_dflt (refine' Free5.mk ?_ ?_ ?_ ?_ ?_); all_goals k_ne)); (case hz_s1 => k_dflt k_mem); (case hz_s2 => k_dflt k_mem); (case hz_z0 => first | with_reducible assumption | exact leN (by with_reducible assumption) (by decide) | exact eqN (by with_reducible assumption) (by decide) | decide | exact geI (by with_reducible assumption) (by decide) | exact leI (by with_reducible assumption) (by decide) | exact ltLe (by with_reducible assumption) (by decide) | exact dropI (by with_reducible assumption) (by decide) | exact upI (by with_reducible assumption) (by decide) | exact pgeI (by with_reducible assumption) (by decide) | exact pleI (by with_reducible assumption) (by decide) | exact pge2I (by with_reducible assumption) (by decide) | exact self2I (by decide) | exact self1I (by decide) | exact self0I (by decide) | exact addgeI (by with_reducible assumption) (by decide) | exact addltI (by with_reducible assumption) (by decide) | exact addleI (by with_reducible assumption) (by decide) | exact ge2I (by with_reducible assumption) (by with_reducible assumption) (by decide) | exact ge2pI (by with_reducible assumption) (by with_reducible assumption) (by decide) | exact bdA (by with_reducible assumption) (by decide) | exact bdB (by with_reducible assumption) (by with_reducible assumption) (by decide) | exact bdC (by with_reducible assumption) (by with_reducible assumption) (by decide) | exact bdD (by with_reducible assumption) (by with_reducible assumption) (by with_reducible assumption) (by decide) (by decide) | exact bdE (by with_reducible assumption) (by with_reducible assumption) (by with_reducible assumption) (by with_reducible assumption) (by decide) (by decide) | exact bdF (by with_reducible assumption) (by with_reducible assumption) (by with_reducible assumption) (by with_reducible assumption) (by decide) (by decide) | exact natPos (by with_reducible assumption) | exact natLe (by with_reducible assumption) (by decide) | exact hbI (by with_reducible assumption) (by with_reducible assumption) (by with_reducible assumption) (by decide) | omega); (case hz_z1 => first | with_reducible assumption | exact leN (by with_reducible assumption) (by decide) | exact eqN (by with_reducible assumption) (by decide) | decide | exact geI (by with_reducible assumption) (by decide) | exact leI (by with_reducible assumption) (by decide) | exact ltLe (by with_reducible assumption) (by decide) | exact dropI (by with_reducible assumption) (by decide) | exact upI (by with_reducible assumption) (by decide) | exact pgeI (by with_reducible assumption) (by decide) | exact pleI (by with_reducible assumption) (by decide) | exact pge2I (by with_reducible assumption) (by decide) | exact self2I (by decide) | exact self1I (by decide) | exact self0I (by decide) | exact addgeI (by with_reducible assumption) (by decide) | exact addltI (by with_reducible assumption) (by decide) | exact addleI (by with_reducible assumption) (by decide) | exact ge2I (by with_reducible assumption) (by with_reducible assumption) (by decide) | exact ge2pI (by with_reducible assumption) (by with_reducible assumption) (by decide) | exact bdA (by with_reducible assumption) (by decide) | exact bdB (by with_reducible assumption) (by with_reducible assumption) (by decide) | exact bdC (by with_reducible assumption) (by with_reducible assumption) (by decide) | exact bdD (by with_reducible assumption) (by with_reducible assumption) (by with_reducible assumption) (by decide) (by decide) | exact bdE (by with_reducible assumption) (by with_reducible assumption) (by with_reducible assumption) (by with_reducible assumption) (by decide) (by decide) | exact bdF (by with_reducible assumption) (by with_reducible assumption) (by with_reducible assumption) (by with_reducible assumption) (by decide) (by decide) | exact natPos (by with_reducible assumption) | exact natLe (by with_reducible assumption) (by decide) | exact hbI (by with_reducible assumption) (by with_reducible assumption) (by with_reducible assumption) (by decide) | omega); (case hz_s3 => k_dflt k_mem); (case hz_s4 => k_dflt k_mem); (case hz_s5 => k_dflt k_mem); (case hz_s6 => k_dflt k_mem); (case hz_s7 => k_dflt k_mem); (case hz_s8 => k_dflt k_mem); (case hz_s9 => k_dflt (refine' own_sub ?hz_o1 ?hz_o2 ?hz_o3 ?hz_o4 ?hz_o5 ?hz_o6 ?hz_o7 ?hz_o8; (case hz_o1 => k_mem); (case hz_o2 => k_mem); (case hz_o3 => k_mem); (case hz_o4 => k_mem); (case hz_o5 => k_mem); (case hz_o6 => k_mem); (case hz_o7 => k_mem); (case hz_o8 => (intro q hq; repeat (first | exact hq | exact List.mem_append_left _ hq | exact List.mem_append_right _ hq | refine List.mem_cons_of_mem _ ?_))))); (case hz_s10 => k_dflt (intro q hq; repeat (first | exact hq | exact List.mem_append_left _ hq | exact List.mem_append_right _ hq | refine List.mem_cons_of_mem _ ?_)))))
    | with_reducible ( (with_reducible show wpAny _ _ (setItem (Value.ref _) (Value.ref _) _) _ _ _); (rename LF _ _ _ _ _ _ _ _ _ _ => Lf); (have el' := Lf.el); k_dflt (refine' set_E (k := keyOf _ _) ?hz_hu ?hz_F ?hz_N ?hz_U ?hz_hk Lf.d ?hz_ks ?hz_z ?_; (case hz_F => k_asm); (case hz_N => k_asm); (case hz_U => k_updF); (case hz_hu => exact Nat.le_of_ble_eq_true rfl); (case hz_hk => exact tupB_key (News.get (by k_asm) (by k_mem))); (case hz_ks => exact keys_at Lf.ek (tups_at (by k_asm) (by (intro q hq; repeat (first | exact hq | exact List.mem_append_left _ hq | exact List.mem_append_right _ hq | refine List.mem_cons_of_mem _ ?_))))); (case hz_z => first | with_reducible assumption | exact leN (by with_reducible assumption) (by decide) | exact eqN (by with_reducible assumption) (by decide) | exact leN3 (by with_reducible assumption) (by with_reducible assumption) (by with_reducible assumption) (by decide) | exact lenA (by with_reducible assumption) (by with_reducible assumption) (by decide) | exact lenB (by with_reducible assumption) (by with_reducible assumption) (by decide) | exact sizeB (by with_reducible assumption) (by with_reducible assumption) (by with_reducible assumption) (by decide) | exact tnA (by with_reducible assumption) (by decide) | exact tnB (by with_reducible assumption) (by decide) | exact posNat (by with_reducible assumption) | exact eq0 (by with_reducible assumption) | omega)); intro h' o' k' F' N' Dn'; (try dsimp only at N'); (try k_sweep); (try dsimp only))
    | with_reducible ((with_reducible show wpAny _ _ (newTuple _) _ _ _); (k_dflt (refine' newTup ?hz_F ?hz_N ?_ ?hz_z; (case hz_F => k_asm); (case hz_N => k_asm); (case hz_z => first | k_dflt (exact szlit rfl) | size_fits)); intro D' h' F' N' s0 e0 l0 l1; clear s0 e0 l0; (try k_lt l1); (try k_sweep); (try dsimp only)))
    | with_reducible ( (with_reducible show wpAny _ _ (compareOp CmpOp.In (Value.ref _) (Value.ref _)) _ _ _); (rename LF _ _ _ _ _ _ _ _ _ _ => Lf); k_dflt (refine' in_E Lf.ev ?hz_Gr ?hz_mo ?hz_Ch ?hz_hu ?hz_hd ?hz_hk ?hz_ho Lf.d ?hz_ks ?_ ?_; (case hz_Gr => with_reducible assumption); (case hz_mo => with_reducible assumption); (case hz_hk => exact tupB_key (News.get (by k_asm) (by k_mem))); (case hz_Ch => with_reducible assumption); (case hz_hu => exact Nat.le_of_ble_eq_true rfl); (case hz_hd => with_reducible assumption); (case hz_ho => exact News.get (by k_asm) (by k_mem)); (case hz_ks => exact keys_at Lf.ek (tups_at (by k_asm) (by (intro q hq; repeat (first | exact hq | exact List.mem_append_left _ hq | exact List.mem_append_right _ hq | refine List.mem_cons_of_mem _ ?_)))))); (intro _ hp'; (try dsimp only)); rotate_left; (intro _ e' T' hp' Kp'; (try dsimp only)); rotate_right)
    | with_reducible ( (with_reducible show wpAny _ _ (compareOp CmpOp.NotEq (Value.ref _) (Value.ref _)) _ _ _); (rename KeptL _ _ _ _ _ => Kp); k_dflt (refine' ne_T Kp ?hz_N ?hz_ht ?hz_m1 ?hz_m2 ?hz_m3 ?hz_Ca ?hz_hu ?_; (case hz_N => k_asm); (case hz_m1 => k_mem); (case hz_m2 => k_mem); (case hz_m3 => k_mem); (case hz_Ca => with_reducible assumption); (case hz_ht => (intro q hq; repeat (first | exact hq | exact List.mem_append_left _ hq | exact List.mem_append_right _ hq | refine List.mem_cons_of_mem _ ?_))); (case hz_hu => exact Nat.le_of_ble_eq_true rfl)); (try dsimp only))
    | with_reducible ( (with_reducible show wpAny _ _ (compareOp CmpOp.NotEq (Value.ref _) (Value.ref _)) _ _ _); k_dflt (refine' ne_A ?hz_N ?hz_m1 ?hz_m2 ?hz_Ca ?hz_ht ?hz_k2 ?hz_hu ?_; (case hz_N => k_asm); (case hz_m1 => k_mem); (case hz_m2 => k_mem); (case hz_k2 => with_reducible assumption); (case hz_Ca => with_reducible assumption); (case hz_ht => (intro q hq; repeat (first | exact hq | exact List.mem_append_left _ hq | exact List.mem_append_right _ hq | refine List.mem_cons_of_mem _ ?_))); (case hz_hu => exact Nat.le_of_ble_eq_true rfl)); (try dsimp only))
    | with_reducible ( (with_reducible show wpAny _ _ (call (Value.ref 184) [Value.ref _, Value.bytes _ _, Value.bytes _ _]) _ _ _); k_dflt (refine' due (Cx.law ?hz_B ?hz_F ?hz_X ?hz_T ?hz_K ?hz_d ?hz_u ?hz_N ?hz_S) ?hz_hA ?hz_z0 ?hz_z1 ?hz_z2 ?hz_z3 ?_); (case hz_B => k_asm); (case hz_F => k_asm); (case hz_X => k_asm); (case hz_T => k_asm); (case hz_K => first | exact rfl | assumption); (case hz_N => k_asm); (case hz_d => k_dflt (exact Nat.le_of_ble_eq_true rfl)); (case hz_u => k_dflt (exact Nat.le_of_ble_eq_true rfl)); (case hz_S => k_dflt (exact nsub_LawX)); (case hz_hA => k_dflt (exact News.isList (by k_asm) (by k_mem))); (case hz_z0 => first | with_reducible assumption | exact leN (by with_reducible assumption) (by decide) | exact eqN (by with_reducible assumption) (by decide) | decide | exact geI (by with_reducible assumption) (by decide) | exact leI (by with_reducible assumption) (by decide) | exact ltLe (by with_reducible assumption) (by decide) | exact dropI (by with_reducible assumption) (by decide) | exact upI (by with_reducible assumption) (by decide) | exact pgeI (by with_reducible assumption) (by decide) | exact pleI (by with_reducible assumption) (by decide) | exact pge2I (by with_reducible assumption) (by decide) | exact self2I (by decide) | exact self1I (by decide) | exact self0I (by decide) | exact addgeI (by with_reducible assumption) (by decide) | exact addltI (by with_reducible assumption) (by decide) | exact addleI (by with_reducible assumption) (by decide) | exact ge2I (by with_reducible assumption) (by with_reducible assumption) (by decide) | exact ge2pI (by with_reducible assumption) (by with_reducible assumption) (by decide) | exact bdA (by with_reducible assumption) (by decide) | exact bdB (by with_reducible assumption) (by with_reducible assumption) (by decide) | exact bdC (by with_reducible assumption) (by with_reducible assumption) (by decide) | exact bdD (by with_reducible assumption) (by with_reducible assumption) (by with_reducible assumption) (by decide) (by decide) | exact bdE (by with_reducible assumption) (by with_reducible assumption) (by with_reducible assumption) (by with_reducible assumption) (by decide) (by decide) | exact bdF (by with_reducible assumption) (by with_reducible assumption) (by with_reducible assumption) (by with_reducible assumption) (by decide) (by decide) | exact natPos (by with_reducible assumption) | exact natLe (by with_reducible assumption) (by decide) | exact hbI (by with_reducible assumption) (by with_reducible assumption) (by with_reducible assumption) (by decide) | omega); (case hz_z1 => first | with_reducible assumption | exact leN (by with_reducible assumption) (by decide) | exact eqN (by with_reducible assumption) (by decide) | decide | exact geI (by with_reducible assumption) (by decide) | exact leI (by with_reducible assumption) (by decide) | exact ltLe (by with_reducible assumption) (by decide) | exact dropI (by with_reducible assumption) (by decide) | exact upI (by with_reducible assumption) (by decide) | exact pgeI (by with_reducible assumption) (by decide) | exact pleI (by with_reducible assumption) (by decide) | exact pge2I (by with_reducible assumption) (by decide) | exact self2I (by decide) | exact self1I (by decide) | exact self0I (by decide) | exact addgeI (by with_reducible assumption) (by decide) | exact addltI (by with_reducible assumption) (by decide) | exact addleI (by with_reducible assumption) (by decide) | exact ge2I (by with_reducible assumption) (by with_reducible assumption) (by decide) | exact ge2pI (by with_reducible assumption) (by with_reducible assumption) (by decide) | exact bdA (by with_reducible assumption) (by decide) | exact bdB (by with_reducible assumption) (by with_reducible assumption) (by decide) | exact bdC (by with_reducible assumption) (by with_reducible assumption) (by decide) | exact bdD (by with_reducible assumption) (by with_reducible assumption) (by with_reducible assumption) (by decide) (by decide) | exact bdE (by with_reducible assumption) (by with_reducible assumption) (by with_reducible assumption) (by with_reducible assumption) (by decide) (by decide) | exact bdF (by with_reducible assumption) (by with_reducible assumption) (by with_reducible assumption) (by with_reducible assumption) (by decide) (by decide) | exact natPos (by with_reducible assumption) | exact natLe (by with_reducible assumption) (by decide) | exact hbI (by with_reducible assumption) (by with_reducible assumption) (by with_reducible assumption) (by decide) | omega); (case hz_z2 => first | with_reducible assumption | exact leN (by with_reducible assumption) (by decide) | exact eqN (by with_reducible assumption) (by decide) | exact leN3 (by with_reducible assumption) (by with_reducible assumption) (by with_reducible assumption) (by decide) | exact lenA (by with_reducible assumption) (by with_reducible assumption) (by decide) | exact lenB (by with_reducible assumption) (by with_reducible assumption) (by decide) | exact sizeB (by with_reducible assumption) (by with_reducible assumption) (by with_reducible assumption) (by decide) | exact tnA (by with_reducible assumption) (by decide) | exact tnB (by with_reducible assumption) (by decide) | exact posNat (by with_reducible assumption) | exact eq0 (by with_reducible assumption) | omega); (case hz_z3 => first | with_reducible assumption | exact leN (by with_reducible assumption) (by decide) | exact eqN (by with_reducible assumption) (by decide) | exact leN3 (by with_reducible assumption) (by with_reducible assumption) (by with_reducible assumption) (by decide) | exact lenA (by with_reducible assumption) (by with_reducible assumption) (by decide) | exact lenB (by with_reducible assumption) (by with_reducible assumption) (by decide) | exact sizeB (by with_reducible assumption) (by with_reducible assumption) (by with_reducible assumption) (by decide) | exact tnA (by with_reducible assumption) (by decide) | exact tnB (by with_reducible assumption) (by decide) | exact posNat (by with_reducible assumption) | exact eq0 (by with_reducible assumption) | (rw [oct_size]; decide) | omega); intro D' vs' n' h' k' st' hD' Ky' fr'; (rename LF _ _ _ _ _ _ _ _ _ _ => Lf); (have nE' := fresh_ne_E Lf (by k_asm) (by k_dflt k_mem) fr'); (have F' := Fr.stay (by k_asm) st'); (have N' := News.fresh_cons (by k_asm) (by k_asm) st' hD' fr'); (try k_sweep); (try (refine keepP ?_)); (try dsimp only); (try k_fold))
    | with_reducible ( (with_reducible show wpAny _ _ (subscriptTail _ _ (Value.ref _) (Value.ref _)) _ _ _); k_dflt (refine' get_D ?hz_hu ?hz_hk ?hz_ho ?hz_D ?hz_ks ?hz_hp ?_ ?hz_a ?hz_b; (case hz_a => with_unfolding_all rfl); (case hz_b => intro _; with_unfolding_all rfl); (case hz_hp => with_reducible assumption); (case hz_hk => first | with_reducible assumption | exact tupB_key (News.get (by k_asm) (by k_mem))); (case hz_ho => exact News.get (by k_asm) (by k_mem)); (case hz_D => with_reducible assumption); (case hz_hu => exact Nat.le_of_ble_eq_true rfl); (case hz_ks => exact keys_at (by with_reducible assumption) (tups_at (by k_asm) (by (intro q hq; repeat (first | exact hq | exact List.mem_append_left _ hq | exact List.mem_append_right _ hq | refine List.mem_cons_of_mem _ ?_)))))); intro _; (try dsimp only))
    | with_reducible ((with_reducible show MapPost _ _ _ _ _ _ _ _); (k_dflt (refine' MapPost.intro ?hz_F ?hz_N); (case hz_F => k_asm); (case hz_N => k_asm)))
    | with_reducible ((with_reducible show LCg.CompSrc _ _ _ _ _ _ _ _ _ _ _ _ _ _); ( (rename CallsAre _ _ _ _ => Ca); (rename Chain _ _ _ _ _ _ _ _ => Ch); k_dflt (refine' LCg.CompSrc.ledger ?hz_hh ?hz_F ?hz_N ?hz_M ?hz_z ?_; (case hz_hh => rfl); (case hz_F => k_asm); (case hz_N => k_asm); (case hz_M => k_mem); (case hz_z => (rw [PySem.sizeLine_eq]; (first | with_reducible assumption | exact leN (by with_reducible assumption) (by decide) | exact eqN (by with_reducible assumption) (by decide) | exact leN3 (by with_reducible assumption) (by with_reducible assumption) (by with_reducible assumption) (by decide) | exact lenA (by with_reducible assumption) (by with_reducible assumption) (by decide) | exact lenB (by with_reducible assumption) (by with_reducible assumption) (by decide) | exact sizeB (by with_reducible assumption) (by with_reducible assumption) (by with_reducible assumption) (by decide) | exact tnA (by with_reducible assumption) (by decide) | exact tnB (by with_reducible assumption) (by decide) | exact posNat (by with_reducible assumption) | exact eq0 (by with_reducible assumption) | omega)))); intro g'; k_dflt (refine' known_comp Ca Ch ?hz_S ?hz_t ?hz_z ?_ ?_; (case hz_S => exact SrcAt.led (by k_mem)); (case hz_t => (intro q hq; repeat (first | exact hq | exact List.mem_append_left _ hq | exact List.mem_append_right _ hq | refine List.mem_cons_of_mem _ ?_))); (case hz_z => with_reducible assumption)); (intro i D k p I oI C oC Dl m₂ h' tk' E' ys hk' hp' hC' hx' F' N'; (try dsimp only at N'); (try dsimp only); (try k_sweep))))
    | with_reducible ((with_reducible show LCg.FinE _ _ _ _ _ _ _); ((unfold LCg.FinE); intro D' h' tk' F' N' o1'; (try dsimp only at o1'); (try simp only [List.nil_append, List.cons_append] at N'); (try dsimp only)))
    | with_reducible ( (with_reducible show wpAny _ _ (call (Value.ref 165) [Value.int _ _]) _ _ _); k_dflt (refine' octets (Cx.law ?hz_B ?hz_F ?hz_X ?hz_T ?hz_K ?hz_d ?hz_u ?hz_N ?hz_S) ?hz_z ?hz_z' ?_); (case hz_B => k_asm); (case hz_F => k_asm); (case hz_X => k_asm); (case hz_T => k_asm); (case hz_K => first | exact rfl | assumption); (case hz_N => k_asm); (case hz_d => k_dflt (exact Nat.le_of_ble_eq_true rfl)); (case hz_u => k_dflt (exact Nat.le_of_ble_eq_true rfl)); (case hz_S => k_dflt (exact nsub_LawX)); (case hz_z => with_reducible assumption); (case hz_z' => with_reducible assumption); intro _ h' _ st'; (have F' := Fr.stay (by k_asm) st'); (have N' := News.stay (by k_asm) st'); (try k_sweep); (try (refine keepP ?_)); (try dsimp only); (try k_fold))
    | with_reducible ((with_reducible refine' modN ?_); intro v _ _ hv h0 h1; (have zv := szN h0 h1); subst hv; (try dsimp only))
    | with_reducible ( (with_reducible show wpAny _ _ (call (Value.ref _) [Value.bytes _ _, Value.str _ _]) _ _ _); kfb_any; k_dflt (refine' from_bytes_call ?hz_kfbN ?hz_kfbM ?hz_kfbS ?_; (case hz_kfbN => k_asm); (case hz_kfbM => k_mem); (case hz_kfbS => first | with_reducible assumption | exact leN (by with_reducible assumption) (by decide) | exact eqN (by with_reducible assumption) (by decide) | exact leN3 (by with_reducible assumption) (by with_reducible assumption) (by with_reducible assumption) (by decide) | exact lenA (by with_reducible assumption) (by with_reducible assumption) (by decide) | exact lenB (by with_reducible assumption) (by with_reducible assumption) (by decide) | exact sizeB (by with_reducible assumption) (by with_reducible assumption) (by with_reducible assumption) (by decide) | exact tnA (by with_reducible assumption) (by decide) | exact tnB (by with_reducible assumption) (by decide) | exact posNat (by with_reducible assumption) | exact eq0 (by with_reducible assumption) | omega)); intro _ _; (try dsimp only))
    | with_reducible ( (with_reducible show wpAny _ _ (call (Value.builtin _) [Value.ref _]) _ _ _); k_dflt (refine' len5 ?hz_N ?hz_M ?hz_z ?_; (case hz_N => k_asm); (case hz_M => k_mem); (case hz_z => with_reducible assumption)); intro _ _; (try dsimp only))
    | with_reducible ( (with_reducible show wpAny _ _ (call (Value.ref 151) [Value.bytes _ _, Value.bytes _ _, Value.ref _]) _ _ _); (rename LF _ _ _ _ _ _ _ _ _ _ => Lf); (rename TurnI _ _ _ _ _ _ _ _ _ _ _ => Ti); (rename MR.Ok _ => Kr); k_dflt (refine' sign_rule2 (pre := [_, _, _, _, _, _, _, _]) Lf Ti (Cx.law ?hz_B ?hz_F ?hz_X ?hz_T ?hz_K ?hz_d ?hz_u ?hz_N ?hz_S) ?hz_F2 ?hz_N2 Kr ?hz_hx ?hz_hm ?hz_hs ?hz_hp ?hz_pB ?hz_pE ?hz_pI ?_); (case hz_B => k_asm); (case hz_F => k_asm); (case hz_X => k_asm); (case hz_T => k_asm); (case hz_K => first | exact rfl | assumption); (case hz_N => k_asm); (case hz_d => k_dflt (exact Nat.le_of_ble_eq_true rfl)); (case hz_u => k_dflt (exact Nat.le_of_ble_eq_true rfl)); (case hz_F2 => k_asm); (case hz_N2 => k_dflt k_asm); (case hz_S => k_dflt (exact fun q hq => List.mem_append_right [_, _, _, _, _, _, _, _] (List.mem_append_left _ hq))); (case hz_hx => first | with_reducible assumption | exact leN (by with_reducible assumption) (by decide) | exact eqN (by with_reducible assumption) (by decide) | exact leN3 (by with_reducible assumption) (by with_reducible assumption) (by with_reducible assumption) (by decide) | exact lenA (by with_reducible assumption) (by with_reducible assumption) (by decide) | exact lenB (by with_reducible assumption) (by with_reducible assumption) (by decide) | exact sizeB (by with_reducible assumption) (by with_reducible assumption) (by with_reducible assumption) (by decide) | exact tnA (by with_reducible assumption) (by decide) | exact tnB (by with_reducible assumption) (by decide) | exact posNat (by with_reducible assumption) | exact eq0 (by with_reducible assumption) | omega); (case hz_hm => with_reducible assumption); (case hz_hs => with_reducible assumption); (case hz_hp => ((repeat (k_dflt (refine' pairs_cons ?_ ?_ ?_))); all_goals (first | exact pairs_nil | k_ne))); (case hz_pB => k_dflt k_mem); (case hz_pE => k_dflt k_mem); (case hz_pI => k_dflt k_mem); intro a0 a1' a2 a3 a4 D' t1' t2' t3' cD' h' k' sg' Ch' Mw' Ca' z5' mo' Gr' cs5' Ti' F' N' tB' tE' tI' tC' nB' nE' nI' nC' nK'; (have Dk' := Mw'.dict); (have Kk' := Mw'.keys); (have De' := Lf.d); (have Ke' := Lf.ek); (have y0' := valOf_size Mw' (Chain.h0 Ch')); (have y1' := valOf_size Mw' (Chain.h1 Ch')); dsimp only [List.cons_append, List.nil_append, MR.own] at N'; (try k_sweep); (try (refine keepP ?_)); (try dsimp only); (try k_fold))
    | with_reducible ((with_reducible show PopOut _ _ _ _ _ _ _ _); (k_dflt (refine' PopOut.intro ?hz_F ?hz_N ?hz_e); (case hz_F => k_asm); (case hz_N => k_asm); (case hz_e => first | with_reducible assumption | exact leN (by with_reducible assumption) (by decide) | exact eqN (by with_reducible assumption) (by decide) | exact leN3 (by with_reducible assumption) (by with_reducible assumption) (by with_reducible assumption) (by decide) | exact lenA (by with_reducible assumption) (by with_reducible assumption) (by decide) | exact lenB (by with_reducible assumption) (by with_reducible assumption) (by decide) | exact sizeB (by with_reducible assumption) (by with_reducible assumption) (by with_reducible assumption) (by decide) | exact tnA (by with_reducible assumption) (by decide) | exact tnB (by with_reducible assumption) (by decide) | exact posNat (by with_reducible assumption) | exact eq0 (by with_reducible assumption) | omega)))
    | with_reducible ((with_reducible show PopEnd _ _ _ _ _ _ _ _ _); (k_dflt (refine' PopEnd.intro ?hz_F ?hz_N ?hz_k); (case hz_F => k_asm); (case hz_N => k_asm); (case hz_k => first | with_reducible assumption | exact leN (by with_reducible assumption) (by decide) | exact eqN (by with_reducible assumption) (by decide) | exact leN3 (by with_reducible assumption) (by with_reducible assumption) (by with_reducible assumption) (by decide) | exact lenA (by with_reducible assumption) (by with_reducible assumption) (by decide) | exact lenB (by with_reducible assumption) (by with_reducible assumption) (by decide) | exact sizeB (by with_reducible assumption) (by with_reducible assumption) (by with_reducible assumption) (by decide) | exact tnA (by with_reducible assumption) (by decide) | exact tnB (by with_reducible assumption) (by decide) | exact posNat (by with_reducible assumption) | exact eq0 (by with_reducible assumption) | omega)))
    | with_reducible ( (with_reducible show wpAny _ _ (call (Value.builtin _) [Value.ref _]) _ _ _); (rename CallsAt _ => zC); k_dflt (refine' popN ?hz_F ?hz_N ?hz_U ?hz_p ?hz_z ?_; (case hz_F => k_asm); (case hz_N => k_asm); (case hz_U => k_updF); (case hz_p => first | with_reducible assumption | exact leN (by with_reducible assumption) (by decide) | exact eqN (by with_reducible assumption) (by decide) | exact leN3 (by with_reducible assumption) (by with_reducible assumption) (by with_reducible assumption) (by decide) | exact lenA (by with_reducible assumption) (by with_reducible assumption) (by decide) | exact lenB (by with_reducible assumption) (by with_reducible assumption) (by decide) | exact sizeB (by with_reducible assumption) (by with_reducible assumption) (by with_reducible assumption) (by decide) | exact tnA (by with_reducible assumption) (by decide) | exact tnB (by with_reducible assumption) (by decide) | exact posNat (by with_reducible assumption) | exact eq0 (by with_reducible assumption) | omega); (case hz_z => first | with_reducible assumption | exact leN (by with_reducible assumption) (by decide) | exact eqN (by with_reducible assumption) (by decide) | exact leN3 (by with_reducible assumption) (by with_reducible assumption) (by with_reducible assumption) (by decide) | exact lenA (by with_reducible assumption) (by with_reducible assumption) (by decide) | exact lenB (by with_reducible assumption) (by with_reducible assumption) (by decide) | exact sizeB (by with_reducible assumption) (by with_reducible assumption) (by with_reducible assumption) (by decide) | exact tnA (by with_reducible assumption) (by decide) | exact tnB (by with_reducible assumption) (by decide) | exact posNat (by with_reducible assumption) | exact eq0 (by with_reducible assumption) | omega)); intro y' h' its' hp' F' N'; (try dsimp only at N'); (try k_sweep); (try dsimp only))
    | with_reducible ((with_reducible show wpAny _ _ (exec (Stmt.While _ _ _ _) _) _ _ _); ( (rename CallsAt _ => zC); k_dflt (refine' calls_loop zC ?hz_F ?hz_N ?hz_M ?hz_U ?hz_z ?_ ?_ ?hz_hE); (case hz_F => k_asm); (case hz_N => k_asm); (case hz_M => k_dflt k_mem); (case hz_U => k_updF); (case hz_z => first | with_reducible assumption | exact leN (by with_reducible assumption) (by decide) | exact eqN (by with_reducible assumption) (by decide) | exact leN3 (by with_reducible assumption) (by with_reducible assumption) (by with_reducible assumption) (by decide) | exact lenA (by with_reducible assumption) (by with_reducible assumption) (by decide) | exact lenB (by with_reducible assumption) (by with_reducible assumption) (by decide) | exact sizeB (by with_reducible assumption) (by with_reducible assumption) (by with_reducible assumption) (by decide) | exact tnA (by with_reducible assumption) (by decide) | exact tnB (by with_reducible assumption) (by decide) | exact posNat (by with_reducible assumption) | exact eq0 (by with_reducible assumption) | omega); (case hz_hE => first | assumption | k_dflt passes_own); (intro its' c' h' tk' hz' F' N'; (try dsimp only at N'); (try k_sweep)); rotate_left; (intro c' h' tk' F' N'; (try dsimp only at N'); (try k_sweep)); rotate_right))
    | with_reducible ( (with_reducible show wpAny _ _ (subscriptTail _ _ (Value.ref _) (Value.int _ _)) _ _ _); k_dflt (refine' item32 ?hz_N ?hz_M ?hz_G ?hz_h0 ?hz_h1 ?hz_z ?_ ?hz_a ?hz_b; (case hz_a => with_unfolding_all rfl); (case hz_b => intro _; with_unfolding_all rfl); (case hz_N => k_asm); (case hz_M => k_mem); (case hz_G => with_reducible assumption); (case hz_h0 => first | with_reducible assumption | decide | exact geI (by with_reducible assumption) (by decide) | exact leI (by with_reducible assumption) (by decide) | exact ltLe (by with_reducible assumption) (by decide) | exact dropI (by with_reducible assumption) (by decide) | exact upI (by with_reducible assumption) (by decide) | exact pgeI (by with_reducible assumption) (by decide) | exact pleI (by with_reducible assumption) (by decide) | exact pge2I (by with_reducible assumption) (by decide) | exact self2I (by decide) | exact self1I (by decide) | exact self0I (by decide) | exact addgeI (by with_reducible assumption) (by decide) | exact addltI (by with_reducible assumption) (by decide) | exact addleI (by with_reducible assumption) (by decide) | exact ge2I (by with_reducible assumption) (by with_reducible assumption) (by decide) | exact ge2pI (by with_reducible assumption) (by with_reducible assumption) (by decide) | exact bdA (by with_reducible assumption) (by decide) | exact bdB (by with_reducible assumption) (by with_reducible assumption) (by decide) | exact bdC (by with_reducible assumption) (by with_reducible assumption) (by decide) | exact bdD (by with_reducible assumption) (by with_reducible assumption) (by with_reducible assumption) (by decide) (by decide) | exact bdE (by with_reducible assumption) (by with_reducible assumption) (by with_reducible assumption) (by with_reducible assumption) (by decide) (by decide) | exact bdF (by with_reducible assumption) (by with_reducible assumption) (by with_reducible assumption) (by with_reducible assumption) (by decide) (by decide) | exact natPos (by with_reducible assumption) | exact natLe (by with_reducible assumption) (by decide) | exact hbI (by with_reducible assumption) (by with_reducible assumption) (by with_reducible assumption) (by decide) | omega); (case hz_h1 => first | with_reducible assumption | decide | exact geI (by with_reducible assumption) (by decide) | exact leI (by with_reducible assumption) (by decide) | exact ltLe (by with_reducible assumption) (by decide) | exact dropI (by with_reducible assumption) (by decide) | exact upI (by with_reducible assumption) (by decide) | exact pgeI (by with_reducible assumption) (by decide) | exact pleI (by with_reducible assumption) (by decide) | exact pge2I (by with_reducible assumption) (by decide) | exact self2I (by decide) | exact self1I (by decide) | exact self0I (by decide) | exact addgeI (by with_reducible assumption) (by decide) | exact addltI (by with_reducible assumption) (by decide) | exact addleI (by with_reducible assumption) (by decide) | exact ge2I (by with_reducible assumption) (by with_reducible assumption) (by decide) | exact ge2pI (by with_reducible assumption) (by with_reducible assumption) (by decide) | exact bdA (by with_reducible assumption) (by decide) | exact bdB (by with_reducible assumption) (by with_reducible assumption) (by decide) | exact bdC (by with_reducible assumption) (by with_reducible assumption) (by decide) | exact bdD (by with_reducible assumption) (by with_reducible assumption) (by with_reducible assumption) (by decide) (by decide) | exact bdE (by with_reducible assumption) (by with_reducible assumption) (by with_reducible assumption) (by with_reducible assumption) (by decide) (by decide) | exact bdF (by with_reducible assumption) (by with_reducible assumption) (by with_reducible assumption) (by with_reducible assumption) (by decide) (by decide) | exact natPos (by with_reducible assumption) | exact natLe (by with_reducible assumption) (by decide) | exact hbI (by with_reducible assumption) (by with_reducible assumption) (by with_reducible assumption) (by decide) | omega); (case hz_z => first | with_reducible assumption | exact leN (by with_reducible assumption) (by decide) | exact eqN (by with_reducible assumption) (by decide) | exact leN3 (by with_reducible assumption) (by with_reducible assumption) (by with_reducible assumption) (by decide) | exact lenA (by with_reducible assumption) (by with_reducible assumption) (by decide) | exact lenB (by with_reducible assumption) (by with_reducible assumption) (by decide) | exact sizeB (by with_reducible assumption) (by with_reducible assumption) (by with_reducible assumption) (by decide) | exact tnA (by with_reducible assumption) (by decide) | exact tnB (by with_reducible assumption) (by decide) | exact posNat (by with_reducible assumption) | exact eq0 (by with_reducible assumption) | omega)); intro b' _ hb'; (try dsimp only))
    | with_reducible ((with_reducible show wpAny _ _ (call (Value.builtin _) [Value.ref _]) _ _ _); k_dflt (refine' lenL ?hz_N ?hz_M ?hz_z ?_; (case hz_N => k_asm); (case hz_M => k_mem); (case hz_z => first | with_reducible assumption | exact leN (by with_reducible assumption) (by decide) | exact eqN (by with_reducible assumption) (by decide) | exact leN3 (by with_reducible assumption) (by with_reducible assumption) (by with_reducible assumption) (by decide) | exact lenA (by with_reducible assumption) (by with_reducible assumption) (by decide) | exact lenB (by with_reducible assumption) (by with_reducible assumption) (by decide) | exact sizeB (by with_reducible assumption) (by with_reducible assumption) (by with_reducible assumption) (by decide) | exact tnA (by with_reducible assumption) (by decide) | exact tnB (by with_reducible assumption) (by decide) | exact posNat (by with_reducible assumption) | exact eq0 (by with_reducible assumption) | omega)); intro _ _; (try dsimp only))
    | with_reducible ((with_reducible show wpAny _ _ (call (Value.builtin _) [Value.ref _]) _ _ _); k_dflt (refine' lenN ?hz_N ?hz_M ?hz_z ?_; (case hz_N => k_asm); (case hz_M => k_mem); (case hz_z => first | with_reducible assumption | exact leN (by with_reducible assumption) (by decide) | exact eqN (by with_reducible assumption) (by decide) | exact leN3 (by with_reducible assumption) (by with_reducible assumption) (by with_reducible assumption) (by decide) | exact lenA (by with_reducible assumption) (by with_reducible assumption) (by decide) | exact lenB (by with_reducible assumption) (by with_reducible assumption) (by decide) | exact sizeB (by with_reducible assumption) (by with_reducible assumption) (by with_reducible assumption) (by decide) | exact tnA (by with_reducible assumption) (by decide) | exact tnB (by with_reducible assumption) (by decide) | exact posNat (by with_reducible assumption) | exact eq0 (by with_reducible assumption) | omega)); intro _ _; (try dsimp only))
    | with_reducible ((with_reducible show IsB32 _); (exact ⟨_, _, rfl, by assumption⟩))
    | ((with_reducible show IsB32 _); (exact ⟨_, _, rfl, by assumption⟩))
    | with_reducible ((with_reducible show BoxPost _ _ _ _ _ _ _ _ _ _ _ _ _ _ _ _ _ _ _); ( k_dflt (refine' BoxPost.intro ?hz_F ?hz_N ?hz_a ?hz_b ?_); (case hz_F => k_asm); (case hz_N => k_asm); (case hz_a => first | with_reducible assumption | decide | exact geI (by with_reducible assumption) (by decide) | exact leI (by with_reducible assumption) (by decide) | exact ltLe (by with_reducible assumption) (by decide) | exact dropI (by with_reducible assumption) (by decide) | exact upI (by with_reducible assumption) (by decide) | exact pgeI (by with_reducible assumption) (by decide) | exact pleI (by with_reducible assumption) (by decide) | exact pge2I (by with_reducible assumption) (by decide) | exact self2I (by decide) | exact self1I (by decide) | exact self0I (by decide) | exact addgeI (by with_reducible assumption) (by decide) | exact addltI (by with_reducible assumption) (by decide) | exact addleI (by with_reducible assumption) (by decide) | exact ge2I (by with_reducible assumption) (by with_reducible assumption) (by decide) | exact ge2pI (by with_reducible assumption) (by with_reducible assumption) (by decide) | exact bdA (by with_reducible assumption) (by decide) | exact bdB (by with_reducible assumption) (by with_reducible assumption) (by decide) | exact bdC (by with_reducible assumption) (by with_reducible assumption) (by decide) | exact bdD (by with_reducible assumption) (by with_reducible assumption) (by with_reducible assumption) (by decide) (by decide) | exact bdE (by with_reducible assumption) (by with_reducible assumption) (by with_reducible assumption) (by with_reducible assumption) (by decide) (by decide) | exact bdF (by with_reducible assumption) (by with_reducible assumption) (by with_reducible assumption) (by with_reducible assumption) (by decide) (by decide) | exact natPos (by with_reducible assumption) | exact natLe (by with_reducible assumption) (by decide) | exact hbI (by with_reducible assumption) (by with_reducible assumption) (by with_reducible assumption) (by decide) | omega); (case hz_b => first | with_reducible assumption | decide | exact geI (by with_reducible assumption) (by decide) | exact leI (by with_reducible assumption) (by decide) | exact ltLe (by with_reducible assumption) (by decide) | exact dropI (by with_reducible assumption) (by decide) | exact upI (by with_reducible assumption) (by decide) | exact pgeI (by with_reducible assumption) (by decide) | exact pleI (by with_reducible assumption) (by decide) | exact pge2I (by with_reducible assumption) (by decide) | exact self2I (by decide) | exact self1I (by decide) | exact self0I (by decide) | exact addgeI (by with_reducible assumption) (by decide) | exact addltI (by with_reducible assumption) (by decide) | exact addleI (by with_reducible assumption) (by decide) | exact ge2I (by with_reducible assumption) (by with_reducible assumption) (by decide) | exact ge2pI (by with_reducible assumption) (by with_reducible assumption) (by decide) | exact bdA (by with_reducible assumption) (by decide) | exact bdB (by with_reducible assumption) (by with_reducible assumption) (by decide) | exact bdC (by with_reducible assumption) (by with_reducible assumption) (by decide) | exact bdD (by with_reducible assumption) (by with_reducible assumption) (by with_reducible assumption) (by decide) (by decide) | exact bdE (by with_reducible assumption) (by with_reducible assumption) (by with_reducible assumption) (by with_reducible assumption) (by decide) (by decide) | exact bdF (by with_reducible assumption) (by with_reducible assumption) (by with_reducible assumption) (by with_reducible assumption) (by decide) (by decide) | exact natPos (by with_reducible assumption) | exact natLe (by with_reducible assumption) (by decide) | exact hbI (by with_reducible assumption) (by with_reducible assumption) (by with_reducible assumption) (by decide) | omega)))
    | with_reducible ((with_reducible show LCg.CompSrc _ _ _ _ _ _ _ _ _ _ _ _ _ _); ( (fail_if_success (rename LCg.Off1 _ _ => z)); k_dflt (refine LCg.CompSrc.range (by rfl) (by k_asm) (by k_asm) (by with_reducible assumption) (small_one (by first | decide | exact geI (by with_reducible assumption) (by decide) | exact ltI (by with_reducible assumption) (by decide) | exact addgeI (by with_reducible assumption) (by decide) | exact addltI (by with_reducible assumption) (by decide) | omega) (by first | decide | exact geI (by with_reducible assumption) (by decide) | exact ltI (by with_reducible assumption) (by decide) | exact addgeI (by with_reducible assumption) (by decide) | exact addltI (by with_reducible assumption) (by decide) | omega) (by first | decide | exact geI (by with_reducible assumption) (by decide) | exact ltI (by with_reducible assumption) (by decide) | exact addgeI (by with_reducible assumption) (by decide) | exact addltI (by with_reducible assumption) (by decide) | omega) (by first | decide | exact geI (by with_reducible assumption) (by decide) | exact ltI (by with_reducible assumption) (by decide) | exact addgeI (by with_reducible assumption) (by decide) | exact addltI (by with_reducible assumption) (by decide) | omega)) (rangeSize_nat _ _) (by rw [PySem.sizeLine_eq]; (first | with_reducible assumption | exact leN (by with_reducible assumption) (by decide) | exact eqN (by with_reducible assumption) (by decide) | exact leN3 (by with_reducible assumption) (by with_reducible assumption) (by with_reducible assumption) (by decide) | exact lenA (by with_reducible assumption) (by with_reducible assumption) (by decide) | exact lenB (by with_reducible assumption) (by with_reducible assumption) (by decide) | exact sizeB (by with_reducible assumption) (by with_reducible assumption) (by with_reducible assumption) (by decide) | exact tnA (by with_reducible assumption) (by decide) | exact tnB (by with_reducible assumption) (by decide) | exact posNat (by with_reducible assumption) | exact eq0 (by with_reducible assumption) | omega)) ?_); intro g'; k_dflt (refine' boxCompB ?hz_M ?hz_U IsB32 _ 40 (by decide) ?hz_L0 ?hz_B0 ?_ ?_); (case hz_M => k_dflt k_mem); (case hz_U => k_updF); (case hz_L0 => first | with_reducible assumption | decide | exact geI (by with_reducible assumption) (by decide) | exact leI (by with_reducible assumption) (by decide) | exact ltLe (by with_reducible assumption) (by decide) | exact dropI (by with_reducible assumption) (by decide) | exact upI (by with_reducible assumption) (by decide) | exact pgeI (by with_reducible assumption) (by decide) | exact pleI (by with_reducible assumption) (by decide) | exact pge2I (by with_reducible assumption) (by decide) | exact self2I (by decide) | exact self1I (by decide) | exact self0I (by decide) | exact addgeI (by with_reducible assumption) (by decide) | exact addltI (by with_reducible assumption) (by decide) | exact addleI (by with_reducible assumption) (by decide) | exact ge2I (by with_reducible assumption) (by with_reducible assumption) (by decide) | exact ge2pI (by with_reducible assumption) (by with_reducible assumption) (by decide) | exact bdA (by with_reducible assumption) (by decide) | exact bdB (by with_reducible assumption) (by with_reducible assumption) (by decide) | exact bdC (by with_reducible assumption) (by with_reducible assumption) (by decide) | exact bdD (by with_reducible assumption) (by with_reducible assumption) (by with_reducible assumption) (by decide) (by decide) | exact bdE (by with_reducible assumption) (by with_reducible assumption) (by with_reducible assumption) (by with_reducible assumption) (by decide) (by decide) | exact bdF (by with_reducible assumption) (by with_reducible assumption) (by with_reducible assumption) (by with_reducible assumption) (by decide) (by decide) | exact natPos (by with_reducible assumption) | exact natLe (by with_reducible assumption) (by decide) | exact hbI (by with_reducible assumption) (by with_reducible assumption) (by with_reducible assumption) (by decide) | omega); (case hz_B0 => first | with_reducible assumption | decide | exact geI (by with_reducible assumption) (by decide) | exact leI (by with_reducible assumption) (by decide) | exact ltLe (by with_reducible assumption) (by decide) | exact dropI (by with_reducible assumption) (by decide) | exact upI (by with_reducible assumption) (by decide) | exact pgeI (by with_reducible assumption) (by decide) | exact pleI (by with_reducible assumption) (by decide) | exact pge2I (by with_reducible assumption) (by decide) | exact self2I (by decide) | exact self1I (by decide) | exact self0I (by decide) | exact addgeI (by with_reducible assumption) (by decide) | exact addltI (by with_reducible assumption) (by decide) | exact addleI (by with_reducible assumption) (by decide) | exact ge2I (by with_reducible assumption) (by with_reducible assumption) (by decide) | exact ge2pI (by with_reducible assumption) (by with_reducible assumption) (by decide) | exact bdA (by with_reducible assumption) (by decide) | exact bdB (by with_reducible assumption) (by with_reducible assumption) (by decide) | exact bdC (by with_reducible assumption) (by with_reducible assumption) (by decide) | exact bdD (by with_reducible assumption) (by with_reducible assumption) (by with_reducible assumption) (by decide) (by decide) | exact bdE (by with_reducible assumption) (by with_reducible assumption) (by with_reducible assumption) (by with_reducible assumption) (by decide) (by decide) | exact bdF (by with_reducible assumption) (by with_reducible assumption) (by with_reducible assumption) (by with_reducible assumption) (by decide) (by decide) | exact natPos (by with_reducible assumption) | exact natLe (by with_reducible assumption) (by decide) | exact hbI (by with_reducible assumption) (by with_reducible assumption) (by with_reducible assumption) (by decide) | omega); (try (intro i v I oI C oC D m₂ h tk E' ys at' t hP h0 h1 hC hx F' N' b1 b2 b3; (have hP' := hP); obtain ⟨tv, hv⟩ := hP'; subst hv; clear hP; (try dsimp only at N'); (try dsimp only); (try k_sweep)))))
    | with_reducible ((with_reducible show LCg.CompSrc _ _ _ _ _ _ _ _ _ _ _ _ _ _); ( k_dflt (refine LCg.CompSrc.range (by rfl) (by k_asm) (by k_asm) (by with_reducible assumption) (small_one (by first | decide | exact geI (by with_reducible assumption) (by decide) | exact ltI (by with_reducible assumption) (by decide) | exact addgeI (by with_reducible assumption) (by decide) | exact addltI (by with_reducible assumption) (by decide) | omega) (by first | decide | exact geI (by with_reducible assumption) (by decide) | exact ltI (by with_reducible assumption) (by decide) | exact addgeI (by with_reducible assumption) (by decide) | exact addltI (by with_reducible assumption) (by decide) | omega) (by first | decide | exact geI (by with_reducible assumption) (by decide) | exact ltI (by with_reducible assumption) (by decide) | exact addgeI (by with_reducible assumption) (by decide) | exact addltI (by with_reducible assumption) (by decide) | omega) (by first | decide | exact geI (by with_reducible assumption) (by decide) | exact ltI (by with_reducible assumption) (by decide) | exact addgeI (by with_reducible assumption) (by decide) | exact addltI (by with_reducible assumption) (by decide) | omega)) (rangeSize_nat _ _) (by rw [PySem.sizeLine_eq]; (first | with_reducible assumption | exact leN (by with_reducible assumption) (by decide) | exact eqN (by with_reducible assumption) (by decide) | exact leN3 (by with_reducible assumption) (by with_reducible assumption) (by with_reducible assumption) (by decide) | exact lenA (by with_reducible assumption) (by with_reducible assumption) (by decide) | exact lenB (by with_reducible assumption) (by with_reducible assumption) (by decide) | exact sizeB (by with_reducible assumption) (by with_reducible assumption) (by with_reducible assumption) (by decide) | exact tnA (by with_reducible assumption) (by decide) | exact tnB (by with_reducible assumption) (by decide) | exact posNat (by with_reducible assumption) | exact eq0 (by with_reducible assumption) | omega)) ?_); intro g'; k_dflt (refine' boxCompB ?hz_M ?hz_U IsB32 _ 1300 (by decide) ?hz_L0 ?hz_B0 ?_ ?_); (case hz_M => k_dflt k_mem); (case hz_U => k_updF); (case hz_L0 => first | with_reducible assumption | decide | exact geI (by with_reducible assumption) (by decide) | exact leI (by with_reducible assumption) (by decide) | exact ltLe (by with_reducible assumption) (by decide) | exact dropI (by with_reducible assumption) (by decide) | exact upI (by with_reducible assumption) (by decide) | exact pgeI (by with_reducible assumption) (by decide) | exact pleI (by with_reducible assumption) (by decide) | exact pge2I (by with_reducible assumption) (by decide) | exact self2I (by decide) | exact self1I (by decide) | exact self0I (by decide) | exact addgeI (by with_reducible assumption) (by decide) | exact addltI (by with_reducible assumption) (by decide) | exact addleI (by with_reducible assumption) (by decide) | exact ge2I (by with_reducible assumption) (by with_reducible assumption) (by decide) | exact ge2pI (by with_reducible assumption) (by with_reducible assumption) (by decide) | exact bdA (by with_reducible assumption) (by decide) | exact bdB (by with_reducible assumption) (by with_reducible assumption) (by decide) | exact bdC (by with_reducible assumption) (by with_reducible assumption) (by decide) | exact bdD (by with_reducible assumption) (by with_reducible assumption) (by with_reducible assumption) (by decide) (by decide) | exact bdE (by with_reducible assumption) (by with_reducible assumption) (by with_reducible assumption) (by with_reducible assumption) (by decide) (by decide) | exact bdF (by with_reducible assumption) (by with_reducible assumption) (by with_reducible assumption) (by with_reducible assumption) (by decide) (by decide) | exact natPos (by with_reducible assumption) | exact natLe (by with_reducible assumption) (by decide) | exact hbI (by with_reducible assumption) (by with_reducible assumption) (by with_reducible assumption) (by decide) | omega); (case hz_B0 => first | with_reducible assumption | decide | exact geI (by with_reducible assumption) (by decide) | exact leI (by with_reducible assumption) (by decide) | exact ltLe (by with_reducible assumption) (by decide) | exact dropI (by with_reducible assumption) (by decide) | exact upI (by with_reducible assumption) (by decide) | exact pgeI (by with_reducible assumption) (by decide) | exact pleI (by with_reducible assumption) (by decide) | exact pge2I (by with_reducible assumption) (by decide) | exact self2I (by decide) | exact self1I (by decide) | exact self0I (by decide) | exact addgeI (by with_reducible assumption) (by decide) | exact addltI (by with_reducible assumption) (by decide) | exact addleI (by with_reducible assumption) (by decide) | exact ge2I (by with_reducible assumption) (by with_reducible assumption) (by decide) | exact ge2pI (by with_reducible assumption) (by with_reducible assumption) (by decide) | exact bdA (by with_reducible assumption) (by decide) | exact bdB (by with_reducible assumption) (by with_reducible assumption) (by decide) | exact bdC (by with_reducible assumption) (by with_reducible assumption) (by decide) | exact bdD (by with_reducible assumption) (by with_reducible assumption) (by with_reducible assumption) (by decide) (by decide) | exact bdE (by with_reducible assumption) (by with_reducible assumption) (by with_reducible assumption) (by with_reducible assumption) (by decide) (by decide) | exact bdF (by with_reducible assumption) (by with_reducible assumption) (by with_reducible assumption) (by with_reducible assumption) (by decide) (by decide) | exact natPos (by with_reducible assumption) | exact natLe (by with_reducible assumption) (by decide) | exact hbI (by with_reducible assumption) (by with_reducible assumption) (by with_reducible assumption) (by decide) | omega); (try (intro i v I oI C oC D m₂ h tk E' ys at' t hP h0 h1 hC hx F' N' b1 b2 b3; (have hP' := hP); obtain ⟨tv, hv⟩ := hP'; subst hv; clear hP; (try dsimp only at N'); (try dsimp only); (try k_sweep)))))
    | with_reducible ( (with_reducible show wpAny _ _ (call (Value.ref 177) [Value.ref _]) _ _ _); k_dflt (refine' hash (Cx.law ?hz_B ?hz_F ?hz_X ?hz_T ?hz_K ?hz_d ?hz_u ?hz_N ?hz_S) ?hz_R ?hz_a0 ?hz_a1 ?_); (case hz_B => k_asm); (case hz_F => k_asm); (case hz_X => k_asm); (case hz_T => k_asm); (case hz_K => first | exact rfl | assumption); (case hz_N => k_asm); (case hz_d => k_dflt (exact Nat.le_of_ble_eq_true rfl)); (case hz_u => k_dflt (exact Nat.le_of_ble_eq_true rfl)); (case hz_S => k_dflt (intro q hq; rw [List.mem_singleton] at hq; subst hq; k_mem)); (case hz_R => k_dflt (exact Rw.mk (by k_asm) (by k_mem) (by with_reducible assumption) (List.length_take_le _ _) (by k_ne))); (case hz_a0 => first | with_reducible assumption | decide | exact geI (by with_reducible assumption) (by decide) | exact leI (by with_reducible assumption) (by decide) | exact ltLe (by with_reducible assumption) (by decide) | exact dropI (by with_reducible assumption) (by decide) | exact upI (by with_reducible assumption) (by decide) | exact pgeI (by with_reducible assumption) (by decide) | exact pleI (by with_reducible assumption) (by decide) | exact pge2I (by with_reducible assumption) (by decide) | exact self2I (by decide) | exact self1I (by decide) | exact self0I (by decide) | exact addgeI (by with_reducible assumption) (by decide) | exact addltI (by with_reducible assumption) (by decide) | exact addleI (by with_reducible assumption) (by decide) | exact ge2I (by with_reducible assumption) (by with_reducible assumption) (by decide) | exact ge2pI (by with_reducible assumption) (by with_reducible assumption) (by decide) | exact bdA (by with_reducible assumption) (by decide) | exact bdB (by with_reducible assumption) (by with_reducible assumption) (by decide) | exact bdC (by with_reducible assumption) (by with_reducible assumption) (by decide) | exact bdD (by with_reducible assumption) (by with_reducible assumption) (by with_reducible assumption) (by decide) (by decide) | exact bdE (by with_reducible assumption) (by with_reducible assumption) (by with_reducible assumption) (by with_reducible assumption) (by decide) (by decide) | exact bdF (by with_reducible assumption) (by with_reducible assumption) (by with_reducible assumption) (by with_reducible assumption) (by decide) (by decide) | exact natPos (by with_reducible assumption) | exact natLe (by with_reducible assumption) (by decide) | exact hbI (by with_reducible assumption) (by with_reducible assumption) (by with_reducible assumption) (by decide) | omega); (case hz_a1 => first | with_reducible assumption | decide | exact geI (by with_reducible assumption) (by decide) | exact leI (by with_reducible assumption) (by decide) | exact ltLe (by with_reducible assumption) (by decide) | exact dropI (by with_reducible assumption) (by decide) | exact upI (by with_reducible assumption) (by decide) | exact pgeI (by with_reducible assumption) (by decide) | exact pleI (by with_reducible assumption) (by decide) | exact pge2I (by with_reducible assumption) (by decide) | exact self2I (by decide) | exact self1I (by decide) | exact self0I (by decide) | exact addgeI (by with_reducible assumption) (by decide) | exact addltI (by with_reducible assumption) (by decide) | exact addleI (by with_reducible assumption) (by decide) | exact ge2I (by with_reducible assumption) (by with_reducible assumption) (by decide) | exact ge2pI (by with_reducible assumption) (by with_reducible assumption) (by decide) | exact bdA (by with_reducible assumption) (by decide) | exact bdB (by with_reducible assumption) (by with_reducible assumption) (by decide) | exact bdC (by with_reducible assumption) (by with_reducible assumption) (by decide) | exact bdD (by with_reducible assumption) (by with_reducible assumption) (by with_reducible assumption) (by decide) (by decide) | exact bdE (by with_reducible assumption) (by with_reducible assumption) (by with_reducible assumption) (by with_reducible assumption) (by decide) (by decide) | exact bdF (by with_reducible assumption) (by with_reducible assumption) (by with_reducible assumption) (by with_reducible assumption) (by decide) (by decide) | exact natPos (by with_reducible assumption) | exact natLe (by with_reducible assumption) (by decide) | exact hbI (by with_reducible assumption) (by with_reducible assumption) (by with_reducible assumption) (by decide) | omega); intro b' _ at2' _ h' _ hb' v0 v1 kb' ho'; (have X' := but_F (by k_asm) (by k_asm) (by k_updF) kb' ho'); (have F' := X'.1); (have N' := X'.2); clear X' kb' ho'; (try dsimp only at N'); (try k_sweep); (try (refine keepP ?_)); (try dsimp only); (try k_fold))
    | with_reducible ( (with_reducible show wpAny _ _ (call (Value.ref 172) [Value.ref _]) _ _ _); k_dflt (refine' secret (Cx.law ?hz_B ?hz_F ?hz_X ?hz_T ?hz_K ?hz_d ?hz_u ?hz_N ?hz_S) ?hz_R ?hz_a0 ?hz_a1 ?_); (case hz_B => k_asm); (case hz_F => k_asm); (case hz_X => k_asm); (case hz_T => k_asm); (case hz_K => first | exact rfl | assumption); (case hz_N => k_asm); (case hz_d => k_dflt (exact Nat.le_of_ble_eq_true rfl)); (case hz_u => k_dflt (exact Nat.le_of_ble_eq_true rfl)); (case hz_S => k_dflt (intro q hq; rw [List.mem_singleton] at hq; subst hq; k_mem)); (case hz_R => k_dflt (exact Rw.mk (by k_asm) (by k_mem) (by with_reducible assumption) (List.length_take_le _ _) (by k_ne))); (case hz_a0 => first | with_reducible assumption | decide | exact geI (by with_reducible assumption) (by decide) | exact leI (by with_reducible assumption) (by decide) | exact ltLe (by with_reducible assumption) (by decide) | exact dropI (by with_reducible assumption) (by decide) | exact upI (by with_reducible assumption) (by decide) | exact pgeI (by with_reducible assumption) (by decide) | exact pleI (by with_reducible assumption) (by decide) | exact pge2I (by with_reducible assumption) (by decide) | exact self2I (by decide) | exact self1I (by decide) | exact self0I (by decide) | exact addgeI (by with_reducible assumption) (by decide) | exact addltI (by with_reducible assumption) (by decide) | exact addleI (by with_reducible assumption) (by decide) | exact ge2I (by with_reducible assumption) (by with_reducible assumption) (by decide) | exact ge2pI (by with_reducible assumption) (by with_reducible assumption) (by decide) | exact bdA (by with_reducible assumption) (by decide) | exact bdB (by with_reducible assumption) (by with_reducible assumption) (by decide) | exact bdC (by with_reducible assumption) (by with_reducible assumption) (by decide) | exact bdD (by with_reducible assumption) (by with_reducible assumption) (by with_reducible assumption) (by decide) (by decide) | exact bdE (by with_reducible assumption) (by with_reducible assumption) (by with_reducible assumption) (by with_reducible assumption) (by decide) (by decide) | exact bdF (by with_reducible assumption) (by with_reducible assumption) (by with_reducible assumption) (by with_reducible assumption) (by decide) (by decide) | exact natPos (by with_reducible assumption) | exact natLe (by with_reducible assumption) (by decide) | exact hbI (by with_reducible assumption) (by with_reducible assumption) (by with_reducible assumption) (by decide) | omega); (case hz_a1 => first | with_reducible assumption | decide | exact geI (by with_reducible assumption) (by decide) | exact leI (by with_reducible assumption) (by decide) | exact ltLe (by with_reducible assumption) (by decide) | exact dropI (by with_reducible assumption) (by decide) | exact upI (by with_reducible assumption) (by decide) | exact pgeI (by with_reducible assumption) (by decide) | exact pleI (by with_reducible assumption) (by decide) | exact pge2I (by with_reducible assumption) (by decide) | exact self2I (by decide) | exact self1I (by decide) | exact self0I (by decide) | exact addgeI (by with_reducible assumption) (by decide) | exact addltI (by with_reducible assumption) (by decide) | exact addleI (by with_reducible assumption) (by decide) | exact ge2I (by with_reducible assumption) (by with_reducible assumption) (by decide) | exact ge2pI (by with_reducible assumption) (by with_reducible assumption) (by decide) | exact bdA (by with_reducible assumption) (by decide) | exact bdB (by with_reducible assumption) (by with_reducible assumption) (by decide) | exact bdC (by with_reducible assumption) (by with_reducible assumption) (by decide) | exact bdD (by with_reducible assumption) (by with_reducible assumption) (by with_reducible assumption) (by decide) (by decide) | exact bdE (by with_reducible assumption) (by with_reducible assumption) (by with_reducible assumption) (by with_reducible assumption) (by decide) (by decide) | exact bdF (by with_reducible assumption) (by with_reducible assumption) (by with_reducible assumption) (by with_reducible assumption) (by decide) (by decide) | exact natPos (by with_reducible assumption) | exact natLe (by with_reducible assumption) (by decide) | exact hbI (by with_reducible assumption) (by with_reducible assumption) (by with_reducible assumption) (by decide) | omega); intro b' _ at2' _ h' _ hb' v0 v1 kb' ho'; (have X' := but_F (by k_asm) (by k_asm) (by k_updF) kb' ho'); (have F' := X'.1); (have N' := X'.2); clear X' kb' ho'; (try dsimp only at N'); (try k_sweep); (try (refine keepP ?_)); (try dsimp only); (try k_fold))
    | with_reducible ( (with_reducible show wpAny _ _ (call (Value.ref 158) [Value.ref _, Value.int _ _]) _ _ _); k_dflt (refine' takeR (Cx.law ?hz_B ?hz_F ?hz_X ?hz_T ?hz_K ?hz_d ?hz_u ?hz_N ?hz_S) ?hz_R ?hz_a0 ?hz_a1 ?hz_m0 ?hz_m1 ?_); (case hz_B => k_asm); (case hz_F => k_asm); (case hz_X => k_asm); (case hz_T => k_asm); (case hz_K => first | exact rfl | assumption); (case hz_N => k_asm); (case hz_d => k_dflt (exact Nat.le_of_ble_eq_true rfl)); (case hz_u => k_dflt (exact Nat.le_of_ble_eq_true rfl)); (case hz_S => k_dflt (intro q hq; rw [List.mem_singleton] at hq; subst hq; k_mem)); (case hz_R => k_dflt (exact Rw.mk (by k_asm) (by k_mem) (by with_reducible assumption) (List.length_take_le _ _) (by k_ne))); (case hz_a0 => first | with_reducible assumption | decide | exact geI (by with_reducible assumption) (by decide) | exact leI (by with_reducible assumption) (by decide) | exact ltLe (by with_reducible assumption) (by decide) | exact dropI (by with_reducible assumption) (by decide) | exact upI (by with_reducible assumption) (by decide) | exact pgeI (by with_reducible assumption) (by decide) | exact pleI (by with_reducible assumption) (by decide) | exact pge2I (by with_reducible assumption) (by decide) | exact self2I (by decide) | exact self1I (by decide) | exact self0I (by decide) | exact addgeI (by with_reducible assumption) (by decide) | exact addltI (by with_reducible assumption) (by decide) | exact addleI (by with_reducible assumption) (by decide) | exact ge2I (by with_reducible assumption) (by with_reducible assumption) (by decide) | exact ge2pI (by with_reducible assumption) (by with_reducible assumption) (by decide) | exact bdA (by with_reducible assumption) (by decide) | exact bdB (by with_reducible assumption) (by with_reducible assumption) (by decide) | exact bdC (by with_reducible assumption) (by with_reducible assumption) (by decide) | exact bdD (by with_reducible assumption) (by with_reducible assumption) (by with_reducible assumption) (by decide) (by decide) | exact bdE (by with_reducible assumption) (by with_reducible assumption) (by with_reducible assumption) (by with_reducible assumption) (by decide) (by decide) | exact bdF (by with_reducible assumption) (by with_reducible assumption) (by with_reducible assumption) (by with_reducible assumption) (by decide) (by decide) | exact natPos (by with_reducible assumption) | exact natLe (by with_reducible assumption) (by decide) | exact hbI (by with_reducible assumption) (by with_reducible assumption) (by with_reducible assumption) (by decide) | omega); (case hz_a1 => first | with_reducible assumption | decide | exact geI (by with_reducible assumption) (by decide) | exact leI (by with_reducible assumption) (by decide) | exact ltLe (by with_reducible assumption) (by decide) | exact dropI (by with_reducible assumption) (by decide) | exact upI (by with_reducible assumption) (by decide) | exact pgeI (by with_reducible assumption) (by decide) | exact pleI (by with_reducible assumption) (by decide) | exact pge2I (by with_reducible assumption) (by decide) | exact self2I (by decide) | exact self1I (by decide) | exact self0I (by decide) | exact addgeI (by with_reducible assumption) (by decide) | exact addltI (by with_reducible assumption) (by decide) | exact addleI (by with_reducible assumption) (by decide) | exact ge2I (by with_reducible assumption) (by with_reducible assumption) (by decide) | exact ge2pI (by with_reducible assumption) (by with_reducible assumption) (by decide) | exact bdA (by with_reducible assumption) (by decide) | exact bdB (by with_reducible assumption) (by with_reducible assumption) (by decide) | exact bdC (by with_reducible assumption) (by with_reducible assumption) (by decide) | exact bdD (by with_reducible assumption) (by with_reducible assumption) (by with_reducible assumption) (by decide) (by decide) | exact bdE (by with_reducible assumption) (by with_reducible assumption) (by with_reducible assumption) (by with_reducible assumption) (by decide) (by decide) | exact bdF (by with_reducible assumption) (by with_reducible assumption) (by with_reducible assumption) (by with_reducible assumption) (by decide) (by decide) | exact natPos (by with_reducible assumption) | exact natLe (by with_reducible assumption) (by decide) | exact hbI (by with_reducible assumption) (by with_reducible assumption) (by with_reducible assumption) (by decide) | omega); (case hz_m0 => first | with_reducible assumption | decide | exact geI (by with_reducible assumption) (by decide) | exact leI (by with_reducible assumption) (by decide) | exact ltLe (by with_reducible assumption) (by decide) | exact dropI (by with_reducible assumption) (by decide) | exact upI (by with_reducible assumption) (by decide) | exact pgeI (by with_reducible assumption) (by decide) | exact pleI (by with_reducible assumption) (by decide) | exact pge2I (by with_reducible assumption) (by decide) | exact self2I (by decide) | exact self1I (by decide) | exact self0I (by decide) | exact addgeI (by with_reducible assumption) (by decide) | exact addltI (by with_reducible assumption) (by decide) | exact addleI (by with_reducible assumption) (by decide) | exact ge2I (by with_reducible assumption) (by with_reducible assumption) (by decide) | exact ge2pI (by with_reducible assumption) (by with_reducible assumption) (by decide) | exact bdA (by with_reducible assumption) (by decide) | exact bdB (by with_reducible assumption) (by with_reducible assumption) (by decide) | exact bdC (by with_reducible assumption) (by with_reducible assumption) (by decide) | exact bdD (by with_reducible assumption) (by with_reducible assumption) (by with_reducible assumption) (by decide) (by decide) | exact bdE (by with_reducible assumption) (by with_reducible assumption) (by with_reducible assumption) (by with_reducible assumption) (by decide) (by decide) | exact bdF (by with_reducible assumption) (by with_reducible assumption) (by with_reducible assumption) (by with_reducible assumption) (by decide) (by decide) | exact natPos (by with_reducible assumption) | exact natLe (by with_reducible assumption) (by decide) | exact hbI (by with_reducible assumption) (by with_reducible assumption) (by with_reducible assumption) (by decide) | omega); (case hz_m1 => first | with_reducible assumption | decide | exact geI (by with_reducible assumption) (by decide) | exact leI (by with_reducible assumption) (by decide) | exact ltLe (by with_reducible assumption) (by decide) | exact dropI (by with_reducible assumption) (by decide) | exact upI (by with_reducible assumption) (by decide) | exact pgeI (by with_reducible assumption) (by decide) | exact pleI (by with_reducible assumption) (by decide) | exact pge2I (by with_reducible assumption) (by decide) | exact self2I (by decide) | exact self1I (by decide) | exact self0I (by decide) | exact addgeI (by with_reducible assumption) (by decide) | exact addltI (by with_reducible assumption) (by decide) | exact addleI (by with_reducible assumption) (by decide) | exact ge2I (by with_reducible assumption) (by with_reducible assumption) (by decide) | exact ge2pI (by with_reducible assumption) (by with_reducible assumption) (by decide) | exact bdA (by with_reducible assumption) (by decide) | exact bdB (by with_reducible assumption) (by with_reducible assumption) (by decide) | exact bdC (by with_reducible assumption) (by with_reducible assumption) (by decide) | exact bdD (by with_reducible assumption) (by with_reducible assumption) (by with_reducible assumption) (by decide) (by decide) | exact bdE (by with_reducible assumption) (by with_reducible assumption) (by with_reducible assumption) (by with_reducible assumption) (by decide) (by decide) | exact bdF (by with_reducible assumption) (by with_reducible assumption) (by with_reducible assumption) (by with_reducible assumption) (by decide) (by decide) | exact natPos (by with_reducible assumption) | exact natLe (by with_reducible assumption) (by decide) | exact hbI (by with_reducible assumption) (by with_reducible assumption) (by with_reducible assumption) (by decide) | omega); intro v' _ _ h' _ v0 v1 kb' ho'; (have X' := but_F (by k_asm) (by k_asm) (by k_updF) kb' ho'); (have F' := X'.1); (have N' := X'.2); clear X' kb' ho'; (try dsimp only at N'); (try k_sweep); (try (refine keepP ?_)); (try dsimp only); (try k_fold))
    | with_reducible ((with_reducible refine addS ?_); intro _ _; (try dsimp only))
    | with_reducible ((with_reducible show LCg.FinA _ _ _ _ _ _ _ _); ((unfold LCg.FinA); intro D' h' tk' F' N' o1'; (try dsimp only at o1'); (try simp only [List.nil_append, List.cons_append] at N'); (try dsimp only)))
    | walk1
    | (dsimp only; walk1)
    | (leave1; walk_say "STEP leave1"; try dsimp only)
    | fail "no step")
  · unfold Stop
    rename MOk _ _ _ => KR
    refine' turn_walk ?B ?X ?T ?d1 ?d2 ?d3 ?d4 ?hI ?l0 ?l1 ?l2 ?l3 ?l4 ?l5 ?l6 ?l7 ?l8 ?l9 ?n1 ?n2 ?n3 ?n4 ?n5 ?n6 ?sE ?hss ?hhs ?c1 ?c2 ?c3 ?c4 ?hn ?hE
    case B => with_reducible assumption
    case X => with_reducible assumption
    case T => with_reducible assumption
    case d1 => with_reducible assumption
    case d2 => with_reducible assumption
    case d3 => with_reducible assumption
    case d4 => with_reducible assumption
    case hI => with_reducible assumption
    case l0 => first | with_reducible assumption | kpa_ne | (refine' Nat.lt_trans ?_ (by with_reducible assumption); kpa_ne) | exact lt1 | exact lt2 | exact lt3 | exact lt4 | exact up1 (by with_reducible assumption) | exact up2 (by with_reducible assumption) | exact up3 (by with_reducible assumption) | exact up4 (by with_reducible assumption) | exact Nat.lt_trans (up1 (by with_reducible assumption)) (by kpa_ne) | omega
    case l1 => first | with_reducible assumption | kpa_ne | (refine' Nat.lt_trans ?_ (by with_reducible assumption); kpa_ne) | exact lt1 | exact lt2 | exact lt3 | exact lt4 | exact up1 (by with_reducible assumption) | exact up2 (by with_reducible assumption) | exact up3 (by with_reducible assumption) | exact up4 (by with_reducible assumption) | exact Nat.lt_trans (up1 (by with_reducible assumption)) (by kpa_ne) | omega
    case l2 => first | with_reducible assumption | kpa_ne | (refine' Nat.lt_trans ?_ (by with_reducible assumption); kpa_ne) | exact lt1 | exact lt2 | exact lt3 | exact lt4 | exact up1 (by with_reducible assumption) | exact up2 (by with_reducible assumption) | exact up3 (by with_reducible assumption) | exact up4 (by with_reducible assumption) | exact Nat.lt_trans (up1 (by with_reducible assumption)) (by kpa_ne) | omega
    case l3 => first | with_reducible assumption | kpa_ne | (refine' Nat.lt_trans ?_ (by with_reducible assumption); kpa_ne) | exact lt1 | exact lt2 | exact lt3 | exact lt4 | exact up1 (by with_reducible assumption) | exact up2 (by with_reducible assumption) | exact up3 (by with_reducible assumption) | exact up4 (by with_reducible assumption) | exact Nat.lt_trans (up1 (by with_reducible assumption)) (by kpa_ne) | omega
    case l4 => first | with_reducible assumption | kpa_ne | (refine' Nat.lt_trans ?_ (by with_reducible assumption); kpa_ne) | exact lt1 | exact lt2 | exact lt3 | exact lt4 | exact up1 (by with_reducible assumption) | exact up2 (by with_reducible assumption) | exact up3 (by with_reducible assumption) | exact up4 (by with_reducible assumption) | exact Nat.lt_trans (up1 (by with_reducible assumption)) (by kpa_ne) | omega
    case l5 => first | with_reducible assumption | kpa_ne | (refine' Nat.lt_trans ?_ (by with_reducible assumption); kpa_ne) | exact lt1 | exact lt2 | exact lt3 | exact lt4 | exact up1 (by with_reducible assumption) | exact up2 (by with_reducible assumption) | exact up3 (by with_reducible assumption) | exact up4 (by with_reducible assumption) | exact Nat.lt_trans (up1 (by with_reducible assumption)) (by kpa_ne) | omega
    case l6 => first | with_reducible assumption | kpa_ne | (refine' Nat.lt_trans ?_ (by with_reducible assumption); kpa_ne) | exact lt1 | exact lt2 | exact lt3 | exact lt4 | exact up1 (by with_reducible assumption) | exact up2 (by with_reducible assumption) | exact up3 (by with_reducible assumption) | exact up4 (by with_reducible assumption) | exact Nat.lt_trans (up1 (by with_reducible assumption)) (by kpa_ne) | omega
    case l7 => first | with_reducible assumption | kpa_ne | (refine' Nat.lt_trans ?_ (by with_reducible assumption); kpa_ne) | exact lt1 | exact lt2 | exact lt3 | exact lt4 | exact up1 (by with_reducible assumption) | exact up2 (by with_reducible assumption) | exact up3 (by with_reducible assumption) | exact up4 (by with_reducible assumption) | exact Nat.lt_trans (up1 (by with_reducible assumption)) (by kpa_ne) | omega
    case l8 => first | with_reducible assumption | kpa_ne | (refine' Nat.lt_trans ?_ (by with_reducible assumption); kpa_ne) | exact lt1 | exact lt2 | exact lt3 | exact lt4 | exact up1 (by with_reducible assumption) | exact up2 (by with_reducible assumption) | exact up3 (by with_reducible assumption) | exact up4 (by with_reducible assumption) | exact Nat.lt_trans (up1 (by with_reducible assumption)) (by kpa_ne) | omega
    case l9 => first | with_reducible assumption | kpa_ne | (refine' Nat.lt_trans ?_ (by with_reducible assumption); kpa_ne) | exact lt1 | exact lt2 | exact lt3 | exact lt4 | exact up1 (by with_reducible assumption) | exact up2 (by with_reducible assumption) | exact up3 (by with_reducible assumption) | exact up4 (by with_reducible assumption) | exact Nat.lt_trans (up1 (by with_reducible assumption)) (by kpa_ne) | omega
    case n1 => (show @Ne Nat _ _; k_ne)
    case n2 => (show @Ne Nat _ _; k_ne)
    case n3 => (show @Ne Nat _ _; k_ne)
    case n4 => (show @Ne Nat _ _; k_ne)
    case n5 => (show @Ne Nat _ _; k_ne)
    case n6 => (show @Ne Nat _ _; k_ne)
    case sE => with_reducible assumption
    case hss => with_reducible assumption
    case hhs => with_reducible assumption
    case c1 => first | with_reducible assumption | exact leN (by with_reducible assumption) (by decide) | exact lenA (by with_reducible assumption) (by with_reducible assumption) (by decide) | exact lenP (by with_reducible assumption) (by with_reducible assumption) (by decide) | exact tnA (by with_reducible assumption) (by decide) | omega
    case c2 => first | with_reducible assumption | exact leN (by with_reducible assumption) (by decide) | exact lenA (by with_reducible assumption) (by with_reducible assumption) (by decide) | exact lenP (by with_reducible assumption) (by with_reducible assumption) (by decide) | exact tnA (by with_reducible assumption) (by decide) | omega
    case c3 => first | with_reducible assumption | exact leN (by with_reducible assumption) (by decide) | exact lenA (by with_reducible assumption) (by with_reducible assumption) (by decide) | exact lenP (by with_reducible assumption) (by with_reducible assumption) (by decide) | exact tnA (by with_reducible assumption) (by decide) | omega
    case c4 => first | with_reducible assumption | exact leN (by with_reducible assumption) (by decide) | exact lenA (by with_reducible assumption) (by with_reducible assumption) (by decide) | exact lenP (by with_reducible assumption) (by with_reducible assumption) (by decide) | exact tnA (by with_reducible assumption) (by decide) | omega
    case hn => first | with_reducible assumption | exact leN (by with_reducible assumption) (by decide) | exact lenA (by with_reducible assumption) (by with_reducible assumption) (by decide) | exact lenP (by with_reducible assumption) (by with_reducible assumption) (by decide) | exact tnA (by with_reducible assumption) (by decide) | omega
    case hE => passes_own
  · unfold Stop
    intro at' t σ oed es evs m₁ h tk z0 z1 Kr zC tB tC eC Lf hxs hsz F' N'
    (try dsimp only)
    change wpAny _ _ _ _ _ _
    refine' tail_walk ?B ?X ?T ?d1 ?d2 ?d3 ?d4 ?hI ?l0 ?l1 ?l2 ?l3 ?l4 ?l5 ?l6 ?l7 ?l8 ?l9 ?n1 ?n2 ?n3 ?n4 ?n5 ?n6 ?sE ?hss ?hhs ?c1 ?c2 ?c3 ?c4 ?hn ?hE at' t σ oed es evs m₁ h tk z0 z1 Kr zC tB tC eC Lf hxs hsz F' N' ?_
    case B => with_reducible assumption
    case X => with_reducible assumption
    case T => with_reducible assumption
    case d1 => with_reducible assumption
    case d2 => with_reducible assumption
    case d3 => with_reducible assumption
    case d4 => with_reducible assumption
    case hI => with_reducible assumption
    case l0 => first | with_reducible assumption | kpa_ne | (refine' Nat.lt_trans ?_ (by with_reducible assumption); kpa_ne) | exact lt1 | exact lt2 | exact lt3 | exact lt4 | exact up1 (by with_reducible assumption) | exact up2 (by with_reducible assumption) | exact up3 (by with_reducible assumption) | exact up4 (by with_reducible assumption) | exact Nat.lt_trans (up1 (by with_reducible assumption)) (by kpa_ne) | omega
    case l1 => first | with_reducible assumption | kpa_ne | (refine' Nat.lt_trans ?_ (by with_reducible assumption); kpa_ne) | exact lt1 | exact lt2 | exact lt3 | exact lt4 | exact up1 (by with_reducible assumption) | exact up2 (by with_reducible assumption) | exact up3 (by with_reducible assumption) | exact up4 (by with_reducible assumption) | exact Nat.lt_trans (up1 (by with_reducible assumption)) (by kpa_ne) | omega
    case l2 => first | with_reducible assumption | kpa_ne | (refine' Nat.lt_trans ?_ (by with_reducible assumption); kpa_ne) | exact lt1 | exact lt2 | exact lt3 | exact lt4 | exact up1 (by with_reducible assumption) | exact up2 (by with_reducible assumption) | exact up3 (by with_reducible assumption) | exact up4 (by with_reducible assumption) | exact Nat.lt_trans (up1 (by with_reducible assumption)) (by kpa_ne) | omega
    case l3 => first | with_reducible assumption | kpa_ne | (refine' Nat.lt_trans ?_ (by with_reducible assumption); kpa_ne) | exact lt1 | exact lt2 | exact lt3 | exact lt4 | exact up1 (by with_reducible assumption) | exact up2 (by with_reducible assumption) | exact up3 (by with_reducible assumption) | exact up4 (by with_reducible assumption) | exact Nat.lt_trans (up1 (by with_reducible assumption)) (by kpa_ne) | omega
    case l4 => first | with_reducible assumption | kpa_ne | (refine' Nat.lt_trans ?_ (by with_reducible assumption); kpa_ne) | exact lt1 | exact lt2 | exact lt3 | exact lt4 | exact up1 (by with_reducible assumption) | exact up2 (by with_reducible assumption) | exact up3 (by with_reducible assumption) | exact up4 (by with_reducible assumption) | exact Nat.lt_trans (up1 (by with_reducible assumption)) (by kpa_ne) | omega
    case l5 => first | with_reducible assumption | kpa_ne | (refine' Nat.lt_trans ?_ (by with_reducible assumption); kpa_ne) | exact lt1 | exact lt2 | exact lt3 | exact lt4 | exact up1 (by with_reducible assumption) | exact up2 (by with_reducible assumption) | exact up3 (by with_reducible assumption) | exact up4 (by with_reducible assumption) | exact Nat.lt_trans (up1 (by with_reducible assumption)) (by kpa_ne) | omega
    case l6 => first | with_reducible assumption | kpa_ne | (refine' Nat.lt_trans ?_ (by with_reducible assumption); kpa_ne) | exact lt1 | exact lt2 | exact lt3 | exact lt4 | exact up1 (by with_reducible assumption) | exact up2 (by with_reducible assumption) | exact up3 (by with_reducible assumption) | exact up4 (by with_reducible assumption) | exact Nat.lt_trans (up1 (by with_reducible assumption)) (by kpa_ne) | omega
    case l7 => first | with_reducible assumption | kpa_ne | (refine' Nat.lt_trans ?_ (by with_reducible assumption); kpa_ne) | exact lt1 | exact lt2 | exact lt3 | exact lt4 | exact up1 (by with_reducible assumption) | exact up2 (by with_reducible assumption) | exact up3 (by with_reducible assumption) | exact up4 (by with_reducible assumption) | exact Nat.lt_trans (up1 (by with_reducible assumption)) (by kpa_ne) | omega
    case l8 => first | with_reducible assumption | kpa_ne | (refine' Nat.lt_trans ?_ (by with_reducible assumption); kpa_ne) | exact lt1 | exact lt2 | exact lt3 | exact lt4 | exact up1 (by with_reducible assumption) | exact up2 (by with_reducible assumption) | exact up3 (by with_reducible assumption) | exact up4 (by with_reducible assumption) | exact Nat.lt_trans (up1 (by with_reducible assumption)) (by kpa_ne) | omega
    case l9 => first | with_reducible assumption | kpa_ne | (refine' Nat.lt_trans ?_ (by with_reducible assumption); kpa_ne) | exact lt1 | exact lt2 | exact lt3 | exact lt4 | exact up1 (by with_reducible assumption) | exact up2 (by with_reducible assumption) | exact up3 (by with_reducible assumption) | exact up4 (by with_reducible assumption) | exact Nat.lt_trans (up1 (by with_reducible assumption)) (by kpa_ne) | omega
    case n1 => (show @Ne Nat _ _; k_ne)
    case n2 => (show @Ne Nat _ _; k_ne)
    case n3 => (show @Ne Nat _ _; k_ne)
    case n4 => (show @Ne Nat _ _; k_ne)
    case n5 => (show @Ne Nat _ _; k_ne)
    case n6 => (show @Ne Nat _ _; k_ne)
    case sE => with_reducible assumption
    case hss => with_reducible assumption
    case hhs => with_reducible assumption
    case c1 => first | with_reducible assumption | exact leN (by with_reducible assumption) (by decide) | exact lenA (by with_reducible assumption) (by with_reducible assumption) (by decide) | exact lenP (by with_reducible assumption) (by with_reducible assumption) (by decide) | exact tnA (by with_reducible assumption) (by decide) | omega
    case c2 => first | with_reducible assumption | exact leN (by with_reducible assumption) (by decide) | exact lenA (by with_reducible assumption) (by with_reducible assumption) (by decide) | exact lenP (by with_reducible assumption) (by with_reducible assumption) (by decide) | exact tnA (by with_reducible assumption) (by decide) | omega
    case c3 => first | with_reducible assumption | exact leN (by with_reducible assumption) (by decide) | exact lenA (by with_reducible assumption) (by with_reducible assumption) (by decide) | exact lenP (by with_reducible assumption) (by with_reducible assumption) (by decide) | exact tnA (by with_reducible assumption) (by decide) | omega
    case c4 => first | with_reducible assumption | exact leN (by with_reducible assumption) (by decide) | exact lenA (by with_reducible assumption) (by with_reducible assumption) (by decide) | exact lenP (by with_reducible assumption) (by with_reducible assumption) (by decide) | exact tnA (by with_reducible assumption) (by decide) | omega
    case hn => first | with_reducible assumption | exact leN (by with_reducible assumption) (by decide) | exact lenA (by with_reducible assumption) (by with_reducible assumption) (by decide) | exact lenP (by with_reducible assumption) (by with_reducible assumption) (by decide) | exact tnA (by with_reducible assumption) (by decide) | omega
    case hE => passes_own
    clear F' N'
    intro h' k' m' news' F' N' hm'
    repeat' (first
      | (k_unfold; (try dsimp only))
      | (k_end; wrow_close)
      | with_reducible ((with_reducible show wpAny _ _ (exec (Stmt.Assign _ (Expr.ListComp _ _ _ _) _) _) _ _ _); ( (fail_if_success (rename MOk _ _ _ => z)); (rename News _ _ _ _ => N0); (rename Fr _ _ _ _ => F0); k_dflt (refine' law_mid F0 N0 rfl ?hz_e2 ?hz_e3 ?hz_e4 ?hz_hoc ?hz_hvs ?hz_lo ?hz_hd ?hz_hof ?hz_s1 ?hz_s2 ?hz_n1 ?hz_n2 ?_); (case hz_e2 => with_reducible assumption); (case hz_e3 => with_reducible assumption); (case hz_e4 => with_reducible assumption); (case hz_hoc => with_reducible assumption); (case hz_hvs => with_reducible assumption); (case hz_lo => with_reducible assumption); (case hz_hd => with_reducible assumption); (case hz_hof => k_dflt (exact rfl)); (case hz_s1 => first | with_reducible assumption | decide | exact geI (by with_reducible assumption) (by decide) | exact leI (by with_reducible assumption) (by decide) | exact ltLe (by with_reducible assumption) (by decide) | exact dropI (by with_reducible assumption) (by decide) | exact upI (by with_reducible assumption) (by decide) | exact pgeI (by with_reducible assumption) (by decide) | exact pleI (by with_reducible assumption) (by decide) | exact pge2I (by with_reducible assumption) (by decide) | exact self2I (by decide) | exact self1I (by decide) | exact self0I (by decide) | exact addgeI (by with_reducible assumption) (by decide) | exact addltI (by with_reducible assumption) (by decide) | exact addleI (by with_reducible assumption) (by decide) | exact ge2I (by with_reducible assumption) (by with_reducible assumption) (by decide) | exact ge2pI (by with_reducible assumption) (by with_reducible assumption) (by decide) | exact bdA (by with_reducible assumption) (by decide) | exact bdB (by with_reducible assumption) (by with_reducible assumption) (by decide) | exact bdC (by with_reducible assumption) (by with_reducible assumption) (by decide) | exact bdD (by with_reducible assumption) (by with_reducible assumption) (by with_reducible assumption) (by decide) (by decide) | exact bdE (by with_reducible assumption) (by with_reducible assumption) (by with_reducible assumption) (by with_reducible assumption) (by decide) (by decide) | exact bdF (by with_reducible assumption) (by with_reducible assumption) (by with_reducible assumption) (by with_reducible assumption) (by decide) (by decide) | exact natPos (by with_reducible assumption) | exact natLe (by with_reducible assumption) (by decide) | exact hbI (by with_reducible assumption) (by with_reducible assumption) (by with_reducible assumption) (by decide) | omega); (case hz_s2 => first | with_reducible assumption | decide | exact geI (by with_reducible assumption) (by decide) | exact leI (by with_reducible assumption) (by decide) | exact ltLe (by with_reducible assumption) (by decide) | exact dropI (by with_reducible assumption) (by decide) | exact upI (by with_reducible assumption) (by decide) | exact pgeI (by with_reducible assumption) (by decide) | exact pleI (by with_reducible assumption) (by decide) | exact pge2I (by with_reducible assumption) (by decide) | exact self2I (by decide) | exact self1I (by decide) | exact self0I (by decide) | exact addgeI (by with_reducible assumption) (by decide) | exact addltI (by with_reducible assumption) (by decide) | exact addleI (by with_reducible assumption) (by decide) | exact ge2I (by with_reducible assumption) (by with_reducible assumption) (by decide) | exact ge2pI (by with_reducible assumption) (by with_reducible assumption) (by decide) | exact bdA (by with_reducible assumption) (by decide) | exact bdB (by with_reducible assumption) (by with_reducible assumption) (by decide) | exact bdC (by with_reducible assumption) (by with_reducible assumption) (by decide) | exact bdD (by with_reducible assumption) (by with_reducible assumption) (by with_reducible assumption) (by decide) (by decide) | exact bdE (by with_reducible assumption) (by with_reducible assumption) (by with_reducible assumption) (by with_reducible assumption) (by decide) (by decide) | exact bdF (by with_reducible assumption) (by with_reducible assumption) (by with_reducible assumption) (by with_reducible assumption) (by decide) (by decide) | exact natPos (by with_reducible assumption) | exact natLe (by with_reducible assumption) (by decide) | exact hbI (by with_reducible assumption) (by with_reducible assumption) (by with_reducible assumption) (by decide) | omega); (case hz_n1 => (refine ⟨?_, ?_, ?_, ?_, ?_⟩ <;> k_ne)); (case hz_n2 => (refine ⟨?_, ?_, ?_, ?_, ?_, ?_⟩ <;> k_ne)); clear F0 N0; intro q' pm' ct' dc' fo' ok' m' KR' DK' F' N'; (obtain ⟨w0, w1, w2, w3, w4, w5, x0, x1, x2, x3, x4, x5, x6, x7, x8, x9⟩ := ord_of N' (by refine ⟨?_, ?_, ?_, ?_, ?_, ?_, ?_, ?_, ?_, ?_⟩ <;> first | kpa_ne | exact Nat.lt_succ_self _ | omega)); (repeat (rename _ = Data.cell (bindC _ _ _ _) => z; clear z)); (try (rename CellsAre _ _ _ => z; clear z)); (try (rename Dflts _ _ _ => z; clear z)); (try (rename Heap.CodeRec _ _ _ => z; clear z))))
      | with_reducible ((with_reducible show wpAny _ _ (pyIter (Value.ref _)) _ _ _); ( (rename IsRange _ _ _ _ _ _ _ _ => R'); (rename MOk _ _ _ => KR9); k_dflt (refine' law_for ?hz_hL ?hz_hh R' ?hz_sm ?hz_nn ?hz_n10 ?hz_F ?hz_N KR9 ?hz_DK ?hz_DE ?hz_h1 ?hz_h2 ?hz_h3 ?hz_h4 ?hz_b0 ?hz_b1 ?hz_aB ?hz_aE ?_ ?_); (case hz_hh => k_dflt (exact rfl)); (case hz_sm => exact small_one (by first | decide | exact geI (by with_reducible assumption) (by decide) | exact ltI (by with_reducible assumption) (by decide) | exact addgeI (by with_reducible assumption) (by decide) | exact addltI (by with_reducible assumption) (by decide) | omega) (by first | decide | exact geI (by with_reducible assumption) (by decide) | exact ltI (by with_reducible assumption) (by decide) | exact addgeI (by with_reducible assumption) (by decide) | exact addltI (by with_reducible assumption) (by decide) | omega) (by first | decide | exact geI (by with_reducible assumption) (by decide) | exact ltI (by with_reducible assumption) (by decide) | exact addgeI (by with_reducible assumption) (by decide) | exact addltI (by with_reducible assumption) (by decide) | omega) (by first | decide | exact geI (by with_reducible assumption) (by decide) | exact ltI (by with_reducible assumption) (by decide) | exact addgeI (by with_reducible assumption) (by decide) | exact addltI (by with_reducible assumption) (by decide) | omega)); (case hz_nn => exact rangeSize_nat _ _); (case hz_n10 => first | with_reducible assumption | exact leN (by with_reducible assumption) (by decide) | exact eqN (by with_reducible assumption) (by decide) | exact leN3 (by with_reducible assumption) (by with_reducible assumption) (by with_reducible assumption) (by decide) | exact lenA (by with_reducible assumption) (by with_reducible assumption) (by decide) | exact lenB (by with_reducible assumption) (by with_reducible assumption) (by decide) | exact sizeB (by with_reducible assumption) (by with_reducible assumption) (by with_reducible assumption) (by decide) | exact tnA (by with_reducible assumption) (by decide) | exact tnB (by with_reducible assumption) (by decide) | exact posNat (by with_reducible assumption) | exact eq0 (by with_reducible assumption) | omega); (case hz_F => k_asm); (case hz_N => k_dflt k_asm); (case hz_hL => k_dflt (exact rfl)); (case hz_DK => with_reducible assumption); (case hz_DE => exact dobj_empty (by with_reducible assumption)); (case hz_h1 => k_dflt (exact rfl)); (case hz_h2 => k_dflt (exact rfl)); (case hz_h3 => k_dflt (exact rfl)); (case hz_h4 => k_dflt (exact rfl)); (case hz_b0 => first | with_reducible assumption | decide | exact geI (by with_reducible assumption) (by decide) | exact leI (by with_reducible assumption) (by decide) | exact ltLe (by with_reducible assumption) (by decide) | exact dropI (by with_reducible assumption) (by decide) | exact upI (by with_reducible assumption) (by decide) | exact pgeI (by with_reducible assumption) (by decide) | exact pleI (by with_reducible assumption) (by decide) | exact pge2I (by with_reducible assumption) (by decide) | exact self2I (by decide) | exact self1I (by decide) | exact self0I (by decide) | exact addgeI (by with_reducible assumption) (by decide) | exact addltI (by with_reducible assumption) (by decide) | exact addleI (by with_reducible assumption) (by decide) | exact ge2I (by with_reducible assumption) (by with_reducible assumption) (by decide) | exact ge2pI (by with_reducible assumption) (by with_reducible assumption) (by decide) | exact bdA (by with_reducible assumption) (by decide) | exact bdB (by with_reducible assumption) (by with_reducible assumption) (by decide) | exact bdC (by with_reducible assumption) (by with_reducible assumption) (by decide) | exact bdD (by with_reducible assumption) (by with_reducible assumption) (by with_reducible assumption) (by decide) (by decide) | exact bdE (by with_reducible assumption) (by with_reducible assumption) (by with_reducible assumption) (by with_reducible assumption) (by decide) (by decide) | exact bdF (by with_reducible assumption) (by with_reducible assumption) (by with_reducible assumption) (by with_reducible assumption) (by decide) (by decide) | exact natPos (by with_reducible assumption) | exact natLe (by with_reducible assumption) (by decide) | exact hbI (by with_reducible assumption) (by with_reducible assumption) (by with_reducible assumption) (by decide) | omega); (case hz_b1 => first | with_reducible assumption | decide | exact geI (by with_reducible assumption) (by decide) | exact leI (by with_reducible assumption) (by decide) | exact ltLe (by with_reducible assumption) (by decide) | exact dropI (by with_reducible assumption) (by decide) | exact upI (by with_reducible assumption) (by decide) | exact pgeI (by with_reducible assumption) (by decide) | exact pleI (by with_reducible assumption) (by decide) | exact pge2I (by with_reducible assumption) (by decide) | exact self2I (by decide) | exact self1I (by decide) | exact self0I (by decide) | exact addgeI (by with_reducible assumption) (by decide) | exact addltI (by with_reducible assumption) (by decide) | exact addleI (by with_reducible assumption) (by decide) | exact ge2I (by with_reducible assumption) (by with_reducible assumption) (by decide) | exact ge2pI (by with_reducible assumption) (by with_reducible assumption) (by decide) | exact bdA (by with_reducible assumption) (by decide) | exact bdB (by with_reducible assumption) (by with_reducible assumption) (by decide) | exact bdC (by with_reducible assumption) (by with_reducible assumption) (by decide) | exact bdD (by with_reducible assumption) (by with_reducible assumption) (by with_reducible assumption) (by decide) (by decide) | exact bdE (by with_reducible assumption) (by with_reducible assumption) (by with_reducible assumption) (by with_reducible assumption) (by decide) (by decide) | exact bdF (by with_reducible assumption) (by with_reducible assumption) (by with_reducible assumption) (by with_reducible assumption) (by decide) (by decide) | exact natPos (by with_reducible assumption) | exact natLe (by with_reducible assumption) (by decide) | exact hbI (by with_reducible assumption) (by with_reducible assumption) (by with_reducible assumption) (by decide) | omega); (case hz_aB => (k_dflt (refine' Apart.mk ?hz_p1 ?hz_p2 ?hz_p3 ?hz_p4 ?hz_p5 ?hz_p6 ?hz_p7); all_goals k_ne)); (case hz_aE => (k_dflt (refine' Apart.mk ?hz_q1 ?hz_q2 ?hz_q3 ?hz_q4 ?hz_q5 ?hz_q6 ?hz_q7); all_goals k_ne)); (refine Stop.of ?_); rotate_left; (refine Stop.of ?_); rotate_right))
      | with_reducible ((with_reducible show wpAny _ _ (exec (Stmt.For _ _ _ _ _) _) _ _ _); (k_dflt (refine For_invV _ (by rfl) (by rfl) ?_)))
      | with_reducible ( (with_reducible show wpAny _ _ (call (Value.ref 144) [Value.bytes _ _, Value.bytes _ _, Value.ref _]) _ _ _); (rename LF _ _ _ _ _ _ _ _ _ _ => Lf); (rename MR.Ok _ => Kr); k_dflt (refine' dgk_rule2 (pre := [_, _, _, _, _, _, _, _]) Lf (Cx.law ?hz_B ?hz_F ?hz_X ?hz_T ?hz_K ?hz_d ?hz_u ?hz_N ?hz_S) ?hz_F2 ?hz_N2 Kr ?hz_hx ?hz_hm ?hz_hs ?hz_hp ?_); (case hz_B => k_asm); (case hz_F => k_asm); (case hz_X => k_asm); (case hz_T => k_asm); (case hz_K => first | exact rfl | assumption); (case hz_N => k_asm); (case hz_d => k_dflt (exact Nat.le_of_ble_eq_true rfl)); (case hz_u => k_dflt (exact Nat.le_of_ble_eq_true rfl)); (case hz_F2 => k_asm); (case hz_N2 => k_dflt k_asm); (case hz_S => k_dflt (exact fun q hq => List.mem_append_right [_, _, _, _, _, _, _, _] (List.mem_append_left _ hq))); (case hz_hx => first | with_reducible assumption | exact leN (by with_reducible assumption) (by decide) | exact eqN (by with_reducible assumption) (by decide) | exact leN3 (by with_reducible assumption) (by with_reducible assumption) (by with_reducible assumption) (by decide) | exact lenA (by with_reducible assumption) (by with_reducible assumption) (by decide) | exact lenB (by with_reducible assumption) (by with_reducible assumption) (by decide) | exact sizeB (by with_reducible assumption) (by with_reducible assumption) (by with_reducible assumption) (by decide) | exact tnA (by with_reducible assumption) (by decide) | exact tnB (by with_reducible assumption) (by decide) | exact posNat (by with_reducible assumption) | exact eq0 (by with_reducible assumption) | omega); (case hz_hm => first | with_reducible assumption | exact leN (by with_reducible assumption) (by decide) | exact eqN (by with_reducible assumption) (by decide) | exact leN3 (by with_reducible assumption) (by with_reducible assumption) (by with_reducible assumption) (by decide) | exact lenA (by with_reducible assumption) (by with_reducible assumption) (by decide) | exact lenB (by with_reducible assumption) (by with_reducible assumption) (by decide) | exact sizeB (by with_reducible assumption) (by with_reducible assumption) (by with_reducible assumption) (by decide) | exact tnA (by with_reducible assumption) (by decide) | exact tnB (by with_reducible assumption) (by decide) | exact posNat (by with_reducible assumption) | exact eq0 (by with_reducible assumption) | omega); (case hz_hs => with_reducible assumption); (case hz_hp => ((repeat (k_dflt (refine' pairs_cons ?_ ?_ ?_))); all_goals (first | exact pairs_nil | k_ne))); intro a0 a1' a2 a3 a4 t' h' k' sg' Ch' Mw' Ca' z5' F' N'; (have Dk' := Mw'.dict); (have Kk' := Mw'.keys); (have y0' := valOf_size Mw' (Chain.h0 Ch')); (have y1' := valOf_size Mw' (Chain.h1 Ch')); (have y4' := valOf_size Mw' (Chain.h4 Ch')); dsimp only [List.cons_append, List.nil_append, MR.own] at N'; (try k_sweep); (try (refine keepP ?_)); (try dsimp only); (try k_fold))
      | with_reducible ( (with_reducible show wpAny _ _ (subscriptTail _ _ (Value.ref _) (Value.int 4 _)) _ _ _); (rename CallsAre _ _ _ _ => Ca); (rename Chain _ _ _ _ _ _ _ _ => Ch); k_dflt (refine' item_ask ?hz_N ?hz_M Ca Ch ?hz_ht ?hz_z ?_ ?hz_a ?hz_b; (case hz_a => with_unfolding_all rfl); (case hz_b => intro _; with_unfolding_all rfl); (case hz_N => k_asm); (case hz_M => k_mem); (case hz_z => with_reducible assumption); (case hz_ht => (intro q hq; repeat (first | exact hq | exact List.mem_append_left _ hq | exact List.mem_append_right _ hq | refine List.mem_cons_of_mem _ ?_)))); intro D' k' ad' v' hk' hp'; (try dsimp only))
      | with_reducible ( (with_reducible show wpAny _ _ (subscriptTail _ _ (Value.ref _) (Value.int 0 _)) _ _ _); k_dflt (refine' item_again ?hz_N ?hz_M ?hz_hx ?hz_h0 ?hz_h1 ?_ ?hz_a ?hz_b; (case hz_a => with_unfolding_all rfl); (case hz_b => intro _; with_unfolding_all rfl); (case hz_N => k_asm); (case hz_M => k_mem); (case hz_hx => with_reducible assumption); (case hz_h0 => decide); (case hz_h1 => decide)); (try dsimp only))
      | with_reducible ( (with_reducible show wpAny _ _ (subscriptTail _ _ (Value.ref _) (Value.int 0 _)) _ _ _); k_dflt (refine' item_first ?hz_N ?hz_M ?hz_G ?hz_h1 ?_ ?hz_a ?hz_b; (case hz_a => with_unfolding_all rfl); (case hz_b => intro _; with_unfolding_all rfl); (case hz_N => k_asm); (case hz_M => k_mem); (case hz_G => with_reducible assumption); (case hz_h1 => first | with_reducible assumption | decide | exact geI (by with_reducible assumption) (by decide) | exact leI (by with_reducible assumption) (by decide) | exact ltLe (by with_reducible assumption) (by decide) | exact dropI (by with_reducible assumption) (by decide) | exact upI (by with_reducible assumption) (by decide) | exact pgeI (by with_reducible assumption) (by decide) | exact pleI (by with_reducible assumption) (by decide) | exact pge2I (by with_reducible assumption) (by decide) | exact self2I (by decide) | exact self1I (by decide) | exact self0I (by decide) | exact addgeI (by with_reducible assumption) (by decide) | exact addltI (by with_reducible assumption) (by decide) | exact addleI (by with_reducible assumption) (by decide) | exact ge2I (by with_reducible assumption) (by with_reducible assumption) (by decide) | exact ge2pI (by with_reducible assumption) (by with_reducible assumption) (by decide) | exact bdA (by with_reducible assumption) (by decide) | exact bdB (by with_reducible assumption) (by with_reducible assumption) (by decide) | exact bdC (by with_reducible assumption) (by with_reducible assumption) (by decide) | exact bdD (by with_reducible assumption) (by with_reducible assumption) (by with_reducible assumption) (by decide) (by decide) | exact bdE (by with_reducible assumption) (by with_reducible assumption) (by with_reducible assumption) (by with_reducible assumption) (by decide) (by decide) | exact bdF (by with_reducible assumption) (by with_reducible assumption) (by with_reducible assumption) (by with_reducible assumption) (by decide) (by decide) | exact natPos (by with_reducible assumption) | exact natLe (by with_reducible assumption) (by decide) | exact hbI (by with_reducible assumption) (by with_reducible assumption) (by with_reducible assumption) (by decide) | omega)); intro b' _ hb' hx'; (try dsimp only))
      | with_reducible ( (with_reducible show wpAny _ _ (call (Value.type _) [Value.ref _]) _ _ _); k_dflt (refine' bytesOf ?hz_F ?hz_N ?hz_M ?hz_G ?hz_z ?hz_hh ?_; (case hz_F => k_asm); (case hz_N => k_asm); (case hz_M => k_mem); (case hz_G => with_reducible assumption); (case hz_z => first | with_reducible assumption | exact leN (by with_reducible assumption) (by decide) | exact eqN (by with_reducible assumption) (by decide) | exact leN3 (by with_reducible assumption) (by with_reducible assumption) (by with_reducible assumption) (by decide) | exact lenA (by with_reducible assumption) (by with_reducible assumption) (by decide) | exact lenB (by with_reducible assumption) (by with_reducible assumption) (by decide) | exact sizeB (by with_reducible assumption) (by with_reducible assumption) (by with_reducible assumption) (by decide) | exact tnA (by with_reducible assumption) (by decide) | exact tnB (by with_reducible assumption) (by decide) | exact posNat (by with_reducible assumption) | exact eq0 (by with_reducible assumption) | omega); (case hz_hh => rfl)); intro h' b' _ _ F' N' hb'; (try k_sweep); (try dsimp only))
      | with_reducible ((with_reducible show IsByte _); (exact ⟨_, _, rfl, by assumption, by assumption⟩))
      | ((with_reducible show IsByte _); (exact ⟨_, _, rfl, by assumption, by assumption⟩))
      | with_reducible ((with_reducible show LCg.CompSrc _ _ _ _ _ _ _ _ _ _ _ _ _ _); ( (rename LF _ _ _ _ _ _ _ _ _ _ => Lf); k_dflt (refine LCg.CompSrc.range (by rfl) (by k_asm) (by k_asm) (by with_reducible assumption) (small_one (by first | decide | exact geI (by with_reducible assumption) (by decide) | exact ltI (by with_reducible assumption) (by decide) | exact addgeI (by with_reducible assumption) (by decide) | exact addltI (by with_reducible assumption) (by decide) | omega) (by first | decide | exact geI (by with_reducible assumption) (by decide) | exact ltI (by with_reducible assumption) (by decide) | exact addgeI (by with_reducible assumption) (by decide) | exact addltI (by with_reducible assumption) (by decide) | omega) (by first | decide | exact geI (by with_reducible assumption) (by decide) | exact ltI (by with_reducible assumption) (by decide) | exact addgeI (by with_reducible assumption) (by decide) | exact addltI (by with_reducible assumption) (by decide) | omega) (by first | decide | exact geI (by with_reducible assumption) (by decide) | exact ltI (by with_reducible assumption) (by decide) | exact addgeI (by with_reducible assumption) (by decide) | exact addltI (by with_reducible assumption) (by decide) | omega)) (rangeSize_nat _ _) (by rw [PySem.sizeLine_eq]; (first | with_reducible assumption | exact leN (by with_reducible assumption) (by decide) | exact eqN (by with_reducible assumption) (by decide) | exact leN3 (by with_reducible assumption) (by with_reducible assumption) (by with_reducible assumption) (by decide) | exact lenA (by with_reducible assumption) (by with_reducible assumption) (by decide) | exact lenB (by with_reducible assumption) (by with_reducible assumption) (by decide) | exact sizeB (by with_reducible assumption) (by with_reducible assumption) (by with_reducible assumption) (by decide) | exact tnA (by with_reducible assumption) (by decide) | exact tnB (by with_reducible assumption) (by decide) | exact posNat (by with_reducible assumption) | exact eq0 (by with_reducible assumption) | omega)) ?_); intro g'; k_dflt (refine' boxCompB ?hz_M ?hz_U IsByte _ 1 (by decide) ?hz_L0 ?hz_B0 ?_ ?_); (case hz_M => k_dflt k_mem); (case hz_U => k_updF); (case hz_L0 => first | with_reducible assumption | decide | exact geI (by with_reducible assumption) (by decide) | exact leI (by with_reducible assumption) (by decide) | exact ltLe (by with_reducible assumption) (by decide) | exact dropI (by with_reducible assumption) (by decide) | exact upI (by with_reducible assumption) (by decide) | exact pgeI (by with_reducible assumption) (by decide) | exact pleI (by with_reducible assumption) (by decide) | exact pge2I (by with_reducible assumption) (by decide) | exact self2I (by decide) | exact self1I (by decide) | exact self0I (by decide) | exact addgeI (by with_reducible assumption) (by decide) | exact addltI (by with_reducible assumption) (by decide) | exact addleI (by with_reducible assumption) (by decide) | exact ge2I (by with_reducible assumption) (by with_reducible assumption) (by decide) | exact ge2pI (by with_reducible assumption) (by with_reducible assumption) (by decide) | exact bdA (by with_reducible assumption) (by decide) | exact bdB (by with_reducible assumption) (by with_reducible assumption) (by decide) | exact bdC (by with_reducible assumption) (by with_reducible assumption) (by decide) | exact bdD (by with_reducible assumption) (by with_reducible assumption) (by with_reducible assumption) (by decide) (by decide) | exact bdE (by with_reducible assumption) (by with_reducible assumption) (by with_reducible assumption) (by with_reducible assumption) (by decide) (by decide) | exact bdF (by with_reducible assumption) (by with_reducible assumption) (by with_reducible assumption) (by with_reducible assumption) (by decide) (by decide) | exact natPos (by with_reducible assumption) | exact natLe (by with_reducible assumption) (by decide) | exact hbI (by with_reducible assumption) (by with_reducible assumption) (by with_reducible assumption) (by decide) | omega); (case hz_B0 => first | with_reducible assumption | decide | exact geI (by with_reducible assumption) (by decide) | exact leI (by with_reducible assumption) (by decide) | exact ltLe (by with_reducible assumption) (by decide) | exact dropI (by with_reducible assumption) (by decide) | exact upI (by with_reducible assumption) (by decide) | exact pgeI (by with_reducible assumption) (by decide) | exact pleI (by with_reducible assumption) (by decide) | exact pge2I (by with_reducible assumption) (by decide) | exact self2I (by decide) | exact self1I (by decide) | exact self0I (by decide) | exact addgeI (by with_reducible assumption) (by decide) | exact addltI (by with_reducible assumption) (by decide) | exact addleI (by with_reducible assumption) (by decide) | exact ge2I (by with_reducible assumption) (by with_reducible assumption) (by decide) | exact ge2pI (by with_reducible assumption) (by with_reducible assumption) (by decide) | exact bdA (by with_reducible assumption) (by decide) | exact bdB (by with_reducible assumption) (by with_reducible assumption) (by decide) | exact bdC (by with_reducible assumption) (by with_reducible assumption) (by decide) | exact bdD (by with_reducible assumption) (by with_reducible assumption) (by with_reducible assumption) (by decide) (by decide) | exact bdE (by with_reducible assumption) (by with_reducible assumption) (by with_reducible assumption) (by with_reducible assumption) (by decide) (by decide) | exact bdF (by with_reducible assumption) (by with_reducible assumption) (by with_reducible assumption) (by with_reducible assumption) (by decide) (by decide) | exact natPos (by with_reducible assumption) | exact natLe (by with_reducible assumption) (by decide) | exact hbI (by with_reducible assumption) (by with_reducible assumption) (by with_reducible assumption) (by decide) | omega); (try (intro i v I oI C oC D m₂ h tk E' ys at' t hP h0 h1 hC hx F' N' b1 b2 b3; (have hP' := hP); obtain ⟨tv, hv⟩ := hP'; subst hv; clear hP; (try dsimp only at N'); (try dsimp only); (try k_sweep)))))
      | with_reducible ((with_reducible show ForEnd _ _ _ _ _ _ _ _ _); ( (rename LF _ _ _ _ _ _ _ _ _ _ => Lf); (rename TurnI _ _ _ _ _ _ _ _ _ _ _ => Ti); (rename Chain _ _ _ _ _ _ _ _ => Ch); (rename CallsAre _ _ _ _ => Ca); (rename DObj _ (storedH _ _ _ _) _ => Dn); k_dflt (refine' turn_close Lf Ti ?hz_Gr ?hz_mo ?hz_Mw ?hz_cs5 Ch Ca Dn ?hz_tB ?hz_tE ?hz_F ?hz_N ?hz_h1 ?hz_h2 ?hz_h3 ?hz_h4 ?hz_mK ?hz_mT ?hz_mD ?hz_mA ?hz_fK ?hz_fT ?hz_fD ?hz_fA ?hz_z0 ?hz_z1 ?hz_s1 ?hz_s2 ?hz_s3 ?hz_s4 ?hz_s5 ?hz_s6 ?hz_s7 ?hz_s8 ?hz_s9 ?hz_s10); (case hz_Gr => with_reducible assumption); (case hz_mo => with_reducible assumption); (case hz_Mw => with_reducible assumption); (case hz_cs5 => with_reducible assumption); (case hz_tB => with_reducible assumption); (case hz_tE => with_reducible assumption); (case hz_F => k_asm); (case hz_N => k_asm); (case hz_h1 => k_dflt (exact rfl)); (case hz_h2 => k_dflt (exact rfl)); (case hz_h3 => k_dflt (exact rfl)); (case hz_h4 => k_dflt (exact rfl)); (case hz_mK => k_dflt k_mem); (case hz_mT => k_dflt k_mem); (case hz_mD => k_dflt k_mem); (case hz_mA => k_dflt k_mem); (case hz_fK => (k_dflt (refine' Free5.mk ?_ ?_ ?_ ?_ ?_); all_goals k_ne)); (case hz_fT => (k_dflt (refine' Free5.mk ?_ ?_ ?_ ?_ ?_); all_goals k_ne)); (case hz_fD => (k_dflt (refine' Free5.mk ?_ ?_ ?_ ?_ ?_); all_goals k_ne)); (case hz_fA => (k_dflt (refine' Free5.mk ?_ ?_ ?_ ?_ ?_); all_goals k_ne)); (case hz_s1 => k_dflt k_mem); (case hz_s2 => k_dflt k_mem); (case hz_z0 => first | with_reducible assumption | exact leN (by with_reducible assumption) (by decide) | exact eqN (by with_reducible assumption) (by decide) | decide | exact geI (by with_reducible assumption) (by decide) | exact leI (by with_reducible assumption) (by decide) | exact ltLe (by with_reducible assumption) (by decide) | exact dropI (by with_reducible assumption) (by decide) | exact upI (by with_reducible assumption) (by decide) | exact pgeI (by with_reducible assumption) (by decide) | exact pleI (by with_reducible assumption) (by decide) | exact pge2I (by with_reducible assumption) (by decide) | exact self2I (by decide) | exact self1I (by decide) | exact self0I (by decide) | exact addgeI (by with_reducible assumption) (by decide) | exact addltI (by with_reducible assumption) (by decide) | exact addleI (by with_reducible assumption) (by decide) | exact ge2I (by with_reducible assumption) (by with_reducible assumption) (by decide) | exact ge2pI (by with_reducible assumption) (by with_reducible assumption) (by decide) | exact bdA (by with_reducible assumption) (by decide) | exact bdB (by with_reducible assumption) (by with_reducible assumption) (by decide) | exact bdC (by with_reducible assumption) (by with_reducible assumption) (by decide) | exact bdD (by with_reducible assumption) (by with_reducible assumption) (by with_reducible assumption) (by decide) (by decide) | exact bdE (by with_reducible assumption) (by with_reducible assumption) (by with_reducible assumption) (by with_reducible assumption) (by decide) (by decide) | exact bdF (by with_reducible assumption) (by with_reducible assumption) (by with_reducible assumption) (by with_reducible assumption) (by decide) (by decide) | exact natPos (by with_reducible assumption) | exact natLe (by with_reducible assumption) (by decide) | exact hbI (by with_reducible assumption) (by with_reducible assumption) (by with_reducible assumption) (by decide) | omega); (case hz_z1 => first | with_reducible assumption | exact leN (by with_reducible assumption) (by decide) | exact eqN (by with_reducible assumption) (by decide) | decide | exact geI (by with_reducible assumption) (by decide) | exact leI (by with_reducible assumption) (by decide) | exact ltLe (by with_reducible assumption) (by decide) | exact dropI (by with_reducible assumption) (by decide) | exact upI (by with_reducible assumption) (by decide) | exact pgeI (by with_reducible assumption) (by decide) | exact pleI (by with_reducible assumption) (by decide) | exact pge2I (by with_reducible assumption) (by decide) | exact self2I (by decide) | exact self1I (by decide) | exact self0I (by decide) | exact addgeI (by with_reducible assumption) (by decide) | exact addltI (by with_reducible assumption) (by decide) | exact addleI (by with_reducible assumption) (by decide) | exact ge2I (by with_reducible assumption) (by with_reducible assumption) (by decide) | exact ge2pI (by with_reducible assumption) (by with_reducible assumption) (by decide) | exact bdA (by with_reducible assumption) (by decide) | exact bdB (by with_reducible assumption) (by with_reducible assumption) (by decide) | exact bdC (by with_reducible assumption) (by with_reducible assumption) (by decide) | exact bdD (by with_reducible assumption) (by with_reducible assumption) (by with_reducible assumption) (by decide) (by decide) | exact bdE (by with_reducible assumption) (by with_reducible assumption) (by with_reducible assumption) (by with_reducible assumption) (by decide) (by decide) | exact bdF (by with_reducible assumption) (by with_reducible assumption) (by with_reducible assumption) (by with_reducible assumption) (by decide) (by decide) | exact natPos (by with_reducible assumption) | exact natLe (by with_reducible assumption) (by decide) | exact hbI (by with_reducible assumption) (by with_reducible assumption) (by with_reducible assumption) (by decide) | omega); (case hz_s3 => k_dflt k_mem); (case hz_s4 => k_dflt k_mem); (case hz_s5 => k_dflt k_mem); (case hz_s6 => k_dflt k_mem); (case hz_s7 => k_dflt k_mem); (case hz_s8 => k_dflt k_mem); (case hz_s9 => k_dflt (refine' own_sub ?hz_o1 ?hz_o2 ?hz_o3 ?hz_o4 ?hz_o5 ?hz_o6 ?hz_o7 ?hz_o8; (case hz_o1 => k_mem); (case hz_o2 => k_mem); (case hz_o3 => k_mem); (case hz_o4 => k_mem); (case hz_o5 => k_mem); (case hz_o6 => k_mem); (case hz_o7 => k_mem); (case hz_o8 => (intro q hq; repeat (first | exact hq | exact List.mem_append_left _ hq | exact List.mem_append_right _ hq | refine List.mem_cons_of_mem _ ?_))))); (case hz_s10 => k_dflt (intro q hq; repeat (first | exact hq | exact List.mem_append_left _ hq | exact List.mem_append_right _ hq | refine List.mem_cons_of_mem _ ?_)))))
      | with_reducible ( (with_reducible show wpAny _ _ (setItem (Value.ref _) (Value.ref _) _) _ _ _); (rename LF _ _ _ _ _ _ _ _ _ _ => Lf); (have el' := Lf.el); k_dflt (refine' set_E (k := keyOf _ _) ?hz_hu ?hz_F ?hz_N ?hz_U ?hz_hk Lf.d ?hz_ks ?hz_z ?_; (case hz_F => k_asm); (case hz_N => k_asm); (case hz_U => k_updF); (case hz_hu => exact Nat.le_of_ble_eq_true rfl); (case hz_hk => exact tupB_key (News.get (by k_asm) (by k_mem))); (case hz_ks => exact keys_at Lf.ek (tups_at (by k_asm) (by (intro q hq; repeat (first | exact hq | exact List.mem_append_left _ hq | exact List.mem_append_right _ hq | refine List.mem_cons_of_mem _ ?_))))); (case hz_z => first | with_reducible assumption | exact leN (by with_reducible assumption) (by decide) | exact eqN (by with_reducible assumption) (by decide) | exact leN3 (by with_reducible assumption) (by with_reducible assumption) (by with_reducible assumption) (by decide) | exact lenA (by with_reducible assumption) (by with_reducible assumption) (by decide) | exact lenB (by with_reducible assumption) (by with_reducible assumption) (by decide) | exact sizeB (by with_reducible assumption) (by with_reducible assumption) (by with_reducible assumption) (by decide) | exact tnA (by with_reducible assumption) (by decide) | exact tnB (by with_reducible assumption) (by decide) | exact posNat (by with_reducible assumption) | exact eq0 (by with_reducible assumption) | omega)); intro h' o' k' F' N' Dn'; (try dsimp only at N'); (try k_sweep); (try dsimp only))
      | with_reducible ((with_reducible show wpAny _ _ (newTuple _) _ _ _); (k_dflt (refine' newTup ?hz_F ?hz_N ?_ ?hz_z; (case hz_F => k_asm); (case hz_N => k_asm); (case hz_z => first | k_dflt (exact szlit rfl) | size_fits)); intro D' h' F' N' s0 e0 l0 l1; clear s0 e0 l0; (try k_lt l1); (try k_sweep); (try dsimp only)))
      | with_reducible ( (with_reducible show wpAny _ _ (compareOp CmpOp.In (Value.ref _) (Value.ref _)) _ _ _); (rename LF _ _ _ _ _ _ _ _ _ _ => Lf); k_dflt (refine' in_E Lf.ev ?hz_Gr ?hz_mo ?hz_Ch ?hz_hu ?hz_hd ?hz_hk ?hz_ho Lf.d ?hz_ks ?_ ?_; (case hz_Gr => with_reducible assumption); (case hz_mo => with_reducible assumption); (case hz_hk => exact tupB_key (News.get (by k_asm) (by k_mem))); (case hz_Ch => with_reducible assumption); (case hz_hu => exact Nat.le_of_ble_eq_true rfl); (case hz_hd => with_reducible assumption); (case hz_ho => exact News.get (by k_asm) (by k_mem)); (case hz_ks => exact keys_at Lf.ek (tups_at (by k_asm) (by (intro q hq; repeat (first | exact hq | exact List.mem_append_left _ hq | exact List.mem_append_right _ hq | refine List.mem_cons_of_mem _ ?_)))))); (intro _ hp'; (try dsimp only)); rotate_left; (intro _ e' T' hp' Kp'; (try dsimp only)); rotate_right)
      | with_reducible ( (with_reducible show wpAny _ _ (compareOp CmpOp.NotEq (Value.ref _) (Value.ref _)) _ _ _); (rename KeptL _ _ _ _ _ => Kp); k_dflt (refine' ne_T Kp ?hz_N ?hz_ht ?hz_m1 ?hz_m2 ?hz_m3 ?hz_Ca ?hz_hu ?_; (case hz_N => k_asm); (case hz_m1 => k_mem); (case hz_m2 => k_mem); (case hz_m3 => k_mem); (case hz_Ca => with_reducible assumption); (case hz_ht => (intro q hq; repeat (first | exact hq | exact List.mem_append_left _ hq | exact List.mem_append_right _ hq | refine List.mem_cons_of_mem _ ?_))); (case hz_hu => exact Nat.le_of_ble_eq_true rfl)); (try dsimp only))
      | with_reducible ( (with_reducible show wpAny _ _ (compareOp CmpOp.NotEq (Value.ref _) (Value.ref _)) _ _ _); k_dflt (refine' ne_A ?hz_N ?hz_m1 ?hz_m2 ?hz_Ca ?hz_ht ?hz_k2 ?hz_hu ?_; (case hz_N => k_asm); (case hz_m1 => k_mem); (case hz_m2 => k_mem); (case hz_k2 => with_reducible assumption); (case hz_Ca => with_reducible assumption); (case hz_ht => (intro q hq; repeat (first | exact hq | exact List.mem_append_left _ hq | exact List.mem_append_right _ hq | refine List.mem_cons_of_mem _ ?_))); (case hz_hu => exact Nat.le_of_ble_eq_true rfl)); (try dsimp only))
      | with_reducible ( (with_reducible show wpAny _ _ (call (Value.ref 184) [Value.ref _, Value.bytes _ _, Value.bytes _ _]) _ _ _); k_dflt (refine' due (Cx.law ?hz_B ?hz_F ?hz_X ?hz_T ?hz_K ?hz_d ?hz_u ?hz_N ?hz_S) ?hz_hA ?hz_z0 ?hz_z1 ?hz_z2 ?hz_z3 ?_); (case hz_B => k_asm); (case hz_F => k_asm); (case hz_X => k_asm); (case hz_T => k_asm); (case hz_K => first | exact rfl | assumption); (case hz_N => k_asm); (case hz_d => k_dflt (exact Nat.le_of_ble_eq_true rfl)); (case hz_u => k_dflt (exact Nat.le_of_ble_eq_true rfl)); (case hz_S => k_dflt (exact nsub_LawX)); (case hz_hA => k_dflt (exact News.isList (by k_asm) (by k_mem))); (case hz_z0 => first | with_reducible assumption | exact leN (by with_reducible assumption) (by decide) | exact eqN (by with_reducible assumption) (by decide) | decide | exact geI (by with_reducible assumption) (by decide) | exact leI (by with_reducible assumption) (by decide) | exact ltLe (by with_reducible assumption) (by decide) | exact dropI (by with_reducible assumption) (by decide) | exact upI (by with_reducible assumption) (by decide) | exact pgeI (by with_reducible assumption) (by decide) | exact pleI (by with_reducible assumption) (by decide) | exact pge2I (by with_reducible assumption) (by decide) | exact self2I (by decide) | exact self1I (by decide) | exact self0I (by decide) | exact addgeI (by with_reducible assumption) (by decide) | exact addltI (by with_reducible assumption) (by decide) | exact addleI (by with_reducible assumption) (by decide) | exact ge2I (by with_reducible assumption) (by with_reducible assumption) (by decide) | exact ge2pI (by with_reducible assumption) (by with_reducible assumption) (by decide) | exact bdA (by with_reducible assumption) (by decide) | exact bdB (by with_reducible assumption) (by with_reducible assumption) (by decide) | exact bdC (by with_reducible assumption) (by with_reducible assumption) (by decide) | exact bdD (by with_reducible assumption) (by with_reducible assumption) (by with_reducible assumption) (by decide) (by decide) | exact bdE (by with_reducible assumption) (by with_reducible assumption) (by with_reducible assumption) (by with_reducible assumption) (by decide) (by decide) | exact bdF (by with_reducible assumption) (by with_reducible assumption) (by with_reducible assumption) (by with_reducible assumption) (by decide) (by decide) | exact natPos (by with_reducible assumption) | exact natLe (by with_reducible assumption) (by decide) | exact hbI (by with_reducible assumption) (by with_reducible assumption) (by with_reducible assumption) (by decide) | omega); (case hz_z1 => first | with_reducible assumption | exact leN (by with_reducible assumption) (by decide) | exact eqN (by with_reducible assumption) (by decide) | decide | exact geI (by with_reducible assumption) (by decide) | exact leI (by with_reducible assumption) (by decide) | exact ltLe (by with_reducible assumption) (by decide) | exact dropI (by with_reducible assumption) (by decide) | exact upI (by with_reducible assumption) (by decide) | exact pgeI (by with_reducible assumption) (by decide) | exact pleI (by with_reducible assumption) (by decide) | exact pge2I (by with_reducible assumption) (by decide) | exact self2I (by decide) | exact self1I (by decide) | exact self0I (by decide) | exact addgeI (by with_reducible assumption) (by decide) | exact addltI (by with_reducible assumption) (by decide) | exact addleI (by with_reducible assumption) (by decide) | exact ge2I (by with_reducible assumption) (by with_reducible assumption) (by decide) | exact ge2pI (by with_reducible assumption) (by with_reducible assumption) (by decide) | exact bdA (by with_reducible assumption) (by decide) | exact bdB (by with_reducible assumption) (by with_reducible assumption) (by decide) | exact bdC (by with_reducible assumption) (by with_reducible assumption) (by decide) | exact bdD (by with_reducible assumption) (by with_reducible assumption) (by with_reducible assumption) (by decide) (by decide) | exact bdE (by with_reducible assumption) (by with_reducible assumption) (by with_reducible assumption) (by with_reducible assumption) (by decide) (by decide) | exact bdF (by with_reducible assumption) (by with_reducible assumption) (by with_reducible assumption) (by with_reducible assumption) (by decide) (by decide) | exact natPos (by with_reducible assumption) | exact natLe (by with_reducible assumption) (by decide) | exact hbI (by with_reducible assumption) (by with_reducible assumption) (by with_reducible assumption) (by decide) | omega); (case hz_z2 => first | with_reducible assumption | exact leN (by with_reducible assumption) (by decide) | exact eqN (by with_reducible assumption) (by decide) | exact leN3 (by with_reducible assumption) (by with_reducible assumption) (by with_reducible assumption) (by decide) | exact lenA (by with_reducible assumption) (by with_reducible assumption) (by decide) | exact lenB (by with_reducible assumption) (by with_reducible assumption) (by decide) | exact sizeB (by with_reducible assumption) (by with_reducible assumption) (by with_reducible assumption) (by decide) | exact tnA (by with_reducible assumption) (by decide) | exact tnB (by with_reducible assumption) (by decide) | exact posNat (by with_reducible assumption) | exact eq0 (by with_reducible assumption) | omega); (case hz_z3 => first | with_reducible assumption | exact leN (by with_reducible assumption) (by decide) | exact eqN (by with_reducible assumption) (by decide) | exact leN3 (by with_reducible assumption) (by with_reducible assumption) (by with_reducible assumption) (by decide) | exact lenA (by with_reducible assumption) (by with_reducible assumption) (by decide) | exact lenB (by with_reducible assumption) (by with_reducible assumption) (by decide) | exact sizeB (by with_reducible assumption) (by with_reducible assumption) (by with_reducible assumption) (by decide) | exact tnA (by with_reducible assumption) (by decide) | exact tnB (by with_reducible assumption) (by decide) | exact posNat (by with_reducible assumption) | exact eq0 (by with_reducible assumption) | (rw [oct_size]; decide) | omega); intro D' vs' n' h' k' st' hD' Ky' fr'; (rename LF _ _ _ _ _ _ _ _ _ _ => Lf); (have nE' := fresh_ne_E Lf (by k_asm) (by k_dflt k_mem) fr'); (have F' := Fr.stay (by k_asm) st'); (have N' := News.fresh_cons (by k_asm) (by k_asm) st' hD' fr'); (try k_sweep); (try (refine keepP ?_)); (try dsimp only); (try k_fold))
      | with_reducible ( (with_reducible show wpAny _ _ (subscriptTail _ _ (Value.ref _) (Value.ref _)) _ _ _); k_dflt (refine' get_D ?hz_hu ?hz_hk ?hz_ho ?hz_D ?hz_ks ?hz_hp ?_ ?hz_a ?hz_b; (case hz_a => with_unfolding_all rfl); (case hz_b => intro _; with_unfolding_all rfl); (case hz_hp => with_reducible assumption); (case hz_hk => first | with_reducible assumption | exact tupB_key (News.get (by k_asm) (by k_mem))); (case hz_ho => exact News.get (by k_asm) (by k_mem)); (case hz_D => with_reducible assumption); (case hz_hu => exact Nat.le_of_ble_eq_true rfl); (case hz_ks => exact keys_at (by with_reducible assumption) (tups_at (by k_asm) (by (intro q hq; repeat (first | exact hq | exact List.mem_append_left _ hq | exact List.mem_append_right _ hq | refine List.mem_cons_of_mem _ ?_)))))); intro _; (try dsimp only))
      | with_reducible ((with_reducible show MapPost _ _ _ _ _ _ _ _); (k_dflt (refine' MapPost.intro ?hz_F ?hz_N); (case hz_F => k_asm); (case hz_N => k_asm)))
      | with_reducible ((with_reducible show LCg.CompSrc _ _ _ _ _ _ _ _ _ _ _ _ _ _); ( (rename CallsAre _ _ _ _ => Ca); (rename Chain _ _ _ _ _ _ _ _ => Ch); k_dflt (refine' LCg.CompSrc.ledger ?hz_hh ?hz_F ?hz_N ?hz_M ?hz_z ?_; (case hz_hh => rfl); (case hz_F => k_asm); (case hz_N => k_asm); (case hz_M => k_mem); (case hz_z => (rw [PySem.sizeLine_eq]; (first | with_reducible assumption | exact leN (by with_reducible assumption) (by decide) | exact eqN (by with_reducible assumption) (by decide) | exact leN3 (by with_reducible assumption) (by with_reducible assumption) (by with_reducible assumption) (by decide) | exact lenA (by with_reducible assumption) (by with_reducible assumption) (by decide) | exact lenB (by with_reducible assumption) (by with_reducible assumption) (by decide) | exact sizeB (by with_reducible assumption) (by with_reducible assumption) (by with_reducible assumption) (by decide) | exact tnA (by with_reducible assumption) (by decide) | exact tnB (by with_reducible assumption) (by decide) | exact posNat (by with_reducible assumption) | exact eq0 (by with_reducible assumption) | omega)))); intro g'; k_dflt (refine' known_comp Ca Ch ?hz_S ?hz_t ?hz_z ?_ ?_; (case hz_S => exact SrcAt.led (by k_mem)); (case hz_t => (intro q hq; repeat (first | exact hq | exact List.mem_append_left _ hq | exact List.mem_append_right _ hq | refine List.mem_cons_of_mem _ ?_))); (case hz_z => with_reducible assumption)); (intro i D k p I oI C oC Dl m₂ h' tk' E' ys hk' hp' hC' hx' F' N'; (try dsimp only at N'); (try dsimp only); (try k_sweep))))
      | with_reducible ((with_reducible show LCg.FinE _ _ _ _ _ _ _); ((unfold LCg.FinE); intro D' h' tk' F' N' o1'; (try dsimp only at o1'); (try simp only [List.nil_append, List.cons_append] at N'); (try dsimp only)))
      | with_reducible ( (with_reducible show wpAny _ _ (call (Value.ref 165) [Value.int _ _]) _ _ _); k_dflt (refine' octets (Cx.law ?hz_B ?hz_F ?hz_X ?hz_T ?hz_K ?hz_d ?hz_u ?hz_N ?hz_S) ?hz_z ?hz_z' ?_); (case hz_B => k_asm); (case hz_F => k_asm); (case hz_X => k_asm); (case hz_T => k_asm); (case hz_K => first | exact rfl | assumption); (case hz_N => k_asm); (case hz_d => k_dflt (exact Nat.le_of_ble_eq_true rfl)); (case hz_u => k_dflt (exact Nat.le_of_ble_eq_true rfl)); (case hz_S => k_dflt (exact nsub_LawX)); (case hz_z => with_reducible assumption); (case hz_z' => with_reducible assumption); intro _ h' _ st'; (have F' := Fr.stay (by k_asm) st'); (have N' := News.stay (by k_asm) st'); (try k_sweep); (try (refine keepP ?_)); (try dsimp only); (try k_fold))
      | with_reducible ((with_reducible refine' modN ?_); intro v _ _ hv h0 h1; (have zv := szN h0 h1); subst hv; (try dsimp only))
      | with_reducible ( (with_reducible show wpAny _ _ (call (Value.ref _) [Value.bytes _ _, Value.str _ _]) _ _ _); kfb_any; k_dflt (refine' from_bytes_call ?hz_kfbN ?hz_kfbM ?hz_kfbS ?_; (case hz_kfbN => k_asm); (case hz_kfbM => k_mem); (case hz_kfbS => first | with_reducible assumption | exact leN (by with_reducible assumption) (by decide) | exact eqN (by with_reducible assumption) (by decide) | exact leN3 (by with_reducible assumption) (by with_reducible assumption) (by with_reducible assumption) (by decide) | exact lenA (by with_reducible assumption) (by with_reducible assumption) (by decide) | exact lenB (by with_reducible assumption) (by with_reducible assumption) (by decide) | exact sizeB (by with_reducible assumption) (by with_reducible assumption) (by with_reducible assumption) (by decide) | exact tnA (by with_reducible assumption) (by decide) | exact tnB (by with_reducible assumption) (by decide) | exact posNat (by with_reducible assumption) | exact eq0 (by with_reducible assumption) | omega)); intro _ _; (try dsimp only))
      | with_reducible ( (with_reducible show wpAny _ _ (call (Value.builtin _) [Value.ref _]) _ _ _); k_dflt (refine' len5 ?hz_N ?hz_M ?hz_z ?_; (case hz_N => k_asm); (case hz_M => k_mem); (case hz_z => with_reducible assumption)); intro _ _; (try dsimp only))
      | with_reducible ( (with_reducible show wpAny _ _ (call (Value.ref 151) [Value.bytes _ _, Value.bytes _ _, Value.ref _]) _ _ _); (rename LF _ _ _ _ _ _ _ _ _ _ => Lf); (rename TurnI _ _ _ _ _ _ _ _ _ _ _ => Ti); (rename MR.Ok _ => Kr); k_dflt (refine' sign_rule2 (pre := [_, _, _, _, _, _, _, _]) Lf Ti (Cx.law ?hz_B ?hz_F ?hz_X ?hz_T ?hz_K ?hz_d ?hz_u ?hz_N ?hz_S) ?hz_F2 ?hz_N2 Kr ?hz_hx ?hz_hm ?hz_hs ?hz_hp ?hz_pB ?hz_pE ?hz_pI ?_); (case hz_B => k_asm); (case hz_F => k_asm); (case hz_X => k_asm); (case hz_T => k_asm); (case hz_K => first | exact rfl | assumption); (case hz_N => k_asm); (case hz_d => k_dflt (exact Nat.le_of_ble_eq_true rfl)); (case hz_u => k_dflt (exact Nat.le_of_ble_eq_true rfl)); (case hz_F2 => k_asm); (case hz_N2 => k_dflt k_asm); (case hz_S => k_dflt (exact fun q hq => List.mem_append_right [_, _, _, _, _, _, _, _] (List.mem_append_left _ hq))); (case hz_hx => first | with_reducible assumption | exact leN (by with_reducible assumption) (by decide) | exact eqN (by with_reducible assumption) (by decide) | exact leN3 (by with_reducible assumption) (by with_reducible assumption) (by with_reducible assumption) (by decide) | exact lenA (by with_reducible assumption) (by with_reducible assumption) (by decide) | exact lenB (by with_reducible assumption) (by with_reducible assumption) (by decide) | exact sizeB (by with_reducible assumption) (by with_reducible assumption) (by with_reducible assumption) (by decide) | exact tnA (by with_reducible assumption) (by decide) | exact tnB (by with_reducible assumption) (by decide) | exact posNat (by with_reducible assumption) | exact eq0 (by with_reducible assumption) | omega); (case hz_hm => with_reducible assumption); (case hz_hs => with_reducible assumption); (case hz_hp => ((repeat (k_dflt (refine' pairs_cons ?_ ?_ ?_))); all_goals (first | exact pairs_nil | k_ne))); (case hz_pB => k_dflt k_mem); (case hz_pE => k_dflt k_mem); (case hz_pI => k_dflt k_mem); intro a0 a1' a2 a3 a4 D' t1' t2' t3' cD' h' k' sg' Ch' Mw' Ca' z5' mo' Gr' cs5' Ti' F' N' tB' tE' tI' tC' nB' nE' nI' nC' nK'; (have Dk' := Mw'.dict); (have Kk' := Mw'.keys); (have De' := Lf.d); (have Ke' := Lf.ek); (have y0' := valOf_size Mw' (Chain.h0 Ch')); (have y1' := valOf_size Mw' (Chain.h1 Ch')); dsimp only [List.cons_append, List.nil_append, MR.own] at N'; (try k_sweep); (try (refine keepP ?_)); (try dsimp only); (try k_fold))
      | with_reducible ((with_reducible show PopOut _ _ _ _ _ _ _ _); (k_dflt (refine' PopOut.intro ?hz_F ?hz_N ?hz_e); (case hz_F => k_asm); (case hz_N => k_asm); (case hz_e => first | with_reducible assumption | exact leN (by with_reducible assumption) (by decide) | exact eqN (by with_reducible assumption) (by decide) | exact leN3 (by with_reducible assumption) (by with_reducible assumption) (by with_reducible assumption) (by decide) | exact lenA (by with_reducible assumption) (by with_reducible assumption) (by decide) | exact lenB (by with_reducible assumption) (by with_reducible assumption) (by decide) | exact sizeB (by with_reducible assumption) (by with_reducible assumption) (by with_reducible assumption) (by decide) | exact tnA (by with_reducible assumption) (by decide) | exact tnB (by with_reducible assumption) (by decide) | exact posNat (by with_reducible assumption) | exact eq0 (by with_reducible assumption) | omega)))
      | with_reducible ((with_reducible show PopEnd _ _ _ _ _ _ _ _ _); (k_dflt (refine' PopEnd.intro ?hz_F ?hz_N ?hz_k); (case hz_F => k_asm); (case hz_N => k_asm); (case hz_k => first | with_reducible assumption | exact leN (by with_reducible assumption) (by decide) | exact eqN (by with_reducible assumption) (by decide) | exact leN3 (by with_reducible assumption) (by with_reducible assumption) (by with_reducible assumption) (by decide) | exact lenA (by with_reducible assumption) (by with_reducible assumption) (by decide) | exact lenB (by with_reducible assumption) (by with_reducible assumption) (by decide) | exact sizeB (by with_reducible assumption) (by with_reducible assumption) (by with_reducible assumption) (by decide) | exact tnA (by with_reducible assumption) (by decide) | exact tnB (by with_reducible assumption) (by decide) | exact posNat (by with_reducible assumption) | exact eq0 (by with_reducible assumption) | omega)))
      | with_reducible ( (with_reducible show wpAny _ _ (call (Value.builtin _) [Value.ref _]) _ _ _); (rename CallsAt _ => zC); k_dflt (refine' popN ?hz_F ?hz_N ?hz_U ?hz_p ?hz_z ?_; (case hz_F => k_asm); (case hz_N => k_asm); (case hz_U => k_updF); (case hz_p => first | with_reducible assumption | exact leN (by with_reducible assumption) (by decide) | exact eqN (by with_reducible assumption) (by decide) | exact leN3 (by with_reducible assumption) (by with_reducible assumption) (by with_reducible assumption) (by decide) | exact lenA (by with_reducible assumption) (by with_reducible assumption) (by decide) | exact lenB (by with_reducible assumption) (by with_reducible assumption) (by decide) | exact sizeB (by with_reducible assumption) (by with_reducible assumption) (by with_reducible assumption) (by decide) | exact tnA (by with_reducible assumption) (by decide) | exact tnB (by with_reducible assumption) (by decide) | exact posNat (by with_reducible assumption) | exact eq0 (by with_reducible assumption) | omega); (case hz_z => first | with_reducible assumption | exact leN (by with_reducible assumption) (by decide) | exact eqN (by with_reducible assumption) (by decide) | exact leN3 (by with_reducible assumption) (by with_reducible assumption) (by with_reducible assumption) (by decide) | exact lenA (by with_reducible assumption) (by with_reducible assumption) (by decide) | exact lenB (by with_reducible assumption) (by with_reducible assumption) (by decide) | exact sizeB (by with_reducible assumption) (by with_reducible assumption) (by with_reducible assumption) (by decide) | exact tnA (by with_reducible assumption) (by decide) | exact tnB (by with_reducible assumption) (by decide) | exact posNat (by with_reducible assumption) | exact eq0 (by with_reducible assumption) | omega)); intro y' h' its' hp' F' N'; (try dsimp only at N'); (try k_sweep); (try dsimp only))
      | with_reducible ((with_reducible show wpAny _ _ (exec (Stmt.While _ _ _ _) _) _ _ _); ( (rename CallsAt _ => zC); k_dflt (refine' calls_loop zC ?hz_F ?hz_N ?hz_M ?hz_U ?hz_z ?_ ?_ ?hz_hE); (case hz_F => k_asm); (case hz_N => k_asm); (case hz_M => k_dflt k_mem); (case hz_U => k_updF); (case hz_z => first | with_reducible assumption | exact leN (by with_reducible assumption) (by decide) | exact eqN (by with_reducible assumption) (by decide) | exact leN3 (by with_reducible assumption) (by with_reducible assumption) (by with_reducible assumption) (by decide) | exact lenA (by with_reducible assumption) (by with_reducible assumption) (by decide) | exact lenB (by with_reducible assumption) (by with_reducible assumption) (by decide) | exact sizeB (by with_reducible assumption) (by with_reducible assumption) (by with_reducible assumption) (by decide) | exact tnA (by with_reducible assumption) (by decide) | exact tnB (by with_reducible assumption) (by decide) | exact posNat (by with_reducible assumption) | exact eq0 (by with_reducible assumption) | omega); (case hz_hE => first | assumption | k_dflt passes_own); (intro its' c' h' tk' hz' F' N'; (try dsimp only at N'); (try k_sweep)); rotate_left; (intro c' h' tk' F' N'; (try dsimp only at N'); (try k_sweep)); rotate_right))
      | with_reducible ( (with_reducible show wpAny _ _ (subscriptTail _ _ (Value.ref _) (Value.int _ _)) _ _ _); k_dflt (refine' item32 ?hz_N ?hz_M ?hz_G ?hz_h0 ?hz_h1 ?hz_z ?_ ?hz_a ?hz_b; (case hz_a => with_unfolding_all rfl); (case hz_b => intro _; with_unfolding_all rfl); (case hz_N => k_asm); (case hz_M => k_mem); (case hz_G => with_reducible assumption); (case hz_h0 => first | with_reducible assumption | decide | exact geI (by with_reducible assumption) (by decide) | exact leI (by with_reducible assumption) (by decide) | exact ltLe (by with_reducible assumption) (by decide) | exact dropI (by with_reducible assumption) (by decide) | exact upI (by with_reducible assumption) (by decide) | exact pgeI (by with_reducible assumption) (by decide) | exact pleI (by with_reducible assumption) (by decide) | exact pge2I (by with_reducible assumption) (by decide) | exact self2I (by decide) | exact self1I (by decide) | exact self0I (by decide) | exact addgeI (by with_reducible assumption) (by decide) | exact addltI (by with_reducible assumption) (by decide) | exact addleI (by with_reducible assumption) (by decide) | exact ge2I (by with_reducible assumption) (by with_reducible assumption) (by decide) | exact ge2pI (by with_reducible assumption) (by with_reducible assumption) (by decide) | exact bdA (by with_reducible assumption) (by decide) | exact bdB (by with_reducible assumption) (by with_reducible assumption) (by decide) | exact bdC (by with_reducible assumption) (by with_reducible assumption) (by decide) | exact bdD (by with_reducible assumption) (by with_reducible assumption) (by with_reducible assumption) (by decide) (by decide) | exact bdE (by with_reducible assumption) (by with_reducible assumption) (by with_reducible assumption) (by with_reducible assumption) (by decide) (by decide) | exact bdF (by with_reducible assumption) (by with_reducible assumption) (by with_reducible assumption) (by with_reducible assumption) (by decide) (by decide) | exact natPos (by with_reducible assumption) | exact natLe (by with_reducible assumption) (by decide) | exact hbI (by with_reducible assumption) (by with_reducible assumption) (by with_reducible assumption) (by decide) | omega); (case hz_h1 => first | with_reducible assumption | decide | exact geI (by with_reducible assumption) (by decide) | exact leI (by with_reducible assumption) (by decide) | exact ltLe (by with_reducible assumption) (by decide) | exact dropI (by with_reducible assumption) (by decide) | exact upI (by with_reducible assumption) (by decide) | exact pgeI (by with_reducible assumption) (by decide) | exact pleI (by with_reducible assumption) (by decide) | exact pge2I (by with_reducible assumption) (by decide) | exact self2I (by decide) | exact self1I (by decide) | exact self0I (by decide) | exact addgeI (by with_reducible assumption) (by decide) | exact addltI (by with_reducible assumption) (by decide) | exact addleI (by with_reducible assumption) (by decide) | exact ge2I (by with_reducible assumption) (by with_reducible assumption) (by decide) | exact ge2pI (by with_reducible assumption) (by with_reducible assumption) (by decide) | exact bdA (by with_reducible assumption) (by decide) | exact bdB (by with_reducible assumption) (by with_reducible assumption) (by decide) | exact bdC (by with_reducible assumption) (by with_reducible assumption) (by decide) | exact bdD (by with_reducible assumption) (by with_reducible assumption) (by with_reducible assumption) (by decide) (by decide) | exact bdE (by with_reducible assumption) (by with_reducible assumption) (by with_reducible assumption) (by with_reducible assumption) (by decide) (by decide) | exact bdF (by with_reducible assumption) (by with_reducible assumption) (by with_reducible assumption) (by with_reducible assumption) (by decide) (by decide) | exact natPos (by with_reducible assumption) | exact natLe (by with_reducible assumption) (by decide) | exact hbI (by with_reducible assumption) (by with_reducible assumption) (by with_reducible assumption) (by decide) | omega); (case hz_z => first | with_reducible assumption | exact leN (by with_reducible assumption) (by decide) | exact eqN (by with_reducible assumption) (by decide) | exact leN3 (by with_reducible assumption) (by with_reducible assumption) (by with_reducible assumption) (by decide) | exact lenA (by with_reducible assumption) (by with_reducible assumption) (by decide) | exact lenB (by with_reducible assumption) (by with_reducible assumption) (by decide) | exact sizeB (by with_reducible assumption) (by with_reducible assumption) (by with_reducible assumption) (by decide) | exact tnA (by with_reducible assumption) (by decide) | exact tnB (by with_reducible assumption) (by decide) | exact posNat (by with_reducible assumption) | exact eq0 (by with_reducible assumption) | omega)); intro b' _ hb'; (try dsimp only))
      | with_reducible ((with_reducible show wpAny _ _ (call (Value.builtin _) [Value.ref _]) _ _ _); k_dflt (refine' lenL ?hz_N ?hz_M ?hz_z ?_; (case hz_N => k_asm); (case hz_M => k_mem); (case hz_z => first | with_reducible assumption | exact leN (by with_reducible assumption) (by decide) | exact eqN (by with_reducible assumption) (by decide) | exact leN3 (by with_reducible assumption) (by with_reducible assumption) (by with_reducible assumption) (by decide) | exact lenA (by with_reducible assumption) (by with_reducible assumption) (by decide) | exact lenB (by with_reducible assumption) (by with_reducible assumption) (by decide) | exact sizeB (by with_reducible assumption) (by with_reducible assumption) (by with_reducible assumption) (by decide) | exact tnA (by with_reducible assumption) (by decide) | exact tnB (by with_reducible assumption) (by decide) | exact posNat (by with_reducible assumption) | exact eq0 (by with_reducible assumption) | omega)); intro _ _; (try dsimp only))
      | with_reducible ((with_reducible show wpAny _ _ (call (Value.builtin _) [Value.ref _]) _ _ _); k_dflt (refine' lenN ?hz_N ?hz_M ?hz_z ?_; (case hz_N => k_asm); (case hz_M => k_mem); (case hz_z => first | with_reducible assumption | exact leN (by with_reducible assumption) (by decide) | exact eqN (by with_reducible assumption) (by decide) | exact leN3 (by with_reducible assumption) (by with_reducible assumption) (by with_reducible assumption) (by decide) | exact lenA (by with_reducible assumption) (by with_reducible assumption) (by decide) | exact lenB (by with_reducible assumption) (by with_reducible assumption) (by decide) | exact sizeB (by with_reducible assumption) (by with_reducible assumption) (by with_reducible assumption) (by decide) | exact tnA (by with_reducible assumption) (by decide) | exact tnB (by with_reducible assumption) (by decide) | exact posNat (by with_reducible assumption) | exact eq0 (by with_reducible assumption) | omega)); intro _ _; (try dsimp only))
      | with_reducible ((with_reducible show IsB32 _); (exact ⟨_, _, rfl, by assumption⟩))
      | ((with_reducible show IsB32 _); (exact ⟨_, _, rfl, by assumption⟩))
      | with_reducible ((with_reducible show BoxPost _ _ _ _ _ _ _ _ _ _ _ _ _ _ _ _ _ _ _); ( k_dflt (refine' BoxPost.intro ?hz_F ?hz_N ?hz_a ?hz_b ?_); (case hz_F => k_asm); (case hz_N => k_asm); (case hz_a => first | with_reducible assumption | decide | exact geI (by with_reducible assumption) (by decide) | exact leI (by with_reducible assumption) (by decide) | exact ltLe (by with_reducible assumption) (by decide) | exact dropI (by with_reducible assumption) (by decide) | exact upI (by with_reducible assumption) (by decide) | exact pgeI (by with_reducible assumption) (by decide) | exact pleI (by with_reducible assumption) (by decide) | exact pge2I (by with_reducible assumption) (by decide) | exact self2I (by decide) | exact self1I (by decide) | exact self0I (by decide) | exact addgeI (by with_reducible assumption) (by decide) | exact addltI (by with_reducible assumption) (by decide) | exact addleI (by with_reducible assumption) (by decide) | exact ge2I (by with_reducible assumption) (by with_reducible assumption) (by decide) | exact ge2pI (by with_reducible assumption) (by with_reducible assumption) (by decide) | exact bdA (by with_reducible assumption) (by decide) | exact bdB (by with_reducible assumption) (by with_reducible assumption) (by decide) | exact bdC (by with_reducible assumption) (by with_reducible assumption) (by decide) | exact bdD (by with_reducible assumption) (by with_reducible assumption) (by with_reducible assumption) (by decide) (by decide) | exact bdE (by with_reducible assumption) (by with_reducible assumption) (by with_reducible assumption) (by with_reducible assumption) (by decide) (by decide) | exact bdF (by with_reducible assumption) (by with_reducible assumption) (by with_reducible assumption) (by with_reducible assumption) (by decide) (by decide) | exact natPos (by with_reducible assumption) | exact natLe (by with_reducible assumption) (by decide) | exact hbI (by with_reducible assumption) (by with_reducible assumption) (by with_reducible assumption) (by decide) | omega); (case hz_b => first | with_reducible assumption | decide | exact geI (by with_reducible assumption) (by decide) | exact leI (by with_reducible assumption) (by decide) | exact ltLe (by with_reducible assumption) (by decide) | exact dropI (by with_reducible assumption) (by decide) | exact upI (by with_reducible assumption) (by decide) | exact pgeI (by with_reducible assumption) (by decide) | exact pleI (by with_reducible assumption) (by decide) | exact pge2I (by with_reducible assumption) (by decide) | exact self2I (by decide) | exact self1I (by decide) | exact self0I (by decide) | exact addgeI (by with_reducible assumption) (by decide) | exact addltI (by with_reducible assumption) (by decide) | exact addleI (by with_reducible assumption) (by decide) | exact ge2I (by with_reducible assumption) (by with_reducible assumption) (by decide) | exact ge2pI (by with_reducible assumption) (by with_reducible assumption) (by decide) | exact bdA (by with_reducible assumption) (by decide) | exact bdB (by with_reducible assumption) (by with_reducible assumption) (by decide) | exact bdC (by with_reducible assumption) (by with_reducible assumption) (by decide) | exact bdD (by with_reducible assumption) (by with_reducible assumption) (by with_reducible assumption) (by decide) (by decide) | exact bdE (by with_reducible assumption) (by with_reducible assumption) (by with_reducible assumption) (by with_reducible assumption) (by decide) (by decide) | exact bdF (by with_reducible assumption) (by with_reducible assumption) (by with_reducible assumption) (by with_reducible assumption) (by decide) (by decide) | exact natPos (by with_reducible assumption) | exact natLe (by with_reducible assumption) (by decide) | exact hbI (by with_reducible assumption) (by with_reducible assumption) (by with_reducible assumption) (by decide) | omega)))
      | with_reducible ((with_reducible show LCg.CompSrc _ _ _ _ _ _ _ _ _ _ _ _ _ _); ( (fail_if_success (rename LCg.Off1 _ _ => z)); k_dflt (refine LCg.CompSrc.range (by rfl) (by k_asm) (by k_asm) (by with_reducible assumption) (small_one (by first | decide | exact geI (by with_reducible assumption) (by decide) | exact ltI (by with_reducible assumption) (by decide) | exact addgeI (by with_reducible assumption) (by decide) | exact addltI (by with_reducible assumption) (by decide) | omega) (by first | decide | exact geI (by with_reducible assumption) (by decide) | exact ltI (by with_reducible assumption) (by decide) | exact addgeI (by with_reducible assumption) (by decide) | exact addltI (by with_reducible assumption) (by decide) | omega) (by first | decide | exact geI (by with_reducible assumption) (by decide) | exact ltI (by with_reducible assumption) (by decide) | exact addgeI (by with_reducible assumption) (by decide) | exact addltI (by with_reducible assumption) (by decide) | omega) (by first | decide | exact geI (by with_reducible assumption) (by decide) | exact ltI (by with_reducible assumption) (by decide) | exact addgeI (by with_reducible assumption) (by decide) | exact addltI (by with_reducible assumption) (by decide) | omega)) (rangeSize_nat _ _) (by rw [PySem.sizeLine_eq]; (first | with_reducible assumption | exact leN (by with_reducible assumption) (by decide) | exact eqN (by with_reducible assumption) (by decide) | exact leN3 (by with_reducible assumption) (by with_reducible assumption) (by with_reducible assumption) (by decide) | exact lenA (by with_reducible assumption) (by with_reducible assumption) (by decide) | exact lenB (by with_reducible assumption) (by with_reducible assumption) (by decide) | exact sizeB (by with_reducible assumption) (by with_reducible assumption) (by with_reducible assumption) (by decide) | exact tnA (by with_reducible assumption) (by decide) | exact tnB (by with_reducible assumption) (by decide) | exact posNat (by with_reducible assumption) | exact eq0 (by with_reducible assumption) | omega)) ?_); intro g'; k_dflt (refine' boxCompB ?hz_M ?hz_U IsB32 _ 40 (by decide) ?hz_L0 ?hz_B0 ?_ ?_); (case hz_M => k_dflt k_mem); (case hz_U => k_updF); (case hz_L0 => first | with_reducible assumption | decide | exact geI (by with_reducible assumption) (by decide) | exact leI (by with_reducible assumption) (by decide) | exact ltLe (by with_reducible assumption) (by decide) | exact dropI (by with_reducible assumption) (by decide) | exact upI (by with_reducible assumption) (by decide) | exact pgeI (by with_reducible assumption) (by decide) | exact pleI (by with_reducible assumption) (by decide) | exact pge2I (by with_reducible assumption) (by decide) | exact self2I (by decide) | exact self1I (by decide) | exact self0I (by decide) | exact addgeI (by with_reducible assumption) (by decide) | exact addltI (by with_reducible assumption) (by decide) | exact addleI (by with_reducible assumption) (by decide) | exact ge2I (by with_reducible assumption) (by with_reducible assumption) (by decide) | exact ge2pI (by with_reducible assumption) (by with_reducible assumption) (by decide) | exact bdA (by with_reducible assumption) (by decide) | exact bdB (by with_reducible assumption) (by with_reducible assumption) (by decide) | exact bdC (by with_reducible assumption) (by with_reducible assumption) (by decide) | exact bdD (by with_reducible assumption) (by with_reducible assumption) (by with_reducible assumption) (by decide) (by decide) | exact bdE (by with_reducible assumption) (by with_reducible assumption) (by with_reducible assumption) (by with_reducible assumption) (by decide) (by decide) | exact bdF (by with_reducible assumption) (by with_reducible assumption) (by with_reducible assumption) (by with_reducible assumption) (by decide) (by decide) | exact natPos (by with_reducible assumption) | exact natLe (by with_reducible assumption) (by decide) | exact hbI (by with_reducible assumption) (by with_reducible assumption) (by with_reducible assumption) (by decide) | omega); (case hz_B0 => first | with_reducible assumption | decide | exact geI (by with_reducible assumption) (by decide) | exact leI (by with_reducible assumption) (by decide) | exact ltLe (by with_reducible assumption) (by decide) | exact dropI (by with_reducible assumption) (by decide) | exact upI (by with_reducible assumption) (by decide) | exact pgeI (by with_reducible assumption) (by decide) | exact pleI (by with_reducible assumption) (by decide) | exact pge2I (by with_reducible assumption) (by decide) | exact self2I (by decide) | exact self1I (by decide) | exact self0I (by decide) | exact addgeI (by with_reducible assumption) (by decide) | exact addltI (by with_reducible assumption) (by decide) | exact addleI (by with_reducible assumption) (by decide) | exact ge2I (by with_reducible assumption) (by with_reducible assumption) (by decide) | exact ge2pI (by with_reducible assumption) (by with_reducible assumption) (by decide) | exact bdA (by with_reducible assumption) (by decide) | exact bdB (by with_reducible assumption) (by with_reducible assumption) (by decide) | exact bdC (by with_reducible assumption) (by with_reducible assumption) (by decide) | exact bdD (by with_reducible assumption) (by with_reducible assumption) (by with_reducible assumption) (by decide) (by decide) | exact bdE (by with_reducible assumption) (by with_reducible assumption) (by with_reducible assumption) (by with_reducible assumption) (by decide) (by decide) | exact bdF (by with_reducible assumption) (by with_reducible assumption) (by with_reducible assumption) (by with_reducible assumption) (by decide) (by decide) | exact natPos (by with_reducible assumption) | exact natLe (by with_reducible assumption) (by decide) | exact hbI (by with_reducible assumption) (by with_reducible assumption) (by with_reducible assumption) (by decide) | omega); (try (intro i v I oI C oC D m₂ h tk E' ys at' t hP h0 h1 hC hx F' N' b1 b2 b3; (have hP' := hP); obtain ⟨tv, hv⟩ := hP'; subst hv; clear hP; (try dsimp only at N'); (try dsimp only); (try k_sweep)))))
      | with_reducible ((with_reducible show LCg.CompSrc _ _ _ _ _ _ _ _ _ _ _ _ _ _); ( k_dflt (refine LCg.CompSrc.range (by rfl) (by k_asm) (by k_asm) (by with_reducible assumption) (small_one (by first | decide | exact geI (by with_reducible assumption) (by decide) | exact ltI (by with_reducible assumption) (by decide) | exact addgeI (by with_reducible assumption) (by decide) | exact addltI (by with_reducible assumption) (by decide) | omega) (by first | decide | exact geI (by with_reducible assumption) (by decide) | exact ltI (by with_reducible assumption) (by decide) | exact addgeI (by with_reducible assumption) (by decide) | exact addltI (by with_reducible assumption) (by decide) | omega) (by first | decide | exact geI (by with_reducible assumption) (by decide) | exact ltI (by with_reducible assumption) (by decide) | exact addgeI (by with_reducible assumption) (by decide) | exact addltI (by with_reducible assumption) (by decide) | omega) (by first | decide | exact geI (by with_reducible assumption) (by decide) | exact ltI (by with_reducible assumption) (by decide) | exact addgeI (by with_reducible assumption) (by decide) | exact addltI (by with_reducible assumption) (by decide) | omega)) (rangeSize_nat _ _) (by rw [PySem.sizeLine_eq]; (first | with_reducible assumption | exact leN (by with_reducible assumption) (by decide) | exact eqN (by with_reducible assumption) (by decide) | exact leN3 (by with_reducible assumption) (by with_reducible assumption) (by with_reducible assumption) (by decide) | exact lenA (by with_reducible assumption) (by with_reducible assumption) (by decide) | exact lenB (by with_reducible assumption) (by with_reducible assumption) (by decide) | exact sizeB (by with_reducible assumption) (by with_reducible assumption) (by with_reducible assumption) (by decide) | exact tnA (by with_reducible assumption) (by decide) | exact tnB (by with_reducible assumption) (by decide) | exact posNat (by with_reducible assumption) | exact eq0 (by with_reducible assumption) | omega)) ?_); intro g'; k_dflt (refine' boxCompB ?hz_M ?hz_U IsB32 _ 1300 (by decide) ?hz_L0 ?hz_B0 ?_ ?_); (case hz_M => k_dflt k_mem); (case hz_U => k_updF); (case hz_L0 => first | with_reducible assumption | decide | exact geI (by with_reducible assumption) (by decide) | exact leI (by with_reducible assumption) (by decide) | exact ltLe (by with_reducible assumption) (by decide) | exact dropI (by with_reducible assumption) (by decide) | exact upI (by with_reducible assumption) (by decide) | exact pgeI (by with_reducible assumption) (by decide) | exact pleI (by with_reducible assumption) (by decide) | exact pge2I (by with_reducible assumption) (by decide) | exact self2I (by decide) | exact self1I (by decide) | exact self0I (by decide) | exact addgeI (by with_reducible assumption) (by decide) | exact addltI (by with_reducible assumption) (by decide) | exact addleI (by with_reducible assumption) (by decide) | exact ge2I (by with_reducible assumption) (by with_reducible assumption) (by decide) | exact ge2pI (by with_reducible assumption) (by with_reducible assumption) (by decide) | exact bdA (by with_reducible assumption) (by decide) | exact bdB (by with_reducible assumption) (by with_reducible assumption) (by decide) | exact bdC (by with_reducible assumption) (by with_reducible assumption) (by decide) | exact bdD (by with_reducible assumption) (by with_reducible assumption) (by with_reducible assumption) (by decide) (by decide) | exact bdE (by with_reducible assumption) (by with_reducible assumption) (by with_reducible assumption) (by with_reducible assumption) (by decide) (by decide) | exact bdF (by with_reducible assumption) (by with_reducible assumption) (by with_reducible assumption) (by with_reducible assumption) (by decide) (by decide) | exact natPos (by with_reducible assumption) | exact natLe (by with_reducible assumption) (by decide) | exact hbI (by with_reducible assumption) (by with_reducible assumption) (by with_reducible assumption) (by decide) | omega); (case hz_B0 => first | with_reducible assumption | decide | exact geI (by with_reducible assumption) (by decide) | exact leI (by with_reducible assumption) (by decide) | exact ltLe (by with_reducible assumption) (by decide) | exact dropI (by with_reducible assumption) (by decide) | exact upI (by with_reducible assumption) (by decide) | exact pgeI (by with_reducible assumption) (by decide) | exact pleI (by with_reducible assumption) (by decide) | exact pge2I (by with_reducible assumption) (by decide) | exact self2I (by decide) | exact self1I (by decide) | exact self0I (by decide) | exact addgeI (by with_reducible assumption) (by decide) | exact addltI (by with_reducible assumption) (by decide) | exact addleI (by with_reducible assumption) (by decide) | exact ge2I (by with_reducible assumption) (by with_reducible assumption) (by decide) | exact ge2pI (by with_reducible assumption) (by with_reducible assumption) (by decide) | exact bdA (by with_reducible assumption) (by decide) | exact bdB (by with_reducible assumption) (by with_reducible assumption) (by decide) | exact bdC (by with_reducible assumption) (by with_reducible assumption) (by decide) | exact bdD (by with_reducible assumption) (by with_reducible assumption) (by with_reducible assumption) (by decide) (by decide) | exact bdE (by with_reducible assumption) (by with_reducible assumption) (by with_reducible assumption) (by with_reducible assumption) (by decide) (by decide) | exact bdF (by with_reducible assumption) (by with_reducible assumption) (by with_reducible assumption) (by with_reducible assumption) (by decide) (by decide) | exact natPos (by with_reducible assumption) | exact natLe (by with_reducible assumption) (by decide) | exact hbI (by with_reducible assumption) (by with_reducible assumption) (by with_reducible assumption) (by decide) | omega); (try (intro i v I oI C oC D m₂ h tk E' ys at' t hP h0 h1 hC hx F' N' b1 b2 b3; (have hP' := hP); obtain ⟨tv, hv⟩ := hP'; subst hv; clear hP; (try dsimp only at N'); (try dsimp only); (try k_sweep)))))
      | with_reducible ( (with_reducible show wpAny _ _ (call (Value.ref 177) [Value.ref _]) _ _ _); k_dflt (refine' hash (Cx.law ?hz_B ?hz_F ?hz_X ?hz_T ?hz_K ?hz_d ?hz_u ?hz_N ?hz_S) ?hz_R ?hz_a0 ?hz_a1 ?_); (case hz_B => k_asm); (case hz_F => k_asm); (case hz_X => k_asm); (case hz_T => k_asm); (case hz_K => first | exact rfl | assumption); (case hz_N => k_asm); (case hz_d => k_dflt (exact Nat.le_of_ble_eq_true rfl)); (case hz_u => k_dflt (exact Nat.le_of_ble_eq_true rfl)); (case hz_S => k_dflt (intro q hq; rw [List.mem_singleton] at hq; subst hq; k_mem)); (case hz_R => k_dflt (exact Rw.mk (by k_asm) (by k_mem) (by with_reducible assumption) (List.length_take_le _ _) (by k_ne))); (case hz_a0 => first | with_reducible assumption | decide | exact geI (by with_reducible assumption) (by decide) | exact leI (by with_reducible assumption) (by decide) | exact ltLe (by with_reducible assumption) (by decide) | exact dropI (by with_reducible assumption) (by decide) | exact upI (by with_reducible assumption) (by decide) | exact pgeI (by with_reducible assumption) (by decide) | exact pleI (by with_reducible assumption) (by decide) | exact pge2I (by with_reducible assumption) (by decide) | exact self2I (by decide) | exact self1I (by decide) | exact self0I (by decide) | exact addgeI (by with_reducible assumption) (by decide) | exact addltI (by with_reducible assumption) (by decide) | exact addleI (by with_reducible assumption) (by decide) | exact ge2I (by with_reducible assumption) (by with_reducible assumption) (by decide) | exact ge2pI (by with_reducible assumption) (by with_reducible assumption) (by decide) | exact bdA (by with_reducible assumption) (by decide) | exact bdB (by with_reducible assumption) (by with_reducible assumption) (by decide) | exact bdC (by with_reducible assumption) (by with_reducible assumption) (by decide) | exact bdD (by with_reducible assumption) (by with_reducible assumption) (by with_reducible assumption) (by decide) (by decide) | exact bdE (by with_reducible assumption) (by with_reducible assumption) (by with_reducible assumption) (by with_reducible assumption) (by decide) (by decide) | exact bdF (by with_reducible assumption) (by with_reducible assumption) (by with_reducible assumption) (by with_reducible assumption) (by decide) (by decide) | exact natPos (by with_reducible assumption) | exact natLe (by with_reducible assumption) (by decide) | exact hbI (by with_reducible assumption) (by with_reducible assumption) (by with_reducible assumption) (by decide) | omega); (case hz_a1 => first | with_reducible assumption | decide | exact geI (by with_reducible assumption) (by decide) | exact leI (by with_reducible assumption) (by decide) | exact ltLe (by with_reducible assumption) (by decide) | exact dropI (by with_reducible assumption) (by decide) | exact upI (by with_reducible assumption) (by decide) | exact pgeI (by with_reducible assumption) (by decide) | exact pleI (by with_reducible assumption) (by decide) | exact pge2I (by with_reducible assumption) (by decide) | exact self2I (by decide) | exact self1I (by decide) | exact self0I (by decide) | exact addgeI (by with_reducible assumption) (by decide) | exact addltI (by with_reducible assumption) (by decide) | exact addleI (by with_reducible assumption) (by decide) | exact ge2I (by with_reducible assumption) (by with_reducible assumption) (by decide) | exact ge2pI (by with_reducible assumption) (by with_reducible assumption) (by decide) | exact bdA (by with_reducible assumption) (by decide) | exact bdB (by with_reducible assumption) (by with_reducible assumption) (by decide) | exact bdC (by with_reducible assumption) (by with_reducible assumption) (by decide) | exact bdD (by with_reducible assumption) (by with_reducible assumption) (by with_reducible assumption) (by decide) (by decide) | exact bdE (by with_reducible assumption) (by with_reducible assumption) (by with_reducible assumption) (by with_reducible assumption) (by decide) (by decide) | exact bdF (by with_reducible assumption) (by with_reducible assumption) (by with_reducible assumption) (by with_reducible assumption) (by decide) (by decide) | exact natPos (by with_reducible assumption) | exact natLe (by with_reducible assumption) (by decide) | exact hbI (by with_reducible assumption) (by with_reducible assumption) (by with_reducible assumption) (by decide) | omega); intro b' _ at2' _ h' _ hb' v0 v1 kb' ho'; (have X' := but_F (by k_asm) (by k_asm) (by k_updF) kb' ho'); (have F' := X'.1); (have N' := X'.2); clear X' kb' ho'; (try dsimp only at N'); (try k_sweep); (try (refine keepP ?_)); (try dsimp only); (try k_fold))
      | with_reducible ( (with_reducible show wpAny _ _ (call (Value.ref 172) [Value.ref _]) _ _ _); k_dflt (refine' secret (Cx.law ?hz_B ?hz_F ?hz_X ?hz_T ?hz_K ?hz_d ?hz_u ?hz_N ?hz_S) ?hz_R ?hz_a0 ?hz_a1 ?_); (case hz_B => k_asm); (case hz_F => k_asm); (case hz_X => k_asm); (case hz_T => k_asm); (case hz_K => first | exact rfl | assumption); (case hz_N => k_asm); (case hz_d => k_dflt (exact Nat.le_of_ble_eq_true rfl)); (case hz_u => k_dflt (exact Nat.le_of_ble_eq_true rfl)); (case hz_S => k_dflt (intro q hq; rw [List.mem_singleton] at hq; subst hq; k_mem)); (case hz_R => k_dflt (exact Rw.mk (by k_asm) (by k_mem) (by with_reducible assumption) (List.length_take_le _ _) (by k_ne))); (case hz_a0 => first | with_reducible assumption | decide | exact geI (by with_reducible assumption) (by decide) | exact leI (by with_reducible assumption) (by decide) | exact ltLe (by with_reducible assumption) (by decide) | exact dropI (by with_reducible assumption) (by decide) | exact upI (by with_reducible assumption) (by decide) | exact pgeI (by with_reducible assumption) (by decide) | exact pleI (by with_reducible assumption) (by decide) | exact pge2I (by with_reducible assumption) (by decide) | exact self2I (by decide) | exact self1I (by decide) | exact self0I (by decide) | exact addgeI (by with_reducible assumption) (by decide) | exact addltI (by with_reducible assumption) (by decide) | exact addleI (by with_reducible assumption) (by decide) | exact ge2I (by with_reducible assumption) (by with_reducible assumption) (by decide) | exact ge2pI (by with_reducible assumption) (by with_reducible assumption) (by decide) | exact bdA (by with_reducible assumption) (by decide) | exact bdB (by with_reducible assumption) (by with_reducible assumption) (by decide) | exact bdC (by with_reducible assumption) (by with_reducible assumption) (by decide) | exact bdD (by with_reducible assumption) (by with_reducible assumption) (by with_reducible assumption) (by decide) (by decide) | exact bdE (by with_reducible assumption) (by with_reducible assumption) (by with_reducible assumption) (by with_reducible assumption) (by decide) (by decide) | exact bdF (by with_reducible assumption) (by with_reducible assumption) (by with_reducible assumption) (by with_reducible assumption) (by decide) (by decide) | exact natPos (by with_reducible assumption) | exact natLe (by with_reducible assumption) (by decide) | exact hbI (by with_reducible assumption) (by with_reducible assumption) (by with_reducible assumption) (by decide) | omega); (case hz_a1 => first | with_reducible assumption | decide | exact geI (by with_reducible assumption) (by decide) | exact leI (by with_reducible assumption) (by decide) | exact ltLe (by with_reducible assumption) (by decide) | exact dropI (by with_reducible assumption) (by decide) | exact upI (by with_reducible assumption) (by decide) | exact pgeI (by with_reducible assumption) (by decide) | exact pleI (by with_reducible assumption) (by decide) | exact pge2I (by with_reducible assumption) (by decide) | exact self2I (by decide) | exact self1I (by decide) | exact self0I (by decide) | exact addgeI (by with_reducible assumption) (by decide) | exact addltI (by with_reducible assumption) (by decide) | exact addleI (by with_reducible assumption) (by decide) | exact ge2I (by with_reducible assumption) (by with_reducible assumption) (by decide) | exact ge2pI (by with_reducible assumption) (by with_reducible assumption) (by decide) | exact bdA (by with_reducible assumption) (by decide) | exact bdB (by with_reducible assumption) (by with_reducible assumption) (by decide) | exact bdC (by with_reducible assumption) (by with_reducible assumption) (by decide) | exact bdD (by with_reducible assumption) (by with_reducible assumption) (by with_reducible assumption) (by decide) (by decide) | exact bdE (by with_reducible assumption) (by with_reducible assumption) (by with_reducible assumption) (by with_reducible assumption) (by decide) (by decide) | exact bdF (by with_reducible assumption) (by with_reducible assumption) (by with_reducible assumption) (by with_reducible assumption) (by decide) (by decide) | exact natPos (by with_reducible assumption) | exact natLe (by with_reducible assumption) (by decide) | exact hbI (by with_reducible assumption) (by with_reducible assumption) (by with_reducible assumption) (by decide) | omega); intro b' _ at2' _ h' _ hb' v0 v1 kb' ho'; (have X' := but_F (by k_asm) (by k_asm) (by k_updF) kb' ho'); (have F' := X'.1); (have N' := X'.2); clear X' kb' ho'; (try dsimp only at N'); (try k_sweep); (try (refine keepP ?_)); (try dsimp only); (try k_fold))
      | with_reducible ( (with_reducible show wpAny _ _ (call (Value.ref 158) [Value.ref _, Value.int _ _]) _ _ _); k_dflt (refine' takeR (Cx.law ?hz_B ?hz_F ?hz_X ?hz_T ?hz_K ?hz_d ?hz_u ?hz_N ?hz_S) ?hz_R ?hz_a0 ?hz_a1 ?hz_m0 ?hz_m1 ?_); (case hz_B => k_asm); (case hz_F => k_asm); (case hz_X => k_asm); (case hz_T => k_asm); (case hz_K => first | exact rfl | assumption); (case hz_N => k_asm); (case hz_d => k_dflt (exact Nat.le_of_ble_eq_true rfl)); (case hz_u => k_dflt (exact Nat.le_of_ble_eq_true rfl)); (case hz_S => k_dflt (intro q hq; rw [List.mem_singleton] at hq; subst hq; k_mem)); (case hz_R => k_dflt (exact Rw.mk (by k_asm) (by k_mem) (by with_reducible assumption) (List.length_take_le _ _) (by k_ne))); (case hz_a0 => first | with_reducible assumption | decide | exact geI (by with_reducible assumption) (by decide) | exact leI (by with_reducible assumption) (by decide) | exact ltLe (by with_reducible assumption) (by decide) | exact dropI (by with_reducible assumption) (by decide) | exact upI (by with_reducible assumption) (by decide) | exact pgeI (by with_reducible assumption) (by decide) | exact pleI (by with_reducible assumption) (by decide) | exact pge2I (by with_reducible assumption) (by decide) | exact self2I (by decide) | exact self1I (by decide) | exact self0I (by decide) | exact addgeI (by with_reducible assumption) (by decide) | exact addltI (by with_reducible assumption) (by decide) | exact addleI (by with_reducible assumption) (by decide) | exact ge2I (by with_reducible assumption) (by with_reducible assumption) (by decide) | exact ge2pI (by with_reducible assumption) (by with_reducible assumption) (by decide) | exact bdA (by with_reducible assumption) (by decide) | exact bdB (by with_reducible assumption) (by with_reducible assumption) (by decide) | exact bdC (by with_reducible assumption) (by with_reducible assumption) (by decide) | exact bdD (by with_reducible assumption) (by with_reducible assumption) (by with_reducible assumption) (by decide) (by decide) | exact bdE (by with_reducible assumption) (by with_reducible assumption) (by with_reducible assumption) (by with_reducible assumption) (by decide) (by decide) | exact bdF (by with_reducible assumption) (by with_reducible assumption) (by with_reducible assumption) (by with_reducible assumption) (by decide) (by decide) | exact natPos (by with_reducible assumption) | exact natLe (by with_reducible assumption) (by decide) | exact hbI (by with_reducible assumption) (by with_reducible assumption) (by with_reducible assumption) (by decide) | omega); (case hz_a1 => first | with_reducible assumption | decide | exact geI (by with_reducible assumption) (by decide) | exact leI (by with_reducible assumption) (by decide) | exact ltLe (by with_reducible assumption) (by decide) | exact dropI (by with_reducible assumption) (by decide) | exact upI (by with_reducible assumption) (by decide) | exact pgeI (by with_reducible assumption) (by decide) | exact pleI (by with_reducible assumption) (by decide) | exact pge2I (by with_reducible assumption) (by decide) | exact self2I (by decide) | exact self1I (by decide) | exact self0I (by decide) | exact addgeI (by with_reducible assumption) (by decide) | exact addltI (by with_reducible assumption) (by decide) | exact addleI (by with_reducible assumption) (by decide) | exact ge2I (by with_reducible assumption) (by with_reducible assumption) (by decide) | exact ge2pI (by with_reducible assumption) (by with_reducible assumption) (by decide) | exact bdA (by with_reducible assumption) (by decide) | exact bdB (by with_reducible assumption) (by with_reducible assumption) (by decide) | exact bdC (by with_reducible assumption) (by with_reducible assumption) (by decide) | exact bdD (by with_reducible assumption) (by with_reducible assumption) (by with_reducible assumption) (by decide) (by decide) | exact bdE (by with_reducible assumption) (by with_reducible assumption) (by with_reducible assumption) (by with_reducible assumption) (by decide) (by decide) | exact bdF (by with_reducible assumption) (by with_reducible assumption) (by with_reducible assumption) (by with_reducible assumption) (by decide) (by decide) | exact natPos (by with_reducible assumption) | exact natLe (by with_reducible assumption) (by decide) | exact hbI (by with_reducible assumption) (by with_reducible assumption) (by with_reducible assumption) (by decide) | omega); (case hz_m0 => first | with_reducible assumption | decide | exact geI (by with_reducible assumption) (by decide) | exact leI (by with_reducible assumption) (by decide) | exact ltLe (by with_reducible assumption) (by decide) | exact dropI (by with_reducible assumption) (by decide) | exact upI (by with_reducible assumption) (by decide) | exact pgeI (by with_reducible assumption) (by decide) | exact pleI (by with_reducible assumption) (by decide) | exact pge2I (by with_reducible assumption) (by decide) | exact self2I (by decide) | exact self1I (by decide) | exact self0I (by decide) | exact addgeI (by with_reducible assumption) (by decide) | exact addltI (by with_reducible assumption) (by decide) | exact addleI (by with_reducible assumption) (by decide) | exact ge2I (by with_reducible assumption) (by with_reducible assumption) (by decide) | exact ge2pI (by with_reducible assumption) (by with_reducible assumption) (by decide) | exact bdA (by with_reducible assumption) (by decide) | exact bdB (by with_reducible assumption) (by with_reducible assumption) (by decide) | exact bdC (by with_reducible assumption) (by with_reducible assumption) (by decide) | exact bdD (by with_reducible assumption) (by with_reducible assumption) (by with_reducible assumption) (by decide) (by decide) | exact bdE (by with_reducible assumption) (by with_reducible assumption) (by with_reducible assumption) (by with_reducible assumption) (by decide) (by decide) | exact bdF (by with_reducible assumption) (by with_reducible assumption) (by with_reducible assumption) (by with_reducible assumption) (by decide) (by decide) | exact natPos (by with_reducible assumption) | exact natLe (by with_reducible assumption) (by decide) | exact hbI (by with_reducible assumption) (by with_reducible assumption) (by with_reducible assumption) (by decide) | omega); (case hz_m1 => first | with_reducible assumption | decide | exact geI (by with_reducible assumption) (by decide) | exact leI (by with_reducible assumption) (by decide) | exact ltLe (by with_reducible assumption) (by decide) | exact dropI (by with_reducible assumption) (by decide) | exact upI (by with_reducible assumption) (by decide) | exact pgeI (by with_reducible assumption) (by decide) | exact pleI (by with_reducible assumption) (by decide) | exact pge2I (by with_reducible assumption) (by decide) | exact self2I (by decide) | exact self1I (by decide) | exact self0I (by decide) | exact addgeI (by with_reducible assumption) (by decide) | exact addltI (by with_reducible assumption) (by decide) | exact addleI (by with_reducible assumption) (by decide) | exact ge2I (by with_reducible assumption) (by with_reducible assumption) (by decide) | exact ge2pI (by with_reducible assumption) (by with_reducible assumption) (by decide) | exact bdA (by with_reducible assumption) (by decide) | exact bdB (by with_reducible assumption) (by with_reducible assumption) (by decide) | exact bdC (by with_reducible assumption) (by with_reducible assumption) (by decide) | exact bdD (by with_reducible assumption) (by with_reducible assumption) (by with_reducible assumption) (by decide) (by decide) | exact bdE (by with_reducible assumption) (by with_reducible assumption) (by with_reducible assumption) (by with_reducible assumption) (by decide) (by decide) | exact bdF (by with_reducible assumption) (by with_reducible assumption) (by with_reducible assumption) (by with_reducible assumption) (by decide) (by decide) | exact natPos (by with_reducible assumption) | exact natLe (by with_reducible assumption) (by decide) | exact hbI (by with_reducible assumption) (by with_reducible assumption) (by with_reducible assumption) (by decide) | omega); intro v' _ _ h' _ v0 v1 kb' ho'; (have X' := but_F (by k_asm) (by k_asm) (by k_updF) kb' ho'); (have F' := X'.1); (have N' := X'.2); clear X' kb' ho'; (try dsimp only at N'); (try k_sweep); (try (refine keepP ?_)); (try dsimp only); (try k_fold))
      | with_reducible ((with_reducible refine addS ?_); intro _ _; (try dsimp only))
      | with_reducible ((with_reducible show LCg.FinA _ _ _ _ _ _ _ _); ((unfold LCg.FinA); intro D' h' tk' F' N' o1'; (try dsimp only at o1'); (try simp only [List.nil_append, List.cons_append] at N'); (try dsimp only)))
      | walk1
      | (dsimp only; walk1)
      | (leave1; walk_say "STEP leave1"; try dsimp only)
      | fail "no step"))
end Mine
end
theorem PySem.Challenge.cw_jv0012_01_holds : PySem.Challenge.rw_jv0012_01.Holds :=
  Mine.law0
