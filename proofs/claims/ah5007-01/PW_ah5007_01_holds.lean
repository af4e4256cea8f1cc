import PyProof.Rows.All
import Wide.All
import OpenK.AllK
import Wide.FinOn
import PySem.Challenge.RW_ah5007_01
open PySem PySem.Spec PySem.Calls PySem.W PyProof.Rows
set_option Elab.async false
set_option maxRecDepth 100000
namespace Mine
set_option maxHeartbeats 0 in
open_top hd for PySem.Challenge.rw_ah5007_01

/-- the top's loose names -/
noncomputable abbrev loo : List Str := looseW hd.view_39 [Str.ofString "round_fast", Str.ofString "fzero", Str.ofString "fnan", Str.ofString "finf", Str.ofString "fninf",
      Str.ofString "shifts_down", Str.ofString "mpf_neg", Str.ofString "mpf_abs", Str.ofString "mpf_add", Str.ofString "mpf_sub"]
/-- what every heap of the law's run bears -/
structure Rdy (w : World) (h : Heap) : Prop where
  K : (hd.heap_39 w.params).In h
  T : ∃ mean mg mb, Top hd.view_39 loo mean mg mb h
theorem Rdy.keeps {w : World} {h h' : Heap} (R : Rdy w h) (k : ∀ b o, h.get? b = some o → h'.get? b = some o) : Rdy w h' :=
  ⟨R.K.keeps k, let ⟨a, b, c, T⟩ := R.T; ⟨a, b, c, T.keeps k⟩⟩

theorem rdy_of {w : World} {h₀ h : Heap} {L : Addr} {m : Str → Option Value} {mean : ExcName → Option Value} {mg mb : Str → Option Value} (X : (hd.heap_39 w.params).In h₀) (T : Top hd.view_39 loo mean mg mb h₀) (F : Fr h₀ L h m) : Rdy w h :=
  Rdy.keeps ⟨X, mean, mg, mb, T⟩ F.keep

/-- the place of a frame at level k -/
@[reducible] def At (k : Nat) : Around := { handled := none, depth := 500 + k, frames := none, guards := none, units := 5000 + 32 * k }
/-- A lies at level k or above -/
structure Le (A : Around) (k : Nat) : Prop where
  handled : A.handled = none
  depth : A.depth ≤ 500 + k
  units : A.units ≤ 5000 + 32 * k
theorem Le.at {k j : Nat} (h : k ≤ j) : Le (At k) j := ⟨rfl, by show 500 + k ≤ _; omega, by show 5000 + 32 * k ≤ _; omega⟩
theorem Le.in1 {A : Around} {k : Nat} (r : Le A k) : Le A.in1 (k + 1) :=
  ⟨r.handled, by have := r.depth; show A.depth ≤ _; omega, by have := r.units; show A.units + 1 ≤ _; omega⟩
theorem Le.deeper {A : Around} {k : Nat} (r : Le A k) (env : Env) : Le (A.deeper env) (k + 1) :=
  ⟨r.handled, by have := r.depth; show A.depth + 1 ≤ _; omega, by have := r.units; show A.units + 3 ≤ _; omega⟩
theorem Le.up {A : Around} {k j : Nat} (r : Le A k) (h : k ≤ j) : Le A j :=
  ⟨r.handled, by have := r.depth; omega, by have := r.units; omega⟩
theorem Le.run {α : Type} {M : Model} {A : Around} {k : Nat} {t : Sem α} {Q : α → Shared → Prop} {E : Value → Shared → Prop} {s : Shared} (r : Le A k) (h : wpAny M (At k) t Q E s) : wpAny M A t Q E s := by
  intro Γ p hΓ
  refine h Γ p ⟨hΓ.1.trans r.handled, Nat.le_trans hΓ.2.1 r.depth, fun l hl => (nomatch hl), fun g hg => (nomatch hg), Nat.le_trans hΓ.2.2.2.2 r.units⟩

/-- what a call hands back: the value, the heap grown -/
def Back (s : Shared) (R : Value → Heap → Prop) (v : Value) (s' : Shared) : Prop :=
  ∃ h tk, s' = { s with heap := h, toks := tk } ∧ (∀ b o, s.heap.get? b = some o → h.get? b = some o) ∧ R v h

theorem Fr.through {h₀ h h' : Heap} {L : Addr} {m : Str → Option Value} (F : Fr h₀ L h m) (k : ∀ b o, h.get? b = some o → h'.get? b = some o) : Fr h₀ L h' m :=
  ⟨F.ns.keeps k, fun b o e => k b o (F.keep b o e), F.above⟩
theorem News.through {h₀ h h' : Heap} {L : Addr} {news : List (Addr × Obj)} (N : News h₀ L h news) (k : ∀ b o, h.get? b = some o → h'.get? b = some o) : News h₀ L h' news :=
  fun p hp => ⟨k _ _ (N p hp).1, (N p hp).2⟩

section
variable {w : World} {A : Around} {E : Value → Shared → Prop} {s : Shared} {Q : Value → Shared → Prop}
  {name qual : Str} {params : Arguments} {body : List Stmt} {scope : Scope} {dV kV doc pm cdv ct oc : Value} {an od : Option Addr} {osl : Array (Option Value)} {f : Addr} {args : List Value} {kw : List (Str × Value)} {binds : List (Str × Value)} {n : Nat} {R : Value → Heap → Prop}

theorem enter (W : Rdy w s.heap) (r : Le A n) (hn : n < 400)
    (ho : (hd.heap_39 w.params).lookup f = some ⟨oc, od, .func (fnOf name qual params body scope dV kV doc pm an cdv ct), osl⟩) (hcd : codeIn (hd.heap_39 w.params) cdv qual = true)
    (hbind : BindsTo s (fnOf name qual params body scope dV kV doc pm an cdv ct) ⟨args, kw⟩ binds) (hloc : ∀ y ∈ binds, scope.names.lookup y.1 = some .local)
    (h : ∀ L h₁, Fr s.heap L h₁ (fun y => binds.reverse.lookup y) →
      wpAny (model PySem.Challenge.pw_ah5007_01 w) (At (n + 1)) (execs body (envOf qual scope L f cdv))
        (fun fl s' => Back s R (match fl with | .ret v => v | _ => .none) s') (fun _ _ => False) { s with heap := h₁, toks := s.toks + binds.length })
    (hco : scope.isCoroutine = false := by rfl) (hgen : scope.isGenerator = false := by rfl) (hk : scope.kind = .function := by rfl)
    (hcell : ∀ x ∈ scope.names, x.2 ≠ .cell := by decide) :
    wpAny (model PySem.Challenge.pw_ah5007_01 w) A (call (.ref f) args kw) (Back s R) E s := by
  obtain ⟨X, mean, mg, mb, T⟩ := W
  refine wpAny_call (codeAny_call_def (fd := fnOf name qual params body scope dV kV doc pm an cdv ct) (body := body) (binds := binds) (by have := r.depth; show _ < 1000; omega) (X _ _ ho) rfl T.nolimit (codeRec_of X hcd) rfl hbind hcell hloc (fun h₁ hns hk₁ => ?_) hco hgen hk)
  exact wpAny_mono ((r.deeper _).run (h _ h₁ ⟨hns, hk₁, Nat.le_refl _⟩)) (fun fl s' x => x) fun _ _ x => x.elim
end
/-- the four parts of a number -/
abbrev M := Int × Int × Int × Int
abbrev M.sg (x : M) : Int := x.1
abbrev M.man (x : M) : Int := x.2.1
abbrev M.ex (x : M) : Int := x.2.2.1
abbrev M.bc (x : M) : Int := x.2.2.2
abbrev mZ : M := (0, 0, 0, 0)
abbrev mNan : M := (0, 0, -123, -1)
abbrev mInf : M := (0, 0, -456, -2)
abbrev mNinf : M := (1, 0, -789, -3)

/-- v is a tuple that h holds and h₀ did not -/
def FreshM (h₀ : Heap) (x : M) (v : Value) (h : Heap) : Prop :=
  ∃ (a : Addr) (t1 t2 t3 t4 : Tok), v = .ref a ∧ h.get? a = some { cls := .type "tuple", data := .seq #[.int x.1 t1, .int x.2.1 t2, .int x.2.2.1 t3, .int x.2.2.2 t4] } ∧ h₀.get? a = none
theorem fresh_of {h₀ h : Heap} {L a : Addr} {news : List (Addr × Obj)} {x : M} {a1 a2 a3 a4 : Int} {t1 t2 t3 t4 : Tok} (N : News h₀ L h news)
    (hm : (a, ({ cls := .type "tuple", data := .seq #[.int a1 t1, .int a2 t2, .int a3 t3, .int a4 t4] } : Obj)) ∈ news) (e : x = (a1, a2, a3, a4)) : FreshM h₀ x (.ref a) h := by
  subst e
  exact ⟨a, t1, t2, t3, t4, rfl, (N _ hm).1, (N _ hm).2.2⟩

theorem FreshM.older {h₀ h₁ h : Heap} {x : M} {v : Value} (k : ∀ b o, h₀.get? b = some o → h₁.get? b = some o) (f : FreshM h₁ x v h) : FreshM h₀ x v h := by
  obtain ⟨a, t1, t2, t3, t4, e, hg, hn⟩ := f
  refine ⟨a, t1, t2, t3, t4, e, hg, ?_⟩
  cases q : h₀.get? a with
  | none => rfl
  | some o => rw [k _ _ q] at hn; cases hn
theorem reads_tup4 {h : Heap} {a : Addr} {a1 a2 a3 a4 : Int} {t1 t2 t3 t4 : Tok} (x : IsTup h a #[.int a1 t1, .int a2 t2, .int a3 t3, .int a4 t4]) :
    Reads h (.ref a) (.tuple [.int a1, .int a2, .int a3, .int a4]) [] := by
  obtain ⟨o, ho, hc, n, hd⟩ := x
  exact reads_tuple_at ho hc hd (.cons (.int _ _) (.cons (.int _ _) (.cons (.int _ _) (.cons (.int _ _) .nil))))
theorem eqv_tup4 (a1 a2 a3 a4 b1 b2 b3 b4 : Int) : PyData.eqv (.tuple [.int a1, .int a2, .int a3, .int a4]) (.tuple [.int b1, .int b2, .int b3, .int b4]) = decide (((a1, a2, a3, a4) : M) = (b1, b2, b3, b4)) := by
  simp only [PyData.eqv, PyData.eqvAll, Prod.mk.injEq, Bool.and_true]
  by_cases h1 : a1 = b1 <;> by_cases h2 : a2 = b2 <;> by_cases h3 : a3 = b3 <;> by_cases h4 : a4 = b4 <;> simp [h1, h2, h3, h4]

section
variable {prog : Program} {w : World} {A : Around} {E : Value → Shared → Prop} {s : Shared} {Q : Value → Shared → Prop} {a b : Addr} {a1 a2 a3 a4 b1 b2 b3 b4 : Int} {t1 t2 t3 t4 u1 u2 u3 u4 : Tok}
theorem eq_tup4 (ha : IsTup s.heap a #[.int a1 t1, .int a2 t2, .int a3 t3, .int a4 t4]) (hb : IsTup s.heap b #[.int b1 u1, .int b2 u2, .int b3 u3, .int b4 u4]) (hu : A.units + 64 < cLine)
    (h : Q (.bool (decide (((a1, a2, a3, a4) : M) = (b1, b2, b3, b4)))) s) : wpAny (model prog w) A (compareOp .Eq (.ref a) (.ref b)) Q E s :=
  eq_dataH (reads_tup4 ha) (reads_tup4 hb) (by rfl) (by rfl) hu (by rw [eqv_tup4]; exact h)
theorem ne_tup4 (ha : IsTup s.heap a #[.int a1 t1, .int a2 t2, .int a3 t3, .int a4 t4]) (hb : IsTup s.heap b #[.int b1 u1, .int b2 u2, .int b3 u3, .int b4 u4]) (hu : A.units + 64 < cLine)
    (h : Q (.bool (!decide (((a1, a2, a3, a4) : M) = (b1, b2, b3, b4)))) s) : wpAny (model prog w) A (compareOp .NotEq (.ref a) (.ref b)) Q E s :=
  ne_dataH (reads_tup4 ha) (reads_tup4 hb) (by rfl) (by rfl) hu (by rw [eqv_tup4]; exact h)
end

/-- x is a local | a global of the scope -/
def okL (cs : Scope) (x : Str) : Bool := cs.kind == .function && cs.names.lookup x == some .local && !(x == ("__debug__" : Str))
def okG (cs : Scope) (x : Str) : Bool := cs.kind == .function && cs.names.lookup x == some .globalImplicit && !(x == ("__debug__" : Str))
theorem okL_parts {cs : Scope} {x : Str} (h : okL cs x = true) : cs.kind = .function ∧ cs.names.lookup x = some .local ∧ (x == ("__debug__" : Str)) = false := by
  simp only [okL, Bool.and_eq_true, beq_iff_eq, Bool.not_eq_true'] at h
  exact ⟨h.1.1, h.1.2, h.2⟩
theorem okG_parts {cs : Scope} {x : Str} (h : okG cs x = true) : cs.kind = .function ∧ cs.names.lookup x = some .globalImplicit ∧ (x == ("__debug__" : Str)) = false := by
  simp only [okG, Bool.and_eq_true, beq_iff_eq, Bool.not_eq_true'] at h
  exact ⟨h.1.1, h.1.2, h.2⟩
section
variable {M : Model} {A : Around} {E : Value → Shared → Prop} {s : Shared} {K : Frag} {h₀ : Heap} {L a : Addr} {m mg mb : Str → Option Value} {cn : Str} {cs : Scope} {ccd : Value} {p : Program} {loose : List Str} {mean : ExcName → Option Value}
  {x : Str} {pos : Pos} {v : Value} {news : List (Addr × Obj)}
theorem nm_L {Q : Value → Shared → Prop} (F : Fr h₀ L s.heap m) (hb : okL cs x = true) (hv : m x = some v) (h : Q v s) : wpAny M A (eval (.Name x pos) (envOf cn cs L a ccd)) Q E s :=
  nameX_L (cl := []) F hv h (okL_parts hb).1 (okL_parts hb).2.1 (okL_parts hb).2.2
theorem nm_K {Q : Value → Shared → Prop} (F : Fr h₀ L s.heap m) (X : K.In h₀) (T : Top p loose mean mg mb h₀) (hb : okG cs x = true) (e : nsIn K mainGlobals x = some (some v)) (h : Q v s) : wpAny M A (eval (.Name x pos) (envOf cn cs L a ccd)) Q E s :=
  nameX_K (cl := []) F X (topRead_of T) e h (okG_parts hb).1 (okG_parts hb).2.1 (okG_parts hb).2.2
theorem ldn_L {Q : Value → Shared → Prop} (F : Fr h₀ L s.heap m) (hb : okL cs x = true) (hv : m x = some v) (h : Q v s) : wpAny M A (loadName (envOf cn cs L a ccd) x) Q E s :=
  ldn F hv h (okL_parts hb).1 (okL_parts hb).2.1
theorem st_L {g : Array GenState} {d : Drawn} {tk : Nat} {o : OsState} {hh : Heap} {Q : Unit → Shared → Prop} (F : Fr h₀ L hh m) (N : News h₀ L hh news) (hb : okL cs x = true)
    (h : ∀ h', Fr h₀ L h' (fun y => if y = x then some v else m y) → News h₀ L h' news → Q () ⟨h', g, d, tk + 1, o⟩) : wpAny M A (storeName (envOf cn cs L a ccd) x v) Q E ⟨hh, g, d, tk, o⟩ :=
  stN (s := ⟨hh, g, d, tk, o⟩) F N h (okL_parts hb).1 (okL_parts hb).2.1
end
/-- the place of x among the scope's names -/
def idx (cs : Scope) (x : Str) : Nat := cs.names.findIdx (fun p => p.1 == x)
def locB (cs : Scope) (x : Str) (k : Nat) : Bool := okL cs x && decide (idx cs x = k) && decide (k < cs.names.length)
structure Loc (cs : Scope) (x : Str) (k : Nat) : Prop where
  out : locB cs x k = true
def gloB (K : Frag) (cs : Scope) (x : Str) (v : Value) : Bool := okG cs x && nsIn K mainGlobals x == some (some v)
structure Glo (K : Frag) (cs : Scope) (x : Str) (v : Value) : Prop where
  out : gloB K cs x v = true
def buiB (K : Frag) (cs : Scope) (x : Str) : Bool := okG cs x && nsIn K mainGlobals x == some none && !(x == ("__name__" : Str))
structure Bui (K : Frag) (cs : Scope) (x : Str) (v : Value) : Prop where
  out : buiB K cs x = true
  val : bootBuiltins x = some v
theorem Bui.parts {K : Frag} {cs : Scope} {x : Str} {v : Value} (h : Bui K cs x v) : okG cs x = true ∧ nsIn K mainGlobals x = some none ∧ x ≠ "__name__" := by
  have h := h.out
  simp only [buiB, Bool.and_eq_true, beq_iff_eq, Bool.not_eq_true', beq_eq_false_iff_ne] at h
  exact ⟨h.1.1, h.1.2, h.2⟩
theorem Loc.parts {cs : Scope} {x : Str} {k : Nat} (h : Loc cs x k) : okL cs x = true ∧ idx cs x = k ∧ k < cs.names.length := by
  have h := h.out
  simp only [locB, Bool.and_eq_true, decide_eq_true_eq] at h
  exact ⟨h.1.1, h.1.2, h.2⟩
theorem Glo.parts {K : Frag} {cs : Scope} {x : Str} {v : Value} (h : Glo K cs x v) : okG cs x = true ∧ nsIn K mainGlobals x = some (some v) := by
  have h := h.out
  simp only [gloB, Bool.and_eq_true, beq_iff_eq] at h
  exact h
theorem idx_inj {cs : Scope} {x y : Str} (h : idx cs x < cs.names.length) (e : idx cs y = idx cs x) : y = x := by
  unfold idx at h e
  have hx := List.findIdx_getElem (xs := cs.names) (p := fun (p : Str × NameKind) => p.1 == x) (w := h)
  have hy := List.findIdx_getElem (xs := cs.names) (p := fun (p : Str × NameKind) => p.1 == y) (w := by rw [e]; exact h)
  have hx := eq_of_beq hx
  have hy := eq_of_beq hy
  rw [← hx, ← hy]
  congr 2
/-- a frame's table, by places -/
abbrev setT (tab : Nat → Option Value) (k : Nat) (v : Value) : Nat → Option Value := fun i => if i = k then some v else tab i
section
variable {M : Model} {A : Around} {E : Value → Shared → Prop} {s : Shared} {K : Frag} {h₀ : Heap} {L a : Addr} {tab : Nat → Option Value} {mg mb : Str → Option Value} {cn : Str} {cs : Scope} {ccd : Value} {p : Program} {loose : List Str} {mean : ExcName → Option Value}
  {x : Str} {pos : Pos} {v : Value} {k : Nat} {news : List (Addr × Obj)}
theorem nm_T {Q : Value → Shared → Prop} (hb : Loc cs x k) (F : Fr h₀ L s.heap (fun y => tab (idx cs y))) (hv : tab k = some v) (h : Q v s) : wpAny M A (eval (.Name x pos) (envOf cn cs L a ccd)) Q E s :=
  nm_L F hb.parts.1 (by rw [hb.parts.2.1]; exact hv) h
theorem ldn_T {Q : Value → Shared → Prop} (hb : Loc cs x k) (F : Fr h₀ L s.heap (fun y => tab (idx cs y))) (hv : tab k = some v) (h : Q v s) : wpAny M A (loadName (envOf cn cs L a ccd) x) Q E s :=
  ldn_L F hb.parts.1 (by rw [hb.parts.2.1]; exact hv) h
theorem nm_G {Q : Value → Shared → Prop} {m : Str → Option Value} (hb : Glo K cs x v) (F : Fr h₀ L s.heap m) (X : K.In h₀) (T : Top p loose mean mg mb h₀) (h : Q v s) : wpAny M A (eval (.Name x pos) (envOf cn cs L a ccd)) Q E s :=
  nm_K F X T hb.parts.1 hb.parts.2 h
theorem nm_B {Q : Value → Shared → Prop} {m : Str → Option Value} (hb : Bui K cs x v) (F : Fr h₀ L s.heap m) (X : K.In h₀) (T : Top p loose mean mg mb h₀) (h : Q v s) : wpAny M A (eval (.Name x pos) (envOf cn cs L a ccd)) Q E s :=
  nameX_B (cl := []) F X (topRead_of T) hb.parts.2.1 hb.val hb.parts.2.2 h (okG_parts hb.parts.1).1 (okG_parts hb.parts.1).2.1 (okG_parts hb.parts.1).2.2
theorem st_T {g : Array GenState} {d : Drawn} {tk : Nat} {o : OsState} {hh : Heap} {Q : Unit → Shared → Prop} (hb : Loc cs x k) (F : Fr h₀ L hh (fun y => tab (idx cs y))) (N : News h₀ L hh news)
    (h : ∀ h', Fr h₀ L h' (fun y => setT tab k v (idx cs y)) → News h₀ L h' news → Q () ⟨h', g, d, tk + 1, o⟩) : wpAny M A (storeName (envOf cn cs L a ccd) x v) Q E ⟨hh, g, d, tk, o⟩ := by
  refine st_L F N hb.parts.1 fun h' F' N' => h h' ?_ N'
  have e : (fun y => if y = x then some v else tab (idx cs y)) = fun y => setT tab k v (idx cs y) := by
    funext y
    unfold setT
    by_cases q : y = x
    · rw [if_pos q, if_pos (by rw [q]; exact hb.parts.2.1)]
    · rw [if_neg q, if_neg (fun r => q (idx_inj (by rw [hb.parts.2.1]; exact hb.parts.2.2) (r.trans hb.parts.2.1.symm)))]
  exact e ▸ F'
end
theorem lookup_rev {y : Str} : ∀ {l : List (Str × Value)}, (l.map (·.1)).Nodup → l.reverse.lookup y = l.lookup y
  | [], _ => rfl
  | (x, v) :: r, h => by
    rw [List.map_cons, List.nodup_cons] at h
    rw [List.reverse_cons, List.lookup_append, lookup_rev h.2, List.lookup_cons]
    by_cases q : y = x
    · subst q
      have : r.lookup y = none := by
        rw [List.lookup_eq_none_iff]
        intro p hp
        rw [bne_iff_ne]
        exact fun e => h.1 (List.mem_map.mpr ⟨p, hp, e.symm⟩)
      simp [this]
    · have e : (y == x) = false := by simpa using q
      simp only [List.lookup_cons, e, List.lookup_nil]
      cases List.lookup y r <;> rfl
theorem lookup_idx {y : Str} : ∀ {l : List (Str × Value)} {ns : List (Str × NameKind)}, l.map (·.1) = (ns.map (·.1)).take l.length → l.lookup y = (l.map (·.2))[ns.findIdx (fun p => p.1 == y)]?
  | [], _, _ => by simp
  | (x, v) :: r, [], h => by simp at h
  | (x, v) :: r, (z, k) :: ns, h => by
    simp only [List.map_cons, List.length_cons, List.take_succ_cons, List.cons.injEq] at h
    obtain ⟨rfl, h⟩ := h
    rw [List.lookup_cons, List.findIdx_cons]
    by_cases q : y = x
    · subst q; simp
    · have e : (y == x) = false := by simpa using q
      have e' : (x == y) = false := by simpa using fun r => q r.symm
      rw [e, e']
      simp only [cond_false, List.map_cons, List.getElem?_cons_succ]
      exact lookup_idx h
def bindsOk (scope : Scope) (binds : List (Str × Value)) : Bool := decide (binds.map (·.1) = (scope.names.map (·.1)).take binds.length) && decide ((binds.map (·.1)).Nodup) && binds.all fun p => scope.names.lookup p.1 == some .local
section
variable {w : World} {A : Around} {E : Value → Shared → Prop} {s : Shared}
  {name qual : Str} {params : Arguments} {body : List Stmt} {scope : Scope} {dV kV doc pm cdv ct oc : Value} {an od : Option Addr} {osl : Array (Option Value)} {f : Addr} {args : List Value} {kw : List (Str × Value)} {n : Nat} {R : Value → Heap → Prop}
/-- a call of one of the text's defs -/
theorem enterN (Ns : Scope → Prop) (binds : List (Str × Value)) (W : Rdy w s.heap) (r : Le A n) (hn : n < 400)
    (ho : (hd.heap_39 w.params).lookup f = some ⟨oc, od, .func (fnOf name qual params body scope dV kV doc pm an cdv ct), osl⟩) (hcd : codeIn (hd.heap_39 w.params) cdv qual = true)
    (hbind : BindsTo s (fnOf name qual params body scope dV kV doc pm an cdv ct) ⟨args, kw⟩ binds) (hok : bindsOk scope binds = true) (hN : Ns scope)
    (h : ∀ cs L h₁ tk, Ns cs → Fr s.heap L h₁ (fun y => (fun i => (binds.map (·.2))[i]?) (idx cs y)) →
      wpAny (model PySem.Challenge.pw_ah5007_01 w) (At (n + 1)) (execs body (envOf qual cs L f cdv))
        (fun fl s' => Back s R (match fl with | .ret v => v | _ => .none) s') (fun _ _ => False) ⟨h₁, s.gens, s.drawn, tk, s.os⟩)
    (hco : scope.isCoroutine = false := by rfl) (hgen : scope.isGenerator = false := by rfl) (hk : scope.kind = .function := by rfl)
    (hcell : ∀ x ∈ scope.names, x.2 ≠ .cell := by decide) :
    wpAny (model PySem.Challenge.pw_ah5007_01 w) A (call (.ref f) args kw) (Back s R) E s := by
  simp only [bindsOk, Bool.and_eq_true, decide_eq_true_eq, List.all_eq_true, beq_iff_eq] at hok
  refine enter W r hn ho hcd hbind hok.2 (fun L h₁ F => h scope L h₁ _ hN ?_) hco hgen hk hcell
  have e : (fun y => binds.reverse.lookup y) = fun y => (fun i => (binds.map (·.2))[i]?) (idx scope y) := by
    funext y
    rw [lookup_rev hok.1.2]
    exact lookup_idx hok.1.1
  exact e ▸ F
end
/-! two or three names stored at once -/
def tsNames (line : Nat) (ts : List Expr) : List Str := ts.filterMap fun
  | .Name id pos => if pos.line == line then some id else none
  | _ => none
def swapOk (ts vs : List Expr) (names : List Str) : Bool :=
  (ts.length == 2 || ts.length == 3) && vs.length == ts.length && !(vs.any fun | .Starred .. => true | _ => false) && decide (tsNames ((ts.head?.map (·.pos.line)).getD 0) ts = names) && names.length == ts.length && names.eraseDups.length == names.length &&
    !(vs.all (foldedForSure 8)) && !(vs.all (constantsAlone 8))
theorem ts_eq {env : Env} {line : Nat} : ∀ {ts : List Expr}, (∀ x ∈ tsNames line ts, env.kindOf x = some .local) → (ts.filterMap fun
      | .Name id pos => if env.kindOf id == some .local && pos.line == line then some id else none
      | _ => none) = tsNames line ts
  | [], _ => rfl
  | t :: r, h => by
    cases t with
    | Name id pos =>
      by_cases q : pos.line = line
      · have e1 : tsNames line (.Name id pos :: r) = id :: tsNames line r := by simp [tsNames, q]
        rw [e1] at h ⊢
        have := h id (.head _)
        rw [List.filterMap_cons, ts_eq fun x hx => h x (.tail _ hx)]
        simp [q, this]
      · have e1 : tsNames line (.Name id pos :: r) = tsNames line r := by simp [tsNames, q]
        rw [e1] at h ⊢
        rw [List.filterMap_cons, ts_eq h]
        simp [q]
    | _ => exact ts_eq (ts := r) h
theorem swap_of {cn : Str} {cs : Scope} {L a : Addr} {ccd : Value} {ts vs : List Expr} {names : List Str} {c c2 : _} {tp vp : Pos} (hk : cs.kind = .function) (hl : ∀ x ∈ names, cs.names.lookup x = some .local) (hc : swapOk ts vs names = true) :
    swappedStores [.Tuple ts c tp] (.Tuple vs c2 vp) (envOf cn cs L a ccd) = pure (some names) := by
  simp only [swapOk, Bool.and_eq_true, decide_eq_true_eq, beq_iff_eq, Bool.not_eq_true'] at hc
  obtain ⟨⟨⟨⟨⟨⟨⟨h1, h2⟩, h3⟩, h4⟩, h5⟩, h6⟩, h7⟩, h8⟩ := hc
  have hb : (envOf cn cs L a ccd).blockKind = .function := by show (if cs.kind.isAnnotationScope then ScopeKind.function else cs.kind) = _; rw [hk]; rfl
  have hn := ts_eq (env := envOf cn cs L a ccd) (line := (ts.head?.map (·.pos.line)).getD 0) (ts := ts) (by rw [h4]; exact hl)
  rw [h4] at hn
  unfold swappedStores
  simp only
  rw [if_neg (by rw [h1, h2, hb]; simp)]
  refine (if_neg (fun q => absurd (h3.symm.trans q) Bool.false_ne_true)).trans ?_
  refine (if_neg (fun q => ?_)).trans ?_
  · have q' : (names.length != ts.length || names.eraseDups.length != names.length) = true := by rw [← hn]; exact q
    rw [h6, h5] at q'
    simp at q'
  refine (if_neg (fun q => absurd (h7.symm.trans q) Bool.false_ne_true)).trans ?_
  refine (if_neg (fun q => absurd (h8.symm.trans q) Bool.false_ne_true)).trans ?_
  exact congrArg (fun z => (pure (some z) : Sem (Option (List Str)))) hn
section
variable {M : Model} {A : Around} {E : Value → Shared → Prop} {s : Shared} {cn : Str} {cs : Scope} {L a : Addr} {ccd : Value} {vs : List Expr} {c c2 : _} {tp vp pos p1 p2 p3 : Pos} {n1 n2 n3 : Str} {k1 k2 k3 : Nat} {Q : Flow → Shared → Prop}
theorem asg_loc2 (l1 : Loc cs n1 k1) (l2 : Loc cs n2 k2) : ∀ x ∈ [n1, n2], cs.names.lookup x = some .local := by
  intro x hx
  rcases List.mem_cons.mp hx with rfl | hx
  · exact (okL_parts l1.parts.1).2.1
  · rw [List.mem_singleton.mp hx]; exact (okL_parts l2.parts.1).2.1
theorem asg_loc3 (l1 : Loc cs n1 k1) (l2 : Loc cs n2 k2) (l3 : Loc cs n3 k3) : ∀ x ∈ [n1, n2, n3], cs.names.lookup x = some .local := by
  intro x hx
  rcases List.mem_cons.mp hx with rfl | hx
  · exact (okL_parts l1.parts.1).2.1
  · exact asg_loc2 l2 l3 x hx
theorem asg2 (l1 : Loc cs n1 k1) (l2 : Loc cs n2 k2) (hc : swapOk [.Name n1 p1, .Name n2 p2] vs [n1, n2] = true)
    (h : wpAny M A (eval (.Tuple vs c2 vp) (envOf cn cs L a ccd)) (fun v s₁ => wpAny M A (unpackItems v 2 none) (fun items s₂ => wpAny M A (assignInOrder [bindName (envOf cn cs L a ccd) n2, bindName (envOf cn cs L a ccd) n1] items.reverse) (fun _ => Q .next) E s₂) E s₁) E s) :
    wpAny M A (exec (.Assign [.Tuple [.Name n1 p1, .Name n2 p2] c tp] (.Tuple vs c2 vp) pos) (envOf cn cs L a ccd)) Q E s := by
  have hw := swap_of (c := c) (c2 := c2) (tp := tp) (vp := vp) (cn := cn) (L := L) (a := a) (ccd := ccd) (vs := vs) (okL_parts l1.parts.1).1 (asg_loc2 l1 l2) hc
  have hs : swapsWithSole [.Tuple [.Name n1 p1, .Name n2 p2] c tp] (.Tuple vs c2 vp) pos.line (envOf cn cs L a ccd) = pure false := rfl
  refine Assign_Tuple_swapped (names := [n1, n2]) ?_ hs hw
  exact h
theorem asg3 (l1 : Loc cs n1 k1) (l2 : Loc cs n2 k2) (l3 : Loc cs n3 k3) (hc : swapOk [.Name n1 p1, .Name n2 p2, .Name n3 p3] vs [n1, n2, n3] = true)
    (h : wpAny M A (eval (.Tuple vs c2 vp) (envOf cn cs L a ccd)) (fun v s₁ => wpAny M A (unpackItems v 3 none) (fun items s₂ => wpAny M A (assignInOrder [bindName (envOf cn cs L a ccd) n3, bindName (envOf cn cs L a ccd) n2, bindName (envOf cn cs L a ccd) n1] items.reverse) (fun _ => Q .next) E s₂) E s₁) E s) :
    wpAny M A (exec (.Assign [.Tuple [.Name n1 p1, .Name n2 p2, .Name n3 p3] c tp] (.Tuple vs c2 vp) pos) (envOf cn cs L a ccd)) Q E s := by
  have hw := swap_of (c := c) (c2 := c2) (tp := tp) (vp := vp) (cn := cn) (L := L) (a := a) (ccd := ccd) (vs := vs) (okL_parts l1.parts.1).1 (asg_loc3 l1 l2 l3) hc
  have hs : swapsWithSole [.Tuple [.Name n1 p1, .Name n2 p2, .Name n3 p3] c tp] (.Tuple vs c2 vp) pos.line (envOf cn cs L a ccd) = pure false := rfl
  refine Assign_Tuple_swapped (names := [n1, n2, n3]) ?_ hs hw
  exact h
end
section
variable {Mo : Model} {A : Around} {E : Value → Shared → Prop} {s : Shared} {env : Env} {Q : Flow → Shared → Prop}
theorem execs_app : ∀ (a b : List Stmt), execs (a ++ b) env = (execs a env >>= fun f => match f with | .next => execs b env | f => pure f)
  | [], b => by rw [List.nil_append, execs_nil, pure_bind]
  | st :: a, b => by
    rw [List.cons_append, execs_cons, execs_cons, bind_assoc]
    congr 1
    funext f
    cases f <;> first | exact execs_app a b | simp
/-- the body's first n statements, what holds then, the others -/
theorem seq_at (n : Nat) {body : List Stmt} (R : Shared → Prop) (h1 : wpAny Mo A (execs (body.take n) env) (fun f s' => f = .next ∧ R s') E s)
    (h2 : ∀ s', R s' → wpAny Mo A (execs (body.drop n) env) Q E s') : wpAny Mo A (execs body env) Q E s := by
  rw [← List.take_append_drop n body, execs_app]
  refine wpAny_bind (wpAny_mono h1 (fun f s' h => ?_) fun _ _ x => x)
  obtain ⟨rfl, hr⟩ := h
  exact h2 s' hr
end
/-- a frame's place holds an int -/
def HasI (tab : Nat → Option Value) (k : Nat) (x : Int) : Prop := ∃ t, tab k = some (.int x t)
def HasS (tab : Nat → Option Value) (k : Nat) (x : Str) : Prop := ∃ t, tab k = some (.str x t)
/-- between two statements -/
def StT (s : Shared) (cs : Scope) (L : Addr) (P : (Nat → Option Value) → Prop) (s' : Shared) : Prop :=
  ∃ h tk tab news, s' = ⟨h, s.gens, s.drawn, tk, s.os⟩ ∧ Fr s.heap L h (fun y => tab (idx cs y)) ∧ News s.heap L h news ∧ P tab
theorem hasI_of {tab : Nat → Option Value} {k : Nat} {x y : Int} {t : Tok} (e : tab k = some (.int y t)) (h : y = x) : HasI tab k x := ⟨t, h ▸ e⟩
theorem hasS_of {tab : Nat → Option Value} {k : Nat} {x : Str} {t : Tok} (e : tab k = some (.str x t)) : HasS tab k x := ⟨t, e⟩
theorem setT_same {tab : Nat → Option Value} {k : Nat} {v : Value} : setT tab k v k = some v := if_pos rfl
theorem setT_ne {tab : Nat → Option Value} {k i : Nat} {v : Value} {o : Option Value} (h : i ≠ k) (e : tab i = o) : setT tab k v i = o := (if_neg h).trans e
theorem p2bits (k : Nat) : Builtin.Int.intBits ((2 : Int) ^ k) ≤ k + 1 := by
  refine intBits_le_iff.mpr ?_
  rw [Int.natAbs_pow]
  exact Nat.pow_lt_pow_right (by decide) (by omega)
theorem mulp {a e : Int} (ha : Builtin.Int.intBits a ≤ 5000) (he : e ≤ 5000) : IntMulOk a (2 ^ e.toNat) :=
  IntMulOk.of_le ha (Nat.le_trans (p2bits _) (show e.toNat + 1 ≤ 6000 by omega)) (by decide)
theorem mulp_nz {a : Int} {k : Nat} (h : 0 < a) : a * 2 ^ k ≠ 0 := Int.ne_of_gt (Int.mul_pos h (kbt_pos k))
theorem log2_of_bits {b : Int} (h : Builtin.Int.intBits b ≤ 8000) : b.natAbs.log2 < 9000 := by
  by_cases h0 : b = 0
  · subst h0; decide
  · have := intBits_le_iff.mp h
    have h1 := (Nat.log2_lt (by omega : b.natAbs ≠ 0)).mpr this
    omega
theorem mulp_log {a e : Int} (ha : Builtin.Int.intBits a ≤ 2500) (he : e ≤ 5000) : (a * 2 ^ e.toNat).natAbs.log2 < 9000 :=
  log2_of_bits (Nat.le_trans (intBits_mul_le ha (Nat.le_trans (p2bits _) (show e.toNat + 1 ≤ 5500 by omega))) (by decide))
theorem ite_dp {P A B : Prop} [Decidable P] (h : P) (a : A) : if decide P = true then A else B := by rw [if_pos (decide_eq_true h)]; exact a
theorem ite_dn {P A B : Prop} [Decidable P] (h : ¬ P) (a : B) : if decide P = true then A else B := by rw [if_neg (by simpa using h)]; exact a
theorem ite_np {x y : Int} {A B : Prop} (h : x ≠ y) (a : A) : if (x != y) = true then A else B := by rw [if_pos (by simpa using h)]; exact a
theorem ite_nn {x y : Int} {A B : Prop} (h : x = y) (a : B) : if (x != y) = true then A else B := by rw [if_neg (by simpa using h)]; exact a
theorem ite_ep {x y : Int} {A B : Prop} (h : x = y) (a : A) : if (x == y) = true then A else B := by rw [if_pos (by simpa using h)]; exact a
theorem ite_en {x y : Int} {A B : Prop} (h : x ≠ y) (a : B) : if (x == y) = true then A else B := by rw [if_neg (by simpa using h)]; exact a
theorem ite_ns {x y : Int} {A B : Prop} (h1 : x ≠ y → A) (h2 : x = y → B) : if (x != y) = true then A else B := split_ine h1 h2
theorem ite_es {x y : Int} {A B : Prop} (h1 : x = y → A) (h2 : x ≠ y → B) : if (x == y) = true then A else B := split_ieq h1 h2

section
variable {prog : Program} {w : World} {A : Around} {E : Value → Shared → Prop} {Q : Value → Shared → Prop} {a b n : Int} {t u : Tok} {h : Heap} {g : Array GenState} {d : Drawn} {tk : Nat} {o : OsState}
theorem i_add (q : Q (.int (a + b) tk) ⟨h, g, d, tk + 1, o⟩) : wpAny (model prog w) A (binaryOp .Add (.int a t) (.int b u)) Q E ⟨h, g, d, tk, o⟩ := add_int q
theorem i_sub (q : Q (.int (a - b) tk) ⟨h, g, d, tk + 1, o⟩) : wpAny (model prog w) A (binaryOp .Sub (.int a t) (.int b u)) Q E ⟨h, g, d, tk, o⟩ := sub_int q
theorem i_and (q : Q (.int (Builtin.bitAnd a b) tk) ⟨h, g, d, tk + 1, o⟩) : wpAny (model prog w) A (binaryOp .BitAnd (.int a t) (.int b u)) Q E ⟨h, g, d, tk, o⟩ := and_int q
theorem i_shr (hn : 0 ≤ n) (q : Q (.int (a.fdiv (2 ^ n.toNat)) tk) ⟨h, g, d, tk + 1, o⟩) : wpAny (model prog w) A (binaryOp .RShift (.int a t) (.int n u)) Q E ⟨h, g, d, tk, o⟩ := rshift_int hn q
theorem i_const {M : Model} {env : Env} {i : Int} {k : Nat} {pos : Pos} (q : Q (.int i tk) ⟨h, g, d, tk + 1, o⟩) : wpAny M A (eval (.Constant (.int i) k pos) env) Q E ⟨h, g, d, tk, o⟩ := wpAny_Constant_int q
theorem s_const {M : Model} {env : Env} {i : Str} {k : Nat} {pos : Pos} (q : Q (.str i tk) ⟨h, g, d, tk + 1, o⟩) : wpAny M A (eval (.Constant (.str i) k pos) env) Q E ⟨h, g, d, tk, o⟩ := Calls.Constant_str q
theorem i_neg (q : Q (.int (-a) tk) ⟨h, g, d, tk + 1, o⟩) : wpAny (model prog w) A (unaryOp .USub (.int a t)) Q E ⟨h, g, d, tk, o⟩ := neg_int q
theorem i_shl (hn : 0 ≤ n) (hz : (Builtin.Int.intBits a : Int) + n ≤ 2 ^ 27) (q : Q (.int (a * 2 ^ n.toNat) tk) ⟨h, g, d, tk + 1, o⟩) : wpAny (model prog w) A (binaryOp .LShift (.int a t) (.int n u)) Q E ⟨h, g, d, tk, o⟩ := lshift_int hn hz q
theorem i_ishl (hn : 0 ≤ n) (hz : (Builtin.Int.intBits a : Int) + n ≤ 2 ^ 27) (q : Q (.int (a * 2 ^ n.toNat) tk) ⟨h, g, d, tk + 1, o⟩) : wpAny (model prog w) A (inplaceOp .LShift (.int a t) (.int n u)) Q E ⟨h, g, d, tk, o⟩ := ilshift_int hn hz q
theorem i_pow (hn : 0 ≤ n) (hz : (Builtin.Int.intBits a : Int) * n ≤ 2 ^ 27) (q : Q (.int (a ^ n.toNat) tk) ⟨h, g, d, tk + 1, o⟩) : wpAny (model prog w) A (binaryOp .Pow (.int a t) (.int n u)) Q E ⟨h, g, d, tk, o⟩ := pow_int hn hz q
theorem i_mul (hm : IntMulOk a b) (q : Q (.int (a * b) tk) ⟨h, g, d, tk + 1, o⟩) : wpAny (model prog w) A (binaryOp .Mult (.int a t) (.int b u)) Q E ⟨h, g, d, tk, o⟩ := PyProof.Rows.mul_int q hm
theorem i_fdiv (hb : b ≠ 0) (hp : b.natAbs.log2 < 9000) (q : Q (.int (a.fdiv b) tk) ⟨h, g, d, tk + 1, o⟩) : wpAny (model prog w) A (binaryOp .FloorDiv (.int a t) (.int b u)) Q E ⟨h, g, d, tk, o⟩ :=
  PyProof.Rows.floordiv_int hb q (.inl (PyProof.noPylong_of_log2 hp))
theorem i_ifdiv (hb : b ≠ 0) (hp : b.natAbs.log2 < 9000) (q : Q (.int (a.fdiv b) tk) ⟨h, g, d, tk + 1, o⟩) : wpAny (model prog w) A (inplaceOp .FloorDiv (.int a t) (.int b u)) Q E ⟨h, g, d, tk, o⟩ :=
  PyProof.Rows.ifloordiv_int hb q (.inl (PyProof.noPylong_of_log2 hp))
theorem i_mod (hb : b ≠ 0) (q : Q (.int (a.fmod b) tk) ⟨h, g, d, tk + 1, o⟩) : wpAny (model prog w) A (binaryOp .Mod (.int a t) (.int b u)) Q E ⟨h, g, d, tk, o⟩ := mod_int' hb q
theorem i_divmod {h₀ : Heap} {L : Addr} {m : Str → Option Value} {news : List (Addr × Obj)} (F : Fr h₀ L h m) (N : News h₀ L h news) (hb : b ≠ 0) (hp : b.natAbs.log2 < 9000)
    (q : ∀ D h', Fr h₀ L h' m → News h₀ L h' ((D, ({ cls := .type "tuple", data := .seq #[.int (a.fdiv b) tk, .int (a.fmod b) (tk + 1)] } : Obj)) :: news) → Q (.ref D) ⟨h', g, d, tk + 1 + 1, o⟩) :
    wpAny (model prog w) A (call (.builtin "divmod") [.int a t, .int b u]) Q E ⟨h, g, d, tk, o⟩ :=
  divmod_N (s := ⟨h, g, d, tk, o⟩) F N hb (fun h' F' N' => q _ h' F' N') (.inl (PyProof.noPylong_of_log2 hp))
theorem t_new {M : Model} {vs : List Value} {h₀ : Heap} {L : Addr} {m : Str → Option Value} {news : List (Addr × Obj)} (F : Fr h₀ L h m) (N : News h₀ L h news) (hz : vs.length ≤ sizeLine)
    (q : ∀ D h', Fr h₀ L h' m → News h₀ L h' ((D, ({ cls := .type "tuple", data := .seq vs.toArray } : Obj)) :: news) → Q (.ref D) ⟨h', g, d, tk, o⟩) : wpAny M A (newTuple vs) Q E ⟨h, g, d, tk, o⟩ :=
  newTuple_N (s := ⟨h, g, d, tk, o⟩) F N (fun h' F' N' => q _ h' F' N') hz
theorem i_iadd (q : Q (.int (a + b) tk) ⟨h, g, d, tk + 1, o⟩) : wpAny (model prog w) A (inplaceOp .Add (.int a t) (.int b u)) Q E ⟨h, g, d, tk, o⟩ := iadd_int q
theorem i_isub (q : Q (.int (a - b) tk) ⟨h, g, d, tk + 1, o⟩) : wpAny (model prog w) A (inplaceOp .Sub (.int a t) (.int b u)) Q E ⟨h, g, d, tk, o⟩ := isub_int q
theorem i_ishr (hn : 0 ≤ n) (q : Q (.int (a.fdiv (2 ^ n.toNat)) tk) ⟨h, g, d, tk + 1, o⟩) : wpAny (model prog w) A (inplaceOp .RShift (.int a t) (.int n u)) Q E ⟨h, g, d, tk, o⟩ := irshift_int hn q
end
section
variable {M : Model} {A : Around} {E : Value → Shared → Prop} {s : Shared} {Q : Value → Shared → Prop} {h₀ : Heap} {L : Addr} {m : Str → Option Value} {news : List (Addr × Obj)} {R : Value → Heap → Prop} {t : Sem Value}
/-- a call that hands back what its contract says -/
theorem use (F : Fr h₀ L s.heap m) (N : News h₀ L s.heap news) (hc : wpAny M A t (Back s R) E s)
    (h : ∀ v h' tk, Fr h₀ L h' m → News h₀ L h' news → (∀ b o, s.heap.get? b = some o → h'.get? b = some o) → R v h' → Q v { s with heap := h', toks := tk }) : wpAny M A t Q E s := by
  refine wpAny_mono hc (fun v s' hb => ?_) fun _ _ x => x
  obtain ⟨h', tk, rfl, k, hr⟩ := hb
  exact h v h' tk (Fr.through F k) (News.through N k) k hr
/-- a call that hands back a new tuple of four ints -/
theorem useF {x : Mine.M} (F : Fr h₀ L s.heap m) (N : News h₀ L s.heap news) (hc : wpAny M A t (Back s (FreshM s.heap x)) E s)
    (h : ∀ (a : Addr) (t1 t2 t3 t4 : Tok) h' tk, Fr h₀ L h' m → News h₀ L h' ((a, ({ cls := .type "tuple", data := .seq #[.int x.1 t1, .int x.2.1 t2, .int x.2.2.1 t3, .int x.2.2.2 t4] } : Obj)) :: news) → Q (.ref a) { s with heap := h', toks := tk }) :
    wpAny M A t Q E s := by
  refine use F N hc fun v h' tk F' N' k hr => ?_
  obtain ⟨a, t1, t2, t3, t4, rfl, hg, hn⟩ := hr
  refine h a t1 t2 t3 t4 h' tk F' fun p hp => ?_
  rcases List.mem_cons.mp hp with rfl | hp
  · refine ⟨hg, fun e => ?_, ?_⟩
    · obtain ⟨oL, _, _, hL, _⟩ := F.ns
      rw [show a = L from e, hL] at hn; cases hn
    · cases q : h₀.get? a with
      | none => rfl
      | some o => rw [F.keep _ _ q] at hn; cases hn
  · exact N' p hp
/-- the same, with what is said of the four -/
theorem useP {P : Mine.M → Prop} (F : Fr h₀ L s.heap m) (N : News h₀ L s.heap news) (hc : wpAny M A t (Back s fun v h => ∃ z, FreshM s.heap z v h ∧ P z) E s)
    (h : ∀ (z : Mine.M) (a : Addr) (t1 t2 t3 t4 : Tok) h' tk, P z → Fr h₀ L h' m → News h₀ L h' ((a, ({ cls := .type "tuple", data := .seq #[.int z.1 t1, .int z.2.1 t2, .int z.2.2.1 t3, .int z.2.2.2 t4] } : Obj)) :: news) → Q (.ref a) { s with heap := h', toks := tk }) :
    wpAny M A t Q E s := by
  refine use F N hc fun v h' tk F' N' k hr => ?_
  obtain ⟨z, ⟨a, t1, t2, t3, t4, rfl, hg, hn⟩, hp⟩ := hr
  refine h z a t1 t2 t3 t4 h' tk hp F' fun p hp => ?_
  rcases List.mem_cons.mp hp with rfl | hp
  · refine ⟨hg, fun e => ?_, ?_⟩
    · obtain ⟨oL, _, _, hL, _⟩ := F.ns
      rw [show a = L from e, hL] at hn; cases hn
    · cases q : h₀.get? a with
      | none => rfl
      | some o => rw [F.keep _ _ q] at hn; cases hn
  · exact N' p hp
end
theorem kfill_all : (fun (_ : OpenLaw) (_ : Params → Frag) => True) PySem.Challenge.rw_ah5007_01 hd.heap_39 := by
  k_fill
  trivial
set_option maxHeartbeats 4000000
local macro_rules | `(tactic| walk_at "m pad") => `(tactic| skip)
section PartP0
open Builtin.Int (intBits)
theorem p2pos (k : Nat) : (0 : Int) < 2 ^ k := kbt_pos k
theorem bits_iff {x : Int} (h : 0 < x) {m : Nat} : intBits x ≤ m ↔ x < 2 ^ m := by
  rw [intBits_le_iff]
  have e : ((2 ^ m : Nat) : Int) = (2 : Int) ^ m := kbt_cast m
  omega
theorem bits_lt {x : Int} (h : 0 < x) : x < 2 ^ intBits x := (bits_iff h).mp (Nat.le_refl _)
theorem bits_pos {x : Int} (h : 0 < x) : 0 < intBits x := by
  rcases Nat.eq_zero_or_pos (intBits x) with e | e
  · have := (bits_iff h).mp (Nat.le_of_eq e); simp at this; omega
  · exact e
theorem bits_ge {x : Int} (h : 0 < x) : 2 ^ (intBits x - 1) ≤ x := by
  have hp := bits_pos h
  rcases Int.lt_or_le x (2 ^ (intBits x - 1)) with q | q
  · have := (bits_iff h).mpr q; omega
  · exact q
theorem bits_eq {x : Int} (k : Nat) (h1 : 2 ^ k ≤ x) (h2 : x < 2 ^ (k + 1)) : intBits x = k + 1 := by
  have h : 0 < x := Int.lt_of_lt_of_le (p2pos k) h1
  have a := (bits_iff h).mpr h2
  rcases Nat.lt_or_ge k (intBits x) with q | q
  · omega
  · have := (bits_iff h).mp q; omega
theorem bits_mul_pow {x : Int} (h : 0 < x) (k : Nat) : intBits (2 ^ k * x) = intBits x + k := by
  have hp := bits_pos h
  have e : intBits x + k = (intBits x - 1 + k) + 1 := by omega
  rw [e]
  refine bits_eq _ ?_ ?_
  · rw [Int.pow_add, Int.mul_comm]
    exact Int.mul_le_mul_of_nonneg_left (bits_ge h) (Int.le_of_lt (p2pos k))
  · have : intBits x - 1 + k + 1 = k + intBits x := by omega
    rw [this, Int.pow_add]
    exact Int.mul_lt_mul_of_pos_left (bits_lt h) (p2pos k)
theorem bits_pow (k : Nat) : intBits (2 ^ k) = k + 1 := bits_eq k (Int.le_refl _) (by rw [Int.pow_succ]; have := p2pos k; omega)
theorem bits_one : intBits 1 = 1 := by decide

/-- q with its zeros struck, as a number -/
def Stripped (sg q e : Int) (x : M) : Prop := ∃ (k : Nat) (a : Int), q = 2 ^ k * (2 * a + 1) ∧ x = (sg, 2 * a + 1, e + k, ((intBits (2 * a + 1) : Nat) : Int))
theorem odd_parts : ∀ {k j : Nat} {a b : Int}, (2 : Int) ^ k * (2 * a + 1) = 2 ^ j * (2 * b + 1) → k = j ∧ a = b
  | 0, 0, a, b, h => by simp at h; omega
  | 0, j + 1, a, b, h => by
    rw [Int.pow_succ, Int.mul_comm (2 ^ j) 2, Int.mul_assoc] at h
    generalize (2 : Int) ^ j * (2 * b + 1) = z at h
    simp at h; omega
  | k + 1, 0, a, b, h => by
    rw [Int.pow_succ, Int.mul_comm (2 ^ k) 2, Int.mul_assoc] at h
    generalize (2 : Int) ^ k * (2 * a + 1) = z at h
    simp at h; omega
  | k + 1, j + 1, a, b, h => by
    rw [Int.pow_succ, Int.mul_comm (2 ^ k) 2, Int.mul_assoc, Int.pow_succ, Int.mul_comm (2 ^ j) 2, Int.mul_assoc] at h
    have := odd_parts (k := k) (j := j) (a := a) (b := b) (by omega)
    omega
theorem Stripped.unique {sg q e : Int} {x y : M} (h : Stripped sg q e x) (g : Stripped sg q e y) : x = y := by
  obtain ⟨k, a, rfl, rfl⟩ := h
  obtain ⟨j, b, h, rfl⟩ := g
  obtain ⟨rfl, rfl⟩ := odd_parts h
  rfl
theorem odd_split : ∀ (n : Nat) (q : Int), 0 < q → q.toNat ≤ n → ∃ (k : Nat) (a : Int), q = 2 ^ k * (2 * a + 1) ∧ 0 ≤ a
  | 0, q, h, hn => by omega
  | n + 1, q, h, hn => by
    rcases (show q % 2 = 0 ∨ q % 2 = 1 by omega) with e | e
    · obtain ⟨k, a, hq, ha⟩ := odd_split n (q / 2) (by omega) (by omega)
      refine ⟨k + 1, a, ?_, ha⟩
      rw [Int.pow_succ, Int.mul_comm (2 ^ k) 2, Int.mul_assoc, ← hq]; omega
    · exact ⟨0, q / 2, by simp; omega, by omega⟩
open Classical in
/-- the number sg, q * 2^e -/
noncomputable def mk (sg q e : Int) : M := if h : ∃ x, Stripped sg q e x then Classical.choose h else mZ
theorem mk_eq {sg q e : Int} {x : M} (h : Stripped sg q e x) : mk sg q e = x := by
  have hx : ∃ x, Stripped sg q e x := ⟨x, h⟩
  unfold mk
  rw [dif_pos hx]
  exact (Classical.choose_spec hx).unique h
theorem mk_stripped {sg q e : Int} (h : 0 < q) : Stripped sg q e (mk sg q e) := by
  obtain ⟨k, a, hq, _⟩ := odd_split _ q h (Nat.le_refl _)
  have : Stripped sg q e (sg, 2 * a + 1, e + k, ((intBits (2 * a + 1) : Nat) : Int)) := ⟨k, a, hq, rfl⟩
  rw [mk_eq this]
  exact this
theorem mk_shift {sg q e : Int} (h : 0 < q) (j : Nat) : mk sg (2 ^ j * q) e = mk sg q (e + j) := by
  obtain ⟨k, a, hq, hx⟩ := mk_stripped (sg := sg) (e := e + j) h
  rw [hx]
  refine mk_eq ⟨j + k, a, ?_, ?_⟩
  · rw [hq, Int.pow_add, Int.mul_assoc]
  · congr 2; rw [Int.add_assoc]; congr 1
theorem mk_odd {sg q e : Int} (h : q % 2 = 1) : mk sg q e = (sg, q, e, ((intBits q : Nat) : Int)) := by
  have e1 : q = 2 ^ 0 * (2 * (q / 2) + 1) := by simp; omega
  have e2 : 2 * (q / 2) + 1 = q := by omega
  refine mk_eq ⟨0, q / 2, e1, ?_⟩
  rw [e2]; simp
theorem mk_sign {sg q e : Int} (h : 0 < q) : (mk sg q e).1 = sg := by
  obtain ⟨k, a, hq, hx⟩ := mk_stripped (sg := sg) (e := e) h
  rw [hx]

/-- the rounded quotient of man by 2^n -/
def rq (rnd : Str) (sg man : Int) (n : Nat) : Int :=
  if rnd = Str.ofString "n" then (if 2 ^ n < 2 * (man % 2 ^ n) ∨ (2 * (man % 2 ^ n) = 2 ^ n ∧ man / 2 ^ n % 2 = 1) then man / 2 ^ n + 1 else man / 2 ^ n)
  else if (rnd = Str.ofString "u" ∨ (rnd = Str.ofString "c" ∧ sg = 0) ∨ (rnd = Str.ofString "f" ∧ sg = 1)) ∧ 0 < man % 2 ^ n then man / 2 ^ n + 1 else man / 2 ^ n
theorem rq_zero (rnd : Str) (sg man : Int) : rq rnd sg man 0 = man := by
  unfold rq
  simp
theorem rq_or (rnd : Str) (sg man : Int) (n : Nat) : rq rnd sg man n = man / 2 ^ n ∨ rq rnd sg man n = man / 2 ^ n + 1 := by
  unfold rq
  repeat' split
  all_goals simp
/-- a number of b bits cut to p of them -/
theorem cut_bits {man : Int} {n p : Nat} (h : 0 < man) (hp : 0 < p) (hb : intBits man = n + p) : 2 ^ (p - 1) ≤ man / 2 ^ n ∧ man / 2 ^ n < 2 ^ p := by
  have h1 := bits_ge h
  have h2 := bits_lt h
  rw [hb] at h1 h2
  constructor
  · refine Int.le_ediv_of_mul_le (p2pos n) ?_
    have e : n + p - 1 = (p - 1) + n := by omega
    rw [e, Int.pow_add] at h1
    exact h1
  · refine Int.ediv_lt_of_lt_mul (p2pos n) ?_
    rw [Nat.add_comm, Int.pow_add] at h2
    exact h2

/-! normalize: what the walk leaves, and the number -/
theorem odd_of_and {q : Int} (h : Builtin.bitAnd q 1 ≠ 0) : q % 2 = 1 := by rw [bitAnd_m1] at h; omega
theorem even_of_and {q : Int} (h : Builtin.bitAnd q 1 = 0) : q % 2 = 0 := by rw [bitAnd_m1] at h; omega
/-- b is q's length, or q is a power of two -/
def Bok (q b : Int) : Prop := b = ((intBits q : Nat) : Int) ∨ ∃ j : Nat, q = 2 ^ j
theorem pow_odd {q : Int} {j : Nat} (h : q % 2 = 1) (e : q = 2 ^ j) : q = 1 := by
  cases j with
  | zero => simpa using e
  | succ j => rw [Int.pow_succ] at e; omega
theorem nrm1 {sg q e b : Int} (hb : Bok q b) (ho : Builtin.bitAnd q 1 ≠ 0) (h1 : ¬ q = 1) : mk sg q e = (sg, q, e, b) := by
  have o := odd_of_and ho
  rcases hb with rfl | ⟨j, hj⟩
  · exact mk_odd o
  · exact absurd (pow_odd o hj) h1
theorem nrm2 {sg q e : Int} (h1 : q = 1) : mk sg q e = (sg, q, e, 1) := by
  subst h1
  exact mk_odd (by decide)
theorem fdiv_part {q a : Int} {k : Nat} (hq : q = 2 ^ k * (2 * a + 1)) : q.fdiv (2 ^ k) = 2 * a + 1 := by
  rw [Int.fdiv_eq_ediv_of_nonneg _ (Int.le_of_lt (p2pos k)), hq, Int.mul_ediv_cancel_left _ (Int.ne_of_gt (p2pos k))]
theorem nrm3 {sg q e b a : Int} {k : Nat} (hp : 0 < q) (hb : Bok q b) (hq : q = 2 ^ k * (2 * a + 1)) (h1 : ¬ q.fdiv (2 ^ k) = 1) : mk sg q e = (sg, q.fdiv (2 ^ k), e + k, b - k) := by
  have hf := fdiv_part hq
  rw [hf] at h1 ⊢
  have ha : 0 < 2 * a + 1 := by
    rcases Int.lt_or_le 0 (2 * a + 1) with h | h
    · exact h
    · have := Int.mul_nonpos_of_nonneg_of_nonpos (Int.le_of_lt (p2pos k)) h; omega
  refine mk_eq ⟨k, a, hq, ?_⟩
  rcases hb with rfl | ⟨j, hj⟩
  · rw [hq, bits_mul_pow ha]; congr 3; omega
  · exfalso
    have e1 : (2 : Int) ^ k * (2 * a + 1) = 2 ^ j * (2 * 0 + 1) := by rw [← hq, hj]; omega
    have := odd_parts e1
    omega
theorem nrm4 {sg q e a : Int} {k : Nat} (hq : q = 2 ^ k * (2 * a + 1)) (h1 : q.fdiv (2 ^ k) = 1) : mk sg q e = (sg, q.fdiv (2 ^ k), e + k, 1) := by
  have hf := fdiv_part hq
  rw [hf] at h1 ⊢
  refine mk_eq ⟨k, a, hq, ?_⟩
  rw [h1, bits_one]; rfl

theorem fdivp (x : Int) (n : Nat) : x.fdiv (2 ^ n) = x / 2 ^ n := Int.fdiv_eq_ediv_of_nonneg _ (Int.le_of_lt (p2pos n))
theorem neg_fdiv_neg {x : Int} (n : Nat) : -((-x).fdiv (2 ^ n)) = if 0 < x % 2 ^ n then x / 2 ^ n + 1 else x / 2 ^ n := by
  rw [fdivp]
  have hp := p2pos n
  generalize (2 : Int) ^ n = u at hp
  have hx := Int.mul_ediv_add_emod x u
  have h0 := Int.emod_nonneg x (Int.ne_of_gt hp)
  have h1 := Int.emod_lt_of_pos x hp
  split
  · have : -x / u = -(x / u) - 1 := (Int.ediv_emod_unique (r := u - x % u) hp |>.mpr ⟨by rw [Int.mul_sub, Int.mul_neg]; omega, by omega, by omega⟩).1
    omega
  · have : -x / u = -(x / u) := (Int.ediv_emod_unique (r := 0) hp |>.mpr ⟨by rw [Int.mul_neg]; omega, by omega, by omega⟩).1
    omega
theorem rq_bok {rnd : Str} {sg man : Int} {n p : Nat} (h : 0 < man) (hp : 0 < p) (hb : intBits man = n + p) : 0 < rq rnd sg man n ∧ Bok (rq rnd sg man n) (p : Int) := by
  obtain ⟨c1, c2⟩ := cut_bits h hp hb
  have hpp := p2pos (p - 1)
  have e : p - 1 + 1 = p := by omega
  rcases rq_or rnd sg man n with q | q <;> rw [q]
  · refine ⟨by omega, .inl ?_⟩
    rw [bits_eq (p - 1) c1 (by rw [e]; exact c2), e]
  · refine ⟨by omega, ?_⟩
    by_cases hc : man / 2 ^ n + 1 = 2 ^ p
    · exact .inr ⟨p, hc⟩
    · left
      rw [bits_eq (p - 1) (by omega) (by rw [e]; omega), e]
/-- nearest: by the half and the bit -/
theorem near_parts {man : Int} (n : Nat) (hn : 0 < n) :
    (man.fdiv (2 ^ (n - 1))).fdiv (2 ^ 1) = man / 2 ^ n ∧
    (Builtin.bitAnd (man.fdiv (2 ^ (n - 1))) 1 = 0 ↔ 2 * (man % 2 ^ n) < 2 ^ n) ∧
    (Builtin.bitAnd (man.fdiv (2 ^ (n - 1))) 2 = 0 ↔ man / 2 ^ n % 2 = 0) ∧
    (Builtin.bitAnd (man.fdiv (2 ^ (n - 1))) 1 ≠ 0 → (Builtin.bitAnd man (1 * 2 ^ (n - 1) - 1) = 0 ↔ 2 * (man % 2 ^ n) = 2 ^ n)) := by
  obtain ⟨k, rfl⟩ : ∃ k, n = k + 1 := ⟨n - 1, by omega⟩
  have hp := p2pos k
  simp only [Nat.add_sub_cancel, fdivp, Int.pow_succ, Int.pow_zero, Int.one_mul]
  rw [kbt_mask]
  have b1 := bitAnd_m1 (man / 2 ^ k)
  have b2 := kbt_bit (man / 2 ^ k) 1
  simp only [Int.pow_succ, Int.pow_zero, Int.one_mul] at b2
  rw [b1, b2]
  generalize (2 : Int) ^ k = u at hp
  have hx := Int.mul_ediv_add_emod man u
  have h0 := Int.emod_nonneg man (Int.ne_of_gt hp)
  have h1 := Int.emod_lt_of_pos man hp
  generalize hv : man / u = v at *
  generalize hw : man % u = r at *
  have e : man / (u * 2) = v / 2 ∧ man % (u * 2) = r + u * (v % 2) := by
    refine (Int.ediv_emod_unique (by omega)).mpr ⟨?_, ?_, ?_⟩
    · have e1 : u * 2 * (v / 2) + u * (v % 2) = u * v := by
        rw [Int.mul_assoc, ← Int.mul_add]; congr 1; omega
      omega
    · have : 0 ≤ u * (v % 2) := Int.mul_nonneg (by omega) (by omega)
      omega
    · rcases (show v % 2 = 0 ∨ v % 2 = 1 by omega) with q | q <;> rw [q] <;> omega
  rw [e.1, e.2]
  refine ⟨Int.fdiv_eq_ediv_of_nonneg _ (by decide), ?_, ?_, ?_⟩
  · rcases (show v % 2 = 0 ∨ v % 2 = 1 by omega) with q | q <;> rw [q] <;> omega
  · omega
  · intro q
    have q : v % 2 = 1 := by omega
    rw [q]; omega

/-- the ways of rounding, as the walk writes them -/
theorem near_all {man d : Int} (h : 0 < d) (sg : Int) :
    (0 < man / 2 ^ d.toNat → 0 < (man.fdiv (2 ^ (d - 1).toNat)).fdiv (2 ^ (1 : Int).toNat)) ∧
    (0 < man / 2 ^ d.toNat → 0 < (man.fdiv (2 ^ (d - 1).toNat)).fdiv (2 ^ (1 : Int).toNat) + 1) ∧
    (Builtin.bitAnd (man.fdiv (2 ^ (d - 1).toNat)) 1 = 0 → rq (Str.ofString "n") sg man d.toNat = (man.fdiv (2 ^ (d - 1).toNat)).fdiv (2 ^ (1 : Int).toNat)) ∧
    (Builtin.bitAnd (man.fdiv (2 ^ (d - 1).toNat)) 1 ≠ 0 → Builtin.bitAnd (man.fdiv (2 ^ (d - 1).toNat)) 2 ≠ 0 → rq (Str.ofString "n") sg man d.toNat = (man.fdiv (2 ^ (d - 1).toNat)).fdiv (2 ^ (1 : Int).toNat) + 1) ∧
    (Builtin.bitAnd (man.fdiv (2 ^ (d - 1).toNat)) 1 ≠ 0 → Builtin.bitAnd man (1 * 2 ^ (d - 1).toNat - 1) ≠ 0 → rq (Str.ofString "n") sg man d.toNat = (man.fdiv (2 ^ (d - 1).toNat)).fdiv (2 ^ (1 : Int).toNat) + 1) ∧
    (Builtin.bitAnd (man.fdiv (2 ^ (d - 1).toNat)) 1 ≠ 0 → Builtin.bitAnd (man.fdiv (2 ^ (d - 1).toNat)) 2 = 0 → Builtin.bitAnd man (1 * 2 ^ (d - 1).toNat - 1) = 0 → rq (Str.ofString "n") sg man d.toNat = (man.fdiv (2 ^ (d - 1).toNat)).fdiv (2 ^ (1 : Int).toNat)) := by
  obtain ⟨p1, p2, p3, p4⟩ := near_parts (man := man) d.toNat (by omega)
  rw [show d.toNat - 1 = (d - 1).toNat by omega] at p1 p2 p3 p4
  rw [show ((1 : Int).toNat) = 1 from rfl, p1]
  refine ⟨fun q => q, fun q => by omega, fun a => ?_, fun a b => ?_, fun a b => ?_, fun a b c => ?_⟩ <;> unfold rq <;> rw [if_pos rfl]
  · have := p2.mp a
    rw [if_neg (by omega)]
  · have h1 : ¬ 2 * (man % 2 ^ d.toNat) < 2 ^ d.toNat := fun q => a (p2.mpr q)
    have h2 : ¬ man / 2 ^ d.toNat % 2 = 0 := fun q => b (p3.mpr q)
    rw [if_pos (by omega)]
  · have h1 : ¬ 2 * (man % 2 ^ d.toNat) < 2 ^ d.toNat := fun q => a (p2.mpr q)
    have h2 : ¬ 2 * (man % 2 ^ d.toNat) = 2 ^ d.toNat := fun q => b ((p4 a).mpr q)
    rw [if_pos (by omega)]
  · have h1 := p3.mp b
    have h2 := (p4 a).mp c
    rw [if_neg (by omega)]
theorem down_all {man d : Int} {rnd : Str} {sg : Int} (hn : rnd ≠ Str.ofString "n") (h : ¬ (rnd = Str.ofString "u" ∨ (rnd = Str.ofString "c" ∧ sg = 0) ∨ (rnd = Str.ofString "f" ∧ sg = 1))) : rq rnd sg man d.toNat = man.fdiv (2 ^ d.toNat) := by
  unfold rq
  rw [if_neg hn, if_neg (fun q => h q.1), fdivp]
theorem up_all {man d : Int} {rnd : Str} {sg : Int} (hn : rnd ≠ Str.ofString "n") (h : rnd = Str.ofString "u" ∨ (rnd = Str.ofString "c" ∧ sg = 0) ∨ (rnd = Str.ofString "f" ∧ sg = 1)) : rq rnd sg man d.toNat = -((-man).fdiv (2 ^ d.toNat)) := by
  unfold rq
  rw [if_neg hn, neg_fdiv_neg]
  by_cases q : 0 < man % 2 ^ d.toNat
  · rw [if_pos ⟨h, q⟩, if_pos q]
  · rw [if_neg (fun r => q r.2), if_neg q]
end PartP0
local macro_rules | `(tactic| walk_at "m pad") => `(tactic| skip)
section PartP1
open Builtin.Int (intBits)
/-- the sign of a gap -/
def sgnZ (g : Int) : Int := if g = 0 then 0 else if 0 < g then 1 else -1
abbrev sm (x : M) : Int := if x.1 = 1 then -x.2.1 else x.2.1
abbrev wA (x : M) : Int := if 0 ≤ x.2.2.1 then sm x * 2 ^ x.2.2.1.toNat else sm x
abbrev wB (x : M) : Int := if 0 ≤ x.2.2.1 then 1 else 2 ^ (-x.2.2.1).toNat
abbrev gapF (x y : M) : Int := wA x * wB y - wA y * wB x
/-- the order of two, none of them no number -/
def ordF (x y : M) : Int := if x = y then 0 else if x = mInf ∨ y = mNinf then 1 else if x = mNinf ∨ y = mInf then -1 else sgnZ (gapF x y)
/-- a finite number not 0 -/
structure NzM (x : M) : Prop where
  sg : x.1 = 0 ∨ x.1 = 1
  pos : 0 < x.2.1
  odd : x.2.1 % 2 = 1
  bc : x.2.2.2 = ((intBits x.2.1 : Nat) : Int)
  few : intBits x.2.1 ≤ 70
  lo : -1000 ≤ x.2.2.1
  hi : x.2.2.1 ≤ 1000
def FinM (x : M) : Prop := x = mZ ∨ NzM x
def NumM (x : M) : Prop := FinM x ∨ x = mInf ∨ x = mNinf
theorem sgnZ_mul {c z : Int} (h : 0 < c) : sgnZ (c * z) = sgnZ z := by
  unfold sgnZ
  rcases Int.lt_trichotomy z 0 with q | q | q
  · have : c * z < 0 := Int.mul_neg_of_pos_of_neg h q
    rw [if_neg (by omega), if_neg (by omega), if_neg (by omega), if_neg (by omega)]
  · subst q; simp
  · have : 0 < c * z := Int.mul_pos h q
    rw [if_neg (by omega), if_pos this, if_neg (by omega), if_pos q]
theorem sgnZ_neg (z : Int) : sgnZ (-z) = -sgnZ z := by unfold sgnZ; (repeat' split) <;> omega
/-- the worths, their exponents drawn together -/
theorem gap_up {x y : M} (h : y.2.2.1 ≤ x.2.2.1) : sgnZ (gapF x y) = sgnZ (sm x * 2 ^ (x.2.2.1 - y.2.2.1).toNat - sm y) := by
  have key : ∃ c : Nat, gapF x y = 2 ^ c * (sm x * 2 ^ (x.2.2.1 - y.2.2.1).toNat - sm y) := by
    generalize hx : sm x = a
    generalize hy : sm y = b
    unfold gapF wA wB
    rw [hx, hy]
    generalize x.2.2.1 = e at *
    generalize y.2.2.1 = f at *
    by_cases h1 : 0 ≤ e
    · by_cases h2 : 0 ≤ f
      · refine ⟨f.toNat, ?_⟩
        rw [if_pos h1, if_pos h2, if_pos h1, if_pos h2, Int.mul_one, Int.mul_one, Int.mul_sub]
        have e1 : e.toNat = f.toNat + (e - f).toNat := by omega
        rw [e1, Int.pow_add, Int.mul_comm b]
        congr 1
        rw [Int.mul_left_comm]
      · refine ⟨0, ?_⟩
        rw [if_pos h1, if_neg h2, if_neg h2, if_pos h1, Int.mul_one, Int.pow_zero, Int.one_mul, Int.mul_assoc, ← Int.pow_add]
        congr 3; omega
    · refine ⟨(-e).toNat, ?_⟩
      rw [if_neg h1, if_neg h1, if_neg (by omega), if_neg (by omega), Int.mul_sub, Int.mul_left_comm, ← Int.pow_add, Int.mul_comm b]
      congr 3; omega
  obtain ⟨c, e⟩ := key
  rw [e, sgnZ_mul (p2pos c)]
theorem gap_neg (x y : M) : gapF y x = -gapF x y := by unfold gapF; omega
theorem gap_down {x y : M} (h : x.2.2.1 ≤ y.2.2.1) : sgnZ (gapF x y) = sgnZ (sm x - sm y * 2 ^ (y.2.2.1 - x.2.2.1).toNat) := by
  have e := gap_up (x := y) (y := x) h
  rw [gap_neg, sgnZ_neg] at e
  have e2 : sm x - sm y * 2 ^ (y.2.2.1 - x.2.2.1).toNat = -(sm y * 2 ^ (y.2.2.1 - x.2.2.1).toNat - sm x) := by omega
  rw [e2, sgnZ_neg, ← e, Int.neg_neg]
theorem nz_ne {x : M} (h : NzM x) : x ≠ mZ ∧ x ≠ mInf ∧ x ≠ mNinf ∧ x ≠ mNan ∧ x.2.1 ≠ 0 := by
  have p := h.pos
  refine ⟨?_, ?_, ?_, ?_, by omega⟩ <;> (intro e; rw [e] at p; simp at p)
theorem ord_fin {x y : M} (hx : x ≠ mInf ∧ x ≠ mNinf) (hy : y ≠ mInf ∧ y ≠ mNinf) : ordF x y = if x = y then 0 else sgnZ (gapF x y) := by
  unfold ordF
  split
  · rfl
  · rw [if_neg (by rintro (h | h); exact hx.1 h; exact hy.2 h), if_neg (by rintro (h | h); exact hx.2 h; exact hy.1 h)]
theorem gap_self (x : M) : gapF x x = 0 := by unfold gapF; omega
theorem ord_fin' {x y : M} (hx : x ≠ mInf ∧ x ≠ mNinf) (hy : y ≠ mInf ∧ y ≠ mNinf) : ordF x y = sgnZ (gapF x y) := by
  rw [ord_fin hx hy]
  split
  · rename_i h; rw [h, gap_self]; rfl
  · rfl
theorem sm_pos {x : M} (h : NzM x) : (x.1 = 0 → 0 < sm x) ∧ (x.1 ≠ 0 → sm x < 0) := by
  have := h.pos
  have := h.sg
  unfold sm
  constructor <;> intro q <;> split <;> omega
theorem nz_fin {x : M} (h : NzM x) : x ≠ mInf ∧ x ≠ mNinf := ⟨(nz_ne h).2.1, (nz_ne h).2.2.1⟩
/-- signs part -/
theorem ord_signs {x y : M} (hx : NzM x) (hy : NzM y) (h : x.1 ≠ y.1) : ordF x y = if x.1 = 0 then 1 else -1 := by
  rw [ord_fin' (nz_fin hx) (nz_fin hy)]
  have hxs := hx.sg
  have hys := hy.sg
  have px := sm_pos hx
  have py := sm_pos hy
  have key : ∀ (n : Nat), (x.1 = 0 → 0 < sm x * 2 ^ n - sm y) ∧ (x.1 ≠ 0 → sm x * 2 ^ n - sm y < 0) := by
    intro n
    constructor <;> intro q
    · have := Int.mul_pos (px.1 q) (p2pos n)
      have := py.2 (by omega)
      omega
    · have := Int.mul_neg_of_neg_of_pos (px.2 q) (p2pos n)
      have := py.1 (by omega)
      omega
  have key2 : ∀ (n : Nat), (x.1 = 0 → 0 < sm x - sm y * 2 ^ n) ∧ (x.1 ≠ 0 → sm x - sm y * 2 ^ n < 0) := by
    intro n
    constructor <;> intro q
    · have := px.1 q
      have := Int.mul_neg_of_neg_of_pos (py.2 (by omega)) (p2pos n)
      omega
    · have := px.2 q
      have := Int.mul_pos (py.1 (by omega)) (p2pos n)
      omega
  have fin : ∀ z : Int, (x.1 = 0 → 0 < z) → (x.1 ≠ 0 → z < 0) → sgnZ z = if x.1 = 0 then 1 else -1 := by
    intro z h1 h2
    unfold sgnZ
    by_cases q : x.1 = 0
    · have := h1 q; rw [if_neg (by omega), if_pos this, if_pos q]
    · have := h2 q; rw [if_neg (by omega), if_neg (by omega), if_neg q]
  rcases Int.le_total y.2.2.1 x.2.2.1 with q | q
  · rw [gap_up q]
    exact fin _ (key _).1 (key _).2
  · rw [gap_down q]
    exact fin _ (key2 _).1 (key2 _).2
/-- the sizes, exponents drawn together -/
abbrev cmF (x y : M) : Int := if y.2.2.1 ≤ x.2.2.1 then sgnZ (x.2.1 * 2 ^ (x.2.2.1 - y.2.2.1).toNat - y.2.1) else sgnZ (x.2.1 - y.2.1 * 2 ^ (y.2.2.1 - x.2.2.1).toNat)
theorem ord_same {x y : M} (hx : NzM x) (hy : NzM y) (h : x.1 = y.1) : ordF x y = if x.1 = 0 then cmF x y else -cmF x y := by
  rw [ord_fin' (nz_fin hx) (nz_fin hy)]
  have hxs := hx.sg
  have hs : (x.1 = 0 → sm x = x.2.1 ∧ sm y = y.2.1) ∧ (x.1 ≠ 0 → sm x = -x.2.1 ∧ sm y = -y.2.1) := by
    unfold sm
    constructor <;> intro q
    · rw [if_neg (by omega), if_neg (by omega)]; exact ⟨rfl, rfl⟩
    · rw [if_pos (by omega), if_pos (by omega)]; exact ⟨rfl, rfl⟩
  unfold cmF
  by_cases q : y.2.2.1 ≤ x.2.2.1
  · rw [gap_up q, if_pos q]
    split
    · rw [(hs.1 (by assumption)).1, (hs.1 (by assumption)).2]
    · rw [(hs.2 (by assumption)).1, (hs.2 (by assumption)).2, ← sgnZ_neg]
      congr 1; rw [Int.neg_mul]; omega
  · rw [gap_down (by omega), if_neg q]
    split
    · rw [(hs.1 (by assumption)).1, (hs.1 (by assumption)).2]
    · rw [(hs.2 (by assumption)).1, (hs.2 (by assumption)).2, ← sgnZ_neg]
      congr 1; rw [Int.neg_mul]; omega
theorem p2le {i j : Nat} (h : i ≤ j) : (2 : Int) ^ i ≤ 2 ^ j := by
  obtain ⟨k, rfl⟩ : ∃ k, j = i + k := ⟨j - i, by omega⟩
  rw [Int.pow_add]
  have h1 := p2pos i
  have h2 := p2pos k
  have := Int.mul_le_mul_of_nonneg_left (show (1 : Int) ≤ 2 ^ k by omega) (Int.le_of_lt h1)
  omega
theorem cm_neg (x y : M) : cmF y x = -cmF x y := by
  unfold cmF
  by_cases q : y.2.2.1 ≤ x.2.2.1
  · rw [if_pos q]
    by_cases q' : x.2.2.1 ≤ y.2.2.1
    · have e : x.2.2.1 = y.2.2.1 := by omega
      rw [if_pos q', e, ← sgnZ_neg]
      simp only [Int.sub_self, Int.toNat_zero, Int.pow_zero, Int.mul_one]
      congr 1; omega
    · rw [if_neg q', ← sgnZ_neg]; congr 1; omega
  · rw [if_neg q, if_pos (by omega), ← sgnZ_neg]; congr 1; omega
/-- fewer places before the point: less -/
theorem cm_tops {x y : M} (hx : NzM x) (hy : NzM y) (h : x.2.2.2 + x.2.2.1 < y.2.2.2 + y.2.2.1) : cmF x y = -1 := by
  have bx := bits_lt hx.pos
  have by' := bits_ge hy.pos
  have p := bits_pos hx.pos
  have p' := bits_pos hy.pos
  rw [hx.bc, hy.bc] at h
  unfold cmF
  split
  · rename_i q
    have e1 : x.2.1 * 2 ^ (x.2.2.1 - y.2.2.1).toNat < 2 ^ (intBits x.2.1 + (x.2.2.1 - y.2.2.1).toNat) := by
      rw [Int.pow_add]; exact Int.mul_lt_mul_of_pos_right bx (p2pos _)
    have e2 : (2 : Int) ^ (intBits x.2.1 + (x.2.2.1 - y.2.2.1).toNat) ≤ 2 ^ (intBits y.2.1 - 1) := p2le (by omega)
    unfold sgnZ
    rw [if_neg (by omega), if_neg (by omega)]
  · rename_i q
    have e1 : 2 ^ (intBits y.2.1 - 1 + (y.2.2.1 - x.2.2.1).toNat) ≤ y.2.1 * 2 ^ (y.2.2.1 - x.2.2.1).toNat := by
      rw [Int.pow_add]; exact Int.mul_le_mul_of_nonneg_right by' (Int.le_of_lt (p2pos _))
    have e2 : (2 : Int) ^ (intBits x.2.1) ≤ 2 ^ (intBits y.2.1 - 1 + (y.2.2.1 - x.2.2.1).toNat) := p2le (by omega)
    unfold sgnZ
    rw [if_neg (by omega), if_neg (by omega)]
theorem rq_pos {rnd : Str} {sg man bc prec : Int} (h : 0 < man) (hb : bc = ((intBits man : Nat) : Int)) (hp : 1 ≤ prec) : 0 < rq rnd sg man (bc - prec).toNat := by
  by_cases q : bc - prec ≤ 0
  · rw [show (bc - prec).toNat = 0 by omega, rq_zero]; exact h
  · exact (rq_bok (p := prec.toNat) h (by omega) (by omega)).1
/-- an odd number and an even one -/
theorem even_odd {a b : Int} {d : Int} (hd : 0 < d) (hb : b % 2 = 1) : a * 2 ^ d.toNat - b ≠ 0 ∧ b - a * 2 ^ d.toNat ≠ 0 := by
  obtain ⟨k, hk⟩ : ∃ k, d.toNat = k + 1 := ⟨d.toNat - 1, by omega⟩
  rw [hk, Int.pow_succ, ← Int.mul_assoc]
  generalize a * 2 ^ k = z
  omega
theorem few_diff {a b d : Int} (ha : intBits a ≤ 70) (hb : intBits b ≤ 70) (hd : d ≤ 2000) :
    intBits (a * 2 ^ d.toNat - b) ≤ 5000 ∧ intBits (b - a * 2 ^ d.toNat) ≤ 5000 ∧ intBits (-(a * 2 ^ d.toNat - b)) ≤ 5000 ∧ intBits (-(b - a * 2 ^ d.toNat)) ≤ 5000 := by
  have h1 : intBits ((2 : Int) ^ d.toNat) ≤ d.toNat + 1 := Nat.le_of_eq (bits_pow _)
  have h2 := intBits_mul_le ha h1
  have h3 := intBits_sub_le h2 hb
  have h4 := intBits_sub_le hb h2
  have h5 := intBits_neg_le h3
  have h6 := intBits_neg_le h4
  refine ⟨?_, ?_, ?_, ?_⟩ <;> omega
theorem ord_addU {sg man ex bc man' ex' bc' : Int} (hx : NzM (sg, man, ex, bc)) (hy : NzM (sg, man', ex', bc')) (he : ex' < ex) :
    ordF (sg, man, ex, bc) (sg, man', ex', bc') = if 0 ≤ (if sg = 0 then man * 2 ^ (ex - ex').toNat - man' else man' - man * 2 ^ (ex - ex').toNat) then 1 else -1 := by
  rw [ord_same hx hy rfl]
  obtain ⟨e1, e2⟩ := even_odd (a := man) (b := man') (d := ex - ex') (by omega) hy.odd
  dsimp only [cmF]
  unfold sgnZ
  by_cases hg : sg = 0
  · rw [if_pos hg, if_pos hg]; (repeat' split) <;> omega
  · rw [if_neg hg, if_neg hg]; (repeat' split) <;> omega
theorem ord_addD {sg man ex bc man' ex' bc' : Int} (hx : NzM (sg, man, ex, bc)) (hy : NzM (sg, man', ex', bc')) (he : ex < ex') :
    ordF (sg, man, ex, bc) (sg, man', ex', bc') = if 0 ≤ (if sg = 0 then man - man' * 2 ^ (-(ex - ex')).toNat else man' * 2 ^ (-(ex - ex')).toNat - man) then 1 else -1 := by
  rw [ord_same hx hy rfl]
  obtain ⟨e1, e2⟩ := even_odd (a := man') (b := man) (d := -(ex - ex')) (by omega) hx.odd
  dsimp only [cmF]
  rw [show ex' - ex = -(ex - ex') by omega]
  unfold sgnZ
  by_cases hg : sg = 0
  · rw [if_pos hg, if_pos hg]; (repeat' split) <;> omega
  · rw [if_neg hg, if_neg hg]; (repeat' split) <;> omega

/-! mpf_cmp, way by way -/
theorem sgnZ_pos {g : Int} (h : 0 < g) : sgnZ g = 1 := by unfold sgnZ; rw [if_neg (by omega), if_pos h]
theorem sgnZ_lt {g : Int} (h : g < 0) : sgnZ g = -1 := by unfold sgnZ; rw [if_neg (by omega), if_neg (by omega)]
theorem ord_ex {sg man ex bc man' bc' : Int} (hx : NzM (sg, man, ex, bc)) (hy : NzM (sg, man', ex, bc')) :
    ordF (sg, man, ex, bc) (sg, man', ex, bc') = if man = man' then 0 else if man' < man then (if sg = 0 then 1 else -1) else (if sg = 0 then -1 else 1) := by
  rw [ord_same hx hy rfl]
  dsimp only [cmF]
  rw [show (ex - ex).toNat = 0 by omega]
  unfold sgnZ
  simp only [Int.pow_zero, Int.mul_one]
  by_cases hg : sg = 0
  · rw [if_pos hg, if_pos hg, if_pos hg]; (repeat' split) <;> omega
  · rw [if_neg hg, if_neg hg, if_neg hg]; (repeat' split) <;> omega
theorem ord_tops {sg man ex bc man' ex' bc' : Int} (hx : NzM (sg, man, ex, bc)) (hy : NzM (sg, man', ex', bc')) (h : bc + ex < bc' + ex') :
    ordF (sg, man, ex, bc) (sg, man', ex', bc') = if sg = 0 then -1 else 1 := by
  rw [ord_same hx hy rfl, cm_tops hx hy h]; rfl
theorem ord_tops' {sg man ex bc man' ex' bc' : Int} (hx : NzM (sg, man, ex, bc)) (hy : NzM (sg, man', ex', bc')) (h : bc' + ex' < bc + ex) :
    ordF (sg, man, ex, bc) (sg, man', ex', bc') = if sg = 0 then 1 else -1 := by
  rw [ord_same hx hy rfl, cm_neg, cm_tops hy hx h, Int.neg_neg]
/-- what mpf_sign answers -/
def signF (x : M) : Int := if x.man = 0 then (if x = mInf then 1 else if x = mNinf then -1 else 0) else (-1) ^ x.sg.toNat
theorem num_cases {x : M} (h : NumM x) (hm : x.2.1 = 0) : x = mZ ∨ x = mInf ∨ x = mNinf := by
  rcases h with (h | h) | h | h
  · exact .inl h
  · exact absurd hm (nz_ne h).2.2.2.2
  · exact .inr (.inl h)
  · exact .inr (.inr h)
theorem sign_nz {x : M} (h : NzM x) : signF x = if x.1 = 0 then 1 else -1 := by
  unfold signF
  have := h.pos
  rw [if_neg (by show ¬ x.2.1 = 0; omega)]
  rcases h.sg with q | q <;> (show (-1) ^ x.1.toNat = _) <;> rw [q] <;> rfl
theorem ord_z_l {y : M} (h : NumM y) : ordF mZ y = -signF y := by
  rcases h with (rfl | h) | rfl | rfl
  · decide
  · have n := nz_ne h
    rw [ord_fin' (by decide) (nz_fin h), sign_nz h]
    have e : gapF mZ y = -wA y := by simp [gapF, wA, wB, sm, mZ]
    rw [e, sgnZ_neg]
    congr 1
    have p := sm_pos h
    have hw : (0 < sm y → 0 < wA y) ∧ (sm y < 0 → wA y < 0) := by
      unfold wA
      split
      · exact ⟨fun q => Int.mul_pos q (p2pos _), fun q => Int.mul_neg_of_neg_of_pos q (p2pos _)⟩
      · exact ⟨id, id⟩
    split
    · exact sgnZ_pos (hw.1 (p.1 (by assumption)))
    · exact sgnZ_lt (hw.2 (p.2 (by assumption)))
  · decide
  · decide
theorem ord_neg {x y : M} (hx : NumM x) (hy : NumM y) : ordF y x = -ordF x y := by
  have fin : ∀ {z : M}, FinM z → z ≠ mInf ∧ z ≠ mNinf := by
    rintro z (rfl | h)
    · decide
    · exact nz_fin h
  rcases hx with hx | rfl | rfl <;> rcases hy with hy | rfl | rfl
  · rw [ord_fin' (fin hx) (fin hy), ord_fin' (fin hy) (fin hx), gap_neg, sgnZ_neg]
  · have := fin hx
    unfold ordF
    simp [this.1, this.2, Ne.symm this.1]
  · have := fin hx
    unfold ordF
    simp [this.1, this.2, Ne.symm this.2]
  · have := fin hy
    unfold ordF
    simp [this.1, this.2, Ne.symm this.1]
  · decide
  · decide
  · have := fin hy
    unfold ordF
    simp [this.1, this.2, Ne.symm this.2]
  · decide
  · decide
theorem ord_z_r {x : M} (h : NumM x) : ordF x mZ = signF x := by
  rw [ord_neg (.inl (.inl rfl)) h, ord_z_l h, Int.neg_neg]
section
variable {X Y : M}
theorem sp1 (hy : NumM Y) (h : X = (0, 0, 0, 0)) : -signF Y = ordF X Y := by rw [h]; exact (ord_z_l hy).symm
theorem sp2 (hx : NumM X) (h : Y = (0, 0, 0, 0)) : signF X = ordF X Y := by rw [h]; exact (ord_z_r hx).symm
theorem sp3 (h : X = Y) : 0 = ordF X Y := by rw [h]; unfold ordF; rw [if_pos rfl]
theorem num_nan (hx : NumM X) : X ≠ (0, 0, -123, -1) := by
  rcases hx with (rfl | h) | rfl | rfl
  · decide
  · exact (nz_ne h).2.2.2.1
  · decide
  · decide
theorem sp5 (n : ¬ X = Y) (h : X = (0, 0, -456, -2)) : 1 = ordF X Y := by unfold ordF; rw [if_neg n, if_pos (.inl h)]
theorem sp6 (n : ¬ X = Y) (h : Y = (1, 0, -789, -3)) : 1 = ordF X Y := by unfold ordF; rw [if_neg n, if_pos (.inr h)]
theorem sp7 (hx : NumM X) (hy : NumM Y) (hz : X.2.1 = 0 ∨ Y.2.1 = 0) (a : ¬ X = (0, 0, 0, 0)) (b : ¬ Y = (0, 0, 0, 0)) (n : ¬ X = Y) (c : ¬ X = (0, 0, -456, -2)) (d : ¬ Y = (1, 0, -789, -3)) : -1 = ordF X Y := by
  unfold ordF
  rw [if_neg n, if_neg (by rintro (h | h); exact c h; exact d h), if_pos]
  rcases hz with h | h
  · rcases num_cases hx h with e | e | e
    · exact absurd e a
    · exact absurd e c
    · exact .inl e
  · rcases num_cases hy h with e | e | e
    · exact absurd e b
    · exact .inr e
    · exact absurd e d
end
end PartP1
local macro_rules | `(tactic| walk_at "m pad") => `(tactic| skip)
section PartNm
/-! the names of each def (printed by a program) -/
abbrev Ns21 (w : World) (cs : Scope) : Prop := Loc cs (Str.ofString "n") 0
abbrev Ns37 (w : World) (cs : Scope) : Prop := Loc cs (Str.ofString "sign") 0 ∧ Loc cs (Str.ofString "man") 1 ∧ Loc cs (Str.ofString "exp") 2 ∧ Loc cs (Str.ofString "bc") 3 ∧ Loc cs (Str.ofString "prec") 4 ∧ Loc cs (Str.ofString "rnd") 5 ∧ Loc cs (Str.ofString "n") 6 ∧ Loc cs (Str.ofString "t") 7 ∧ Glo (hd.heap_39 w.params) cs (Str.ofString "fzero") (.ref 22) ∧ Glo (hd.heap_39 w.params) cs (Str.ofString "round_nearest") (.str (Str.ofString "n") 202) ∧ Glo (hd.heap_39 w.params) cs (Str.ofString "MPZ_ONE") (.int 1 189) ∧ Glo (hd.heap_39 w.params) cs (Str.ofString "shifts_down") (.ref 26) ∧ Glo (hd.heap_39 w.params) cs (Str.ofString "trailing") (.ref 21)
abbrev Ns44 (w : World) (cs : Scope) : Prop := Loc cs (Str.ofString "sign") 0 ∧ Loc cs (Str.ofString "man") 1 ∧ Loc cs (Str.ofString "exp") 2 ∧ Loc cs (Str.ofString "bc") 3 ∧ Loc cs (Str.ofString "prec") 4 ∧ Loc cs (Str.ofString "rnd") 5 ∧ Glo (hd.heap_39 w.params) cs (Str.ofString "_normalize") (.ref 37)
abbrev Ns51 (w : World) (cs : Scope) : Prop := Loc cs (Str.ofString "s") 0 ∧ Loc cs (Str.ofString "t") 1 ∧ Glo (hd.heap_39 w.params) cs (Str.ofString "fnan") (.ref 23)
abbrev Ns58 (w : World) (cs : Scope) : Prop := Loc cs (Str.ofString "s") 0 ∧ Loc cs (Str.ofString "t") 1 ∧ Loc cs (Str.ofString "ssign") 2 ∧ Loc cs (Str.ofString "sman") 3 ∧ Loc cs (Str.ofString "sexp") 4 ∧ Loc cs (Str.ofString "sbc") 5 ∧ Loc cs (Str.ofString "tsign") 6 ∧ Loc cs (Str.ofString "tman") 7 ∧ Loc cs (Str.ofString "texp") 8 ∧ Loc cs (Str.ofString "tbc") 9 ∧ Loc cs (Str.ofString "a") 10 ∧ Loc cs (Str.ofString "b") 11 ∧ Loc cs (Str.ofString "delta") 12 ∧ Glo (hd.heap_39 w.params) cs (Str.ofString "fzero") (.ref 22) ∧ Glo (hd.heap_39 w.params) cs (Str.ofString "mpf_sign") (.ref 116) ∧ Glo (hd.heap_39 w.params) cs (Str.ofString "fnan") (.ref 23) ∧ Glo (hd.heap_39 w.params) cs (Str.ofString "finf") (.ref 24) ∧ Glo (hd.heap_39 w.params) cs (Str.ofString "fninf") (.ref 25) ∧ Glo (hd.heap_39 w.params) cs (Str.ofString "mpf_sub") (.ref 132) ∧ Glo (hd.heap_39 w.params) cs (Str.ofString "round_floor") (.str (Str.ofString "f") 204)
abbrev Ns65 (w : World) (cs : Scope) : Prop := Loc cs (Str.ofString "s") 0 ∧ Loc cs (Str.ofString "t") 1 ∧ Glo (hd.heap_39 w.params) cs (Str.ofString "fnan") (.ref 23) ∧ Glo (hd.heap_39 w.params) cs (Str.ofString "mpf_cmp") (.ref 58)
abbrev Ns72 (w : World) (cs : Scope) : Prop := Loc cs (Str.ofString "s") 0 ∧ Loc cs (Str.ofString "t") 1 ∧ Glo (hd.heap_39 w.params) cs (Str.ofString "fnan") (.ref 23) ∧ Glo (hd.heap_39 w.params) cs (Str.ofString "mpf_cmp") (.ref 58)
abbrev Ns79 (w : World) (cs : Scope) : Prop := Loc cs (Str.ofString "s") 0 ∧ Loc cs (Str.ofString "t") 1 ∧ Glo (hd.heap_39 w.params) cs (Str.ofString "fnan") (.ref 23) ∧ Glo (hd.heap_39 w.params) cs (Str.ofString "mpf_cmp") (.ref 58)
abbrev Ns86 (w : World) (cs : Scope) : Prop := Loc cs (Str.ofString "s") 0 ∧ Loc cs (Str.ofString "t") 1 ∧ Glo (hd.heap_39 w.params) cs (Str.ofString "fnan") (.ref 23) ∧ Glo (hd.heap_39 w.params) cs (Str.ofString "mpf_cmp") (.ref 58)
abbrev Ns93 (w : World) (cs : Scope) : Prop := Loc cs (Str.ofString "seq") 0 ∧ Loc cs (Str.ofString "min") 1 ∧ Loc cs (Str.ofString "max") 2 ∧ Loc cs (Str.ofString "x") 3 ∧ Glo (hd.heap_39 w.params) cs (Str.ofString "mpf_lt") (.ref 65) ∧ Glo (hd.heap_39 w.params) cs (Str.ofString "mpf_gt") (.ref 79)
abbrev Ns101 (w : World) (cs : Scope) : Prop := Loc cs (Str.ofString "s") 0 ∧ Loc cs (Str.ofString "prec") 1 ∧ Loc cs (Str.ofString "rnd") 2 ∧ Loc cs (Str.ofString "sign") 3 ∧ Loc cs (Str.ofString "man") 4 ∧ Loc cs (Str.ofString "exp") 5 ∧ Loc cs (Str.ofString "bc") 6 ∧ Glo (hd.heap_39 w.params) cs (Str.ofString "finf") (.ref 24) ∧ Glo (hd.heap_39 w.params) cs (Str.ofString "fninf") (.ref 25) ∧ Glo (hd.heap_39 w.params) cs (Str.ofString "normalize") (.ref 44)
abbrev Ns109 (w : World) (cs : Scope) : Prop := Loc cs (Str.ofString "s") 0 ∧ Loc cs (Str.ofString "prec") 1 ∧ Loc cs (Str.ofString "rnd") 2 ∧ Loc cs (Str.ofString "sign") 3 ∧ Loc cs (Str.ofString "man") 4 ∧ Loc cs (Str.ofString "exp") 5 ∧ Loc cs (Str.ofString "bc") 6 ∧ Glo (hd.heap_39 w.params) cs (Str.ofString "fninf") (.ref 25) ∧ Glo (hd.heap_39 w.params) cs (Str.ofString "finf") (.ref 24) ∧ Glo (hd.heap_39 w.params) cs (Str.ofString "normalize") (.ref 44)
abbrev Ns116 (w : World) (cs : Scope) : Prop := Loc cs (Str.ofString "s") 0 ∧ Loc cs (Str.ofString "sign") 1 ∧ Loc cs (Str.ofString "man") 2 ∧ Loc cs (Str.ofString "exp") 3 ∧ Loc cs (Str.ofString "bc") 4 ∧ Glo (hd.heap_39 w.params) cs (Str.ofString "finf") (.ref 24) ∧ Glo (hd.heap_39 w.params) cs (Str.ofString "fninf") (.ref 25)
abbrev Ns124 (w : World) (cs : Scope) : Prop := Loc cs (Str.ofString "s") 0 ∧ Loc cs (Str.ofString "t") 1 ∧ Loc cs (Str.ofString "prec") 2 ∧ Loc cs (Str.ofString "rnd") 3 ∧ Loc cs (Str.ofString "_sub") 4 ∧ Loc cs (Str.ofString "ssign") 5 ∧ Loc cs (Str.ofString "sman") 6 ∧ Loc cs (Str.ofString "sexp") 7 ∧ Loc cs (Str.ofString "sbc") 8 ∧ Loc cs (Str.ofString "tsign") 9 ∧ Loc cs (Str.ofString "tman") 10 ∧ Loc cs (Str.ofString "texp") 11 ∧ Loc cs (Str.ofString "tbc") 12 ∧ Loc cs (Str.ofString "offset") 13 ∧ Loc cs (Str.ofString "delta") 14 ∧ Loc cs (Str.ofString "man") 15 ∧ Loc cs (Str.ofString "bc") 16 ∧ Glo (hd.heap_39 w.params) cs (Str.ofString "normalize") (.ref 44) ∧ Glo (hd.heap_39 w.params) cs (Str.ofString "mpf_neg") (.ref 101) ∧ Glo (hd.heap_39 w.params) cs (Str.ofString "fnan") (.ref 23)
abbrev Ns132 (w : World) (cs : Scope) : Prop := Loc cs (Str.ofString "s") 0 ∧ Loc cs (Str.ofString "t") 1 ∧ Loc cs (Str.ofString "prec") 2 ∧ Loc cs (Str.ofString "rnd") 3 ∧ Glo (hd.heap_39 w.params) cs (Str.ofString "mpf_add") (.ref 124)
abbrev Ns139 (w : World) (cs : Scope) : Prop := Loc cs (Str.ofString "script") 0 ∧ Loc cs (Str.ofString "k") 1 ∧ Loc cs (Str.ofString "n") 2 ∧ Bui (hd.heap_39 w.params) cs (Str.ofString "len") (.builtin "len")
abbrev Ns146 (w : World) (cs : Scope) : Prop := Loc cs (Str.ofString "rich") 0 ∧ Loc cs (Str.ofString "bits") 1 ∧ Loc cs (Str.ofString "spread") 2 ∧ Loc cs (Str.ofString "kind") 3 ∧ Loc cs (Str.ofString "e") 4 ∧ Loc cs (Str.ofString "m") 5 ∧ Loc cs (Str.ofString "man") 6
abbrev Ns153 (w : World) (cs : Scope) : Prop := Loc cs (Str.ofString "s") 0 ∧ Loc cs (Str.ofString "signed") 1
abbrev Ns160 (w : World) (cs : Scope) : Prop := Loc cs (Str.ofString "above") 0 ∧ Loc cs (Str.ofString "below") 1 ∧ Loc cs (Str.ofString "prec") 2 ∧ Loc cs (Str.ofString "rnd") 3 ∧ Loc cs (Str.ofString "sign") 4 ∧ Loc cs (Str.ofString "size") 5 ∧ Loc cs (Str.ofString "exp") 6 ∧ Loc cs (Str.ofString "whole") 7 ∧ Loc cs (Str.ofString "rest") 8 ∧ Loc cs (Str.ofString "low") 9 ∧ Loc cs (Str.ofString "away") 10 ∧ Bui (hd.heap_39 w.params) cs (Str.ofString "divmod") (.builtin "divmod")
abbrev Ns174 (w : World) (cs : Scope) : Prop := Loc cs (Str.ofString "s") 0 ∧ Loc cs (Str.ofString "t") 1 ∧ Loc cs (Str.ofString "great") 2 ∧ Loc cs (Str.ofString "less") 3 ∧ Loc cs (Str.ofString "none") 4 ∧ Loc cs (Str.ofString "a") 5 ∧ Loc cs (Str.ofString "b") 6 ∧ Loc cs (Str.ofString "gap") 7 ∧ Glo (hd.heap_39 w.params) cs (Str.ofString "_law_others") (.ref 167) ∧ Glo (hd.heap_39 w.params) cs (Str.ofString "_law_worth") (.ref 153)
abbrev Ns181 (w : World) (cs : Scope) : Prop := Loc cs (Str.ofString "s") 0 ∧ Loc cs (Str.ofString "t") 1 ∧ Loc cs (Str.ofString "order") 2 ∧ Loc cs (Str.ofString "told") 3 ∧ Glo (hd.heap_39 w.params) cs (Str.ofString "_law_order") (.ref 174) ∧ Glo (hd.heap_39 w.params) cs (Str.ofString "mpf_eq") (.ref 51) ∧ Glo (hd.heap_39 w.params) cs (Str.ofString "mpf_lt") (.ref 65) ∧ Glo (hd.heap_39 w.params) cs (Str.ofString "mpf_le") (.ref 72) ∧ Glo (hd.heap_39 w.params) cs (Str.ofString "mpf_gt") (.ref 79) ∧ Glo (hd.heap_39 w.params) cs (Str.ofString "mpf_ge") (.ref 86) ∧ Glo (hd.heap_39 w.params) cs (Str.ofString "mpf_cmp") (.ref 58)
abbrev Ns188 (w : World) (cs : Scope) : Prop := Loc cs (Str.ofString "s") 0 ∧ Loc cs (Str.ofString "prec") 1 ∧ Loc cs (Str.ofString "rnd") 2 ∧ Loc cs (Str.ofString "great") 3 ∧ Loc cs (Str.ofString "less") 4 ∧ Loc cs (Str.ofString "none") 5 ∧ Loc cs (Str.ofString "due") 6 ∧ Loc cs (Str.ofString "above") 7 ∧ Loc cs (Str.ofString "below") 8 ∧ Loc cs (Str.ofString "sign") 9 ∧ Glo (hd.heap_39 w.params) cs (Str.ofString "_law_others") (.ref 167) ∧ Glo (hd.heap_39 w.params) cs (Str.ofString "mpf_sign") (.ref 116) ∧ Glo (hd.heap_39 w.params) cs (Str.ofString "mpf_neg") (.ref 101) ∧ Glo (hd.heap_39 w.params) cs (Str.ofString "mpf_abs") (.ref 109) ∧ Glo (hd.heap_39 w.params) cs (Str.ofString "_law_worth") (.ref 153) ∧ Glo (hd.heap_39 w.params) cs (Str.ofString "_law_rounded") (.ref 160) ∧ Bui (hd.heap_39 w.params) cs (Str.ofString "abs") (.builtin "abs")
end PartNm
local macro_rules | `(tactic| walk_at "m pad") => `(tactic| skip)
local macro_rules | `(tactic| walk_at "m look") => `(tactic| first
  | rfl
  | with_reducible assumption
  | with_reducible exact setT_same
  | (with_reducible refine setT_ne ?mlk ?_; (case mlk => decide); walk_at "m look"))
local macro_rules | `(tactic| walk_at "m tup") => `(tactic| first
  | with_reducible assumption
  | exact IsTup.keeps (by with_reducible assumption) (Fr.keep (by with_reducible assumption))
  | exact News.isTup (by with_reducible assumption) (by k_mem)
  | exact kun_topT (by with_reducible assumption) (by with_reducible assumption) (by k_is))
local macro_rules | `(tactic| kun_tup) => `(tactic| walk_at "m tup")
local macro_rules | `(tactic| walk_at "m units") => `(tactic| exact Nat.le_of_ble_eq_true rfl)
local macro_rules | `(tactic| walk_at "m cond") => `(tactic| first | assumption | decide | omega)
local macro_rules | `(tactic| walk_at "compareOp Eq ref ref") => `(tactic| (k_here; (with_reducible show wpAny _ _ (compareOp CmpOp.Eq (Value.ref _) (Value.ref _)) _ _ _); k_dflt (refine' eq_tup4 ?ka ?kb ?ku ?_; (case ka => walk_at "m tup"); (case kb => walk_at "m tup"); (case ku => walk_at "m units"))))
local macro_rules | `(tactic| walk_at "compareOp NotEq ref ref") => `(tactic| (k_here; (with_reducible show wpAny _ _ (compareOp CmpOp.NotEq (Value.ref _) (Value.ref _)) _ _ _); k_dflt (refine' ne_tup4 ?ka ?kb ?ku ?_; (case ka => walk_at "m tup"); (case kb => walk_at "m tup"); (case ku => walk_at "m units"))))
local macro_rules | `(tactic| walk_at "m sizeP") => `(tactic| first | assumption | exact bits_mul_le (by decide) (by first | assumption | omega | decide) (by omega))
local macro_rules | `(tactic| walk_at "m sizeS") => `(tactic| first | assumption | exact bits_add_le (by decide) (by omega))
local macro_rules | `(tactic| walk_at "binaryOp Pow int int") => `(tactic| (k_here; (with_reducible refine i_pow ?kb1 ?kb2 ?_); (case kb1 => walk_at "m cond"); (case kb2 => walk_at "m sizeP")))
local macro_rules | `(tactic| walk_at "binaryOp LShift int int") => `(tactic| (k_here; (with_reducible refine i_shl ?kb1 ?kb2 ?_); (case kb1 => walk_at "m cond"); (case kb2 => walk_at "m sizeS")))
local macro_rules | `(tactic| walk_at "inplaceOp LShift int int") => `(tactic| (k_here; (with_reducible refine i_ishl ?kb1 ?kb2 ?_); (case kb1 => walk_at "m cond"); (case kb2 => walk_at "m sizeS")))
local macro_rules | `(tactic| walk_at "eval Constant int") => `(tactic| with_reducible refine i_const ?_)
local macro_rules | `(tactic| walk_at "eval Constant str") => `(tactic| with_reducible refine s_const ?_)
local macro_rules | `(tactic| walk_at "unaryOp USub int") => `(tactic| with_reducible refine i_neg ?_)
local macro_rules | `(tactic| walk_at "newTuple") => `(tactic| (k_here; k_dflt (refine' t_new ?F ?N ?z ?_; (case F => with_reducible assumption); (case N => with_reducible assumption); (case z => kmk_size)); (intro D' h' F' N'); (try k_sweep)))
local macro_rules | `(tactic| walk_at "binaryOp RShift int int") => `(tactic| (k_here; (with_reducible refine rshift_int ?kb1 ?_); (case kb1 => walk_at "m cond")))
local macro_rules | `(tactic| walk_at "inplaceOp RShift int int") => `(tactic| (k_here; (with_reducible refine irshift_int ?kb1 ?_); (case kb1 => walk_at "m cond")))
local macro_rules | `(tactic| walk_at "m begin") => `(tactic| ((try dsimp only); (refine wpAny_mono (E := fun _ _ => False) ?_ (fun _ _ x => x) (fun _ _ x => x)); k_fold; (walk_at "m steps")))
local macro_rules | `(tactic| walk_at "m steps") => `(tactic| repeat' (first | (k_unfold; (try dsimp only)) | (k_end; wrow_close) | walk1 | (dsimp only; walk1) | (leave1; walk_say "STEP leave1"; try dsimp only)))
local macro_rules | `(tactic| walk_at "m use") => `(tactic| ((rename Fr _ _ _ _ => mF'); (rename News _ _ _ _ => mN'); (refine' use mF' mN' ?mhc ?_)))
local macro_rules | `(tactic| walk_at "m rdy") => `(tactic| exact rdy_of (by with_reducible assumption) (by with_reducible assumption) (by with_reducible assumption))
local macro_rules | `(tactic| walk_at "m le") => `(tactic| exact Le.at (Nat.le_of_ble_eq_true rfl))
local macro_rules | `(tactic| walk_at "eval Name") => `(tactic| (k_here; k_dflt (first
  | (refine' nm_T ?b ?F ?v ?_; (case b => with_reducible assumption); (case F => with_reducible assumption); (case v => walk_at "m look"))
  | (refine' nm_G ?b ?F ?X ?T ?_; (case b => with_reducible assumption); (case F => with_reducible assumption); (case X => with_reducible assumption); (case T => with_reducible assumption))
  | (refine' nm_B ?b ?F ?X ?T ?_; (case b => with_reducible assumption); (case F => with_reducible assumption); (case X => with_reducible assumption); (case T => with_reducible assumption)))))
local macro_rules | `(tactic| walk_at "loadName") => `(tactic| (k_here; k_dflt (refine' ldn_T ?b ?F ?v ?_; (case b => with_reducible assumption); (case F => with_reducible assumption); (case v => walk_at "m look"))))
local macro_rules | `(tactic| walk_at "storeName") => `(tactic| (k_here; k_dflt (refine' st_T ?b ?F ?N ?_; (case b => with_reducible assumption); (case F => with_reducible assumption); (case N => with_reducible assumption)); (intro h' F' N'); (try k_sweep)))
local macro_rules | `(tactic| walk_at "m names") => `(tactic| ((repeat' (first | apply And.intro | apply Loc.mk | apply Glo.mk | apply Bui.mk)); (all_goals first | kernel_rfl! | boot_fast)))
local macro_rules | `(tactic| walk_at "execs cons") => `(tactic| (k_here; (try dsimp only); (try k_gentoks); refine wpAny_execs_cons ?_))
local macro_rules | `(tactic| walk_at "execs nil") => `(tactic| (k_here; (try dsimp only); (try k_gentoks); refine wpAny_execs_nil ?_))
local macro_rules | `(tactic| walk_at "exec If") => `(tactic| (k_here; refine wpAny_If ?_))
local macro_rules | `(tactic| walk_at "ite") => `(tactic| (k_here; first
  | with_reducible refine ite_tt ?_
  | with_reducible refine ite_ff ?_
  | with_reducible refine split_not ?_
  | (k_closed; k_dflt (first | refine ite_pos (by decide) ?_ | refine ite_neg (by decide) ?_))
  | with_reducible refine ite_nn rfl ?_
  | with_reducible refine ite_ep rfl ?_
  | with_reducible refine ite_dp rfl ?_
  | with_reducible refine ite_dp (by assumption) ?_
  | with_reducible refine ite_dn (by assumption) ?_
  | with_reducible refine ite_np (by assumption) ?_
  | with_reducible refine ite_nn (by assumption) ?_
  | with_reducible refine ite_ep (by assumption) ?_
  | with_reducible refine ite_en (by assumption) ?_
  | (with_reducible refine split_dec ?_ ?_ <;> intro _)
  | (with_reducible refine ite_ns ?_ ?_ <;> intro _)
  | (with_reducible refine ite_es ?_ ?_ <;> intro _)))
local macro_rules | `(tactic| walk_at "binaryOp Add int int") => `(tactic| with_reducible refine i_add ?_)
local macro_rules | `(tactic| walk_at "binaryOp Sub int int") => `(tactic| with_reducible refine i_sub ?_)
local macro_rules | `(tactic| walk_at "binaryOp BitAnd int int") => `(tactic| with_reducible refine i_and ?_)
local macro_rules | `(tactic| walk_at "inplaceOp Add int int") => `(tactic| with_reducible refine i_iadd ?_)
local macro_rules | `(tactic| walk_at "inplaceOp Sub int int") => `(tactic| with_reducible refine i_isub ?_)
local macro_rules | `(tactic| walk_at "binaryOp RShift int int") => `(tactic| (k_here; (with_reducible refine i_shr ?kb1 ?_); (case kb1 => walk_at "m cond")))
local macro_rules | `(tactic| walk_at "inplaceOp RShift int int") => `(tactic| (k_here; (with_reducible refine i_ishr ?kb1 ?_); (case kb1 => walk_at "m cond")))
local macro_rules | `(tactic| walk_at "subscriptTail") => `(tactic| (k_here; (with_reducible show wpAny _ _ (subscriptTail _ _ (Value.ref _) (Value.int _ _)) _ _ _); k_dflt (refine' item_tupleT ?t ?a ?b ?c ?d ?_; (case t => walk_at "m tup"); (case a => decide); (case b => decide); (case c => rfl); (case d => rfl); k_whole)))
local macro_rules | `(tactic| walk_at "m useF") => `(tactic| ((rename Fr _ _ _ _ => mF'); (rename News _ _ _ _ => mN'); (refine' useF mF' mN' ?mhc ?_)))
local macro_rules | `(tactic| walk_at "m fresh") => `(tactic| (refine ⟨_, _, rfl, Fr.keep (by assumption), fresh_of (by assumption) (by k_mem) ?_⟩))
local macro_rules | `(tactic| walk_at "m useP") => `(tactic| ((rename Fr _ _ _ _ => mF'); (rename News _ _ _ _ => mN'); (refine' useP mF' mN' ?mhc ?_)))
local macro_rules | `(tactic| walk_at "m nz") => `(tactic| first | decide | assumption | exact mulp_nz (by assumption) | omega | decide +kernel)
local macro_rules | `(tactic| walk_at "m log") => `(tactic| first | decide +kernel | assumption | exact log2_of_bits (by assumption) | exact mulp_log (by assumption) (by omega))
local macro_rules | `(tactic| walk_at "binaryOp FloorDiv int int") => `(tactic| (k_here; (with_reducible refine i_fdiv ?kb1 ?kb2 ?_); (case kb1 => walk_at "m nz"); (case kb2 => walk_at "m log")))
local macro_rules | `(tactic| walk_at "inplaceOp FloorDiv int int") => `(tactic| (k_here; (with_reducible refine i_ifdiv ?kb1 ?kb2 ?_); (case kb1 => walk_at "m nz"); (case kb2 => walk_at "m log")))
local macro_rules | `(tactic| walk_at "binaryOp Mod int int") => `(tactic| (k_here; (with_reducible refine i_mod ?kb1 ?_); (case kb1 => walk_at "m nz")))
local macro_rules | `(tactic| walk_at "binaryOp Mult int int") => `(tactic| (k_here; (with_reducible refine i_mul ?kb1 ?_); (case kb1 => first | with_reducible assumption | exact mulp (by assumption) (by omega) | mul_fits)))
local macro_rules | `(tactic| walk_at "exec Assign") => `(tactic| (k_here; (with_reducible show wpAny _ _ (exec (Stmt.Assign [Expr.Tuple _ _ _] (Expr.Tuple _ _ _) _) _) _ _ _); first
  | ((with_reducible refine' asg2 ?k1 ?k2 ?kc ?_); (case k1 => assumption); (case k2 => assumption); (case kc => kernel_rfl!))
  | ((with_reducible refine' asg3 ?k1 ?k2 ?k3 ?kc ?_); (case k1 => assumption); (case k2 => assumption); (case k3 => assumption); (case kc => kernel_rfl!))))
local macro_rules | `(tactic| walk_at "call builtin:divmod") => `(tactic| (k_here; (with_reducible show wpAny _ _ (call (Value.builtin "divmod") [Value.int _ _, Value.int _ _]) _ _ _); k_dflt (refine' i_divmod ?F ?N ?b ?p ?_; (case F => with_reducible assumption); (case N => with_reducible assumption); (case b => walk_at "m nz"); (case p => walk_at "m log")); (intro D' h' F' N'); (try k_sweep)))
local macro_rules | `(tactic| walk_at "m fold") => `(tactic| ((try dsimp only [List.take, List.drop]); (refine wpAny_mono (E := fun _ _ => False) ?_ (fun _ _ x => x) (fun _ _ x => x)); k_fold))
local macro_rules | `(tactic| walk_at "m pad") => `(tactic| skip)
section PartR1
section
variable {prog : Program} {w : World} {A : Around} {E : Value → Shared → Prop} {s : Shared} {Q : Value → Shared → Prop}
theorem in3 {l a b c x : Addr} {a1 a2 a3 a4 b1 b2 b3 b4 c1 c2 c3 c4 x1 x2 x3 x4 : Int} {p1 p2 p3 p4 q1 q2 q3 q4 r1 r2 r3 r4 u1 u2 u3 u4 : Tok} {r : Bool}
    (hl : s.heap.get? l = some { cls := .type "list", data := .seq #[.ref a, .ref b, .ref c] })
    (ha : IsTup s.heap a #[.int a1 p1, .int a2 p2, .int a3 p3, .int a4 p4]) (hb : IsTup s.heap b #[.int b1 q1, .int b2 q2, .int b3 q3, .int b4 q4]) (hc : IsTup s.heap c #[.int c1 r1, .int c2 r2, .int c3 r3, .int c4 r4])
    (hx : IsTup s.heap x #[.int x1 u1, .int x2 u2, .int x3 u3, .int x4 u4]) (hu : A.units + 65 < cLine)
    (hr : (decide (((x1, x2, x3, x4) : M) = (a1, a2, a3, a4)) || (decide (((x1, x2, x3, x4) : M) = (b1, b2, b3, b4)) || decide (((x1, x2, x3, x4) : M) = (c1, c2, c3, c4)))) = r)
    (h : Q (.bool r) s) : wpAny (model prog w) A (compareOp .In (.ref x) (.ref l)) Q E s := by
  have rl : Reads s.heap (.ref l) (.list [.tuple [.int a1, .int a2, .int a3, .int a4], .tuple [.int b1, .int b2, .int b3, .int b4], .tuple [.int c1, .int c2, .int c3, .int c4]]) [l] :=
    reads_list_at hl rfl rfl (.cons (reads_tup4 ha) (.cons (reads_tup4 hb) (.cons (reads_tup4 hc) .nil)))
  refine SeqAt.in_list_reads rl (reads_tup4 hx) (SeqAt.canLay_of_shaped (d := .list _) (by rfl)) (SeqAt.canLay_of_shaped (by rfl)) (room_in_shaped (by rfl) hu) ?_
  simp only [List.any_cons, List.any_nil, Bool.or_false, eqv_tup4]
  have e : ∀ {p q : M}, decide (p = q) = decide (q = p) := fun {p q} => by by_cases z : p = q <;> simp [z, eq_comm]
  rw [e (p := (a1, a2, a3, a4)), e (p := (b1, b2, b3, b4)), e (p := (c1, c2, c3, c4)), hr]
  exact h
theorem eq_tup3 {a p q b p' q' : Addr} {x y p1 p2 p3 p4 q1 q2 q3 q4 m1 m2 m3 m4 n1 n2 n3 n4 : Int} {t u s1 s2 s3 s4 t1 t2 t3 t4 u1 u2 u3 u4 v1 v2 v3 v4 : Tok}
    (ha : IsTup s.heap a #[.int x t, .ref p, .ref q]) (hp : IsTup s.heap p #[.int p1 s1, .int p2 s2, .int p3 s3, .int p4 s4]) (hq : IsTup s.heap q #[.int q1 t1, .int q2 t2, .int q3 t3, .int q4 t4])
    (hb : IsTup s.heap b #[.int y u, .ref p', .ref q']) (hp' : IsTup s.heap p' #[.int m1 u1, .int m2 u2, .int m3 u3, .int m4 u4]) (hq' : IsTup s.heap q' #[.int n1 v1, .int n2 v2, .int n3 v3, .int n4 v4])
    (hu : A.units + 64 < cLine) (e1 : x = y) (e2 : ((p1, p2, p3, p4) : M) = (m1, m2, m3, m4)) (e3 : ((q1, q2, q3, q4) : M) = (n1, n2, n3, n4))
    (h : Q (.bool true) s) : wpAny (model prog w) A (compareOp .Eq (.ref a) (.ref b)) Q E s := by
  obtain ⟨oa, hoa, hca, na, hda⟩ := ha
  obtain ⟨ob, hob, hcb, nb, hdb⟩ := hb
  have ra : Reads s.heap (.ref a) (.tuple [.int x, .tuple [.int p1, .int p2, .int p3, .int p4], .tuple [.int q1, .int q2, .int q3, .int q4]]) [] :=
    reads_tuple_at hoa hca hda (.cons (.int _ _) (.cons (reads_tup4 hp) (.cons (reads_tup4 hq) .nil)))
  have rb : Reads s.heap (.ref b) (.tuple [.int y, .tuple [.int m1, .int m2, .int m3, .int m4], .tuple [.int n1, .int n2, .int n3, .int n4]]) [] :=
    reads_tuple_at hob hcb hdb (.cons (.int _ _) (.cons (reads_tup4 hp') (.cons (reads_tup4 hq') .nil)))
  refine eq_dataH ra rb (by rfl) (by rfl) hu ?_
  have e : PyData.eqv (.tuple [.int x, .tuple [.int p1, .int p2, .int p3, .int p4], .tuple [.int q1, .int q2, .int q3, .int q4]]) (.tuple [.int y, .tuple [.int m1, .int m2, .int m3, .int m4], .tuple [.int n1, .int n2, .int n3, .int n4]]) = true := by
    have h1 := eqv_tup4 p1 p2 p3 p4 m1 m2 m3 m4
    have h2 := eqv_tup4 q1 q2 q3 q4 n1 n2 n3 n4
    rw [decide_eq_true e2] at h1
    rw [decide_eq_true e3] at h2
    rw [PyData.eqv, PyData.eqvAll, PyData.eqvAll, PyData.eqvAll, PyData.eqvAll, h1, h2, e1]
    simp [PyData.eqv]
  rw [e]; exact h
/-- four ints as a key -/
abbrev key4 (x : M) : List Int := [x.1, x.2.1, x.2.2.1, x.2.2.2]
theorem key_tup4 {h : Heap} {a : Addr} {x : M} {t1 t2 t3 t4 : Tok} (ht : IsTup h a #[.int x.1 t1, .int x.2.1 t2, .int x.2.2.1 t3, .int x.2.2.2 t4]) : IsTupleKey (intKind prog w) h (key4 x) a := by
  obtain ⟨o, ho, hc, n, hd⟩ := ht
  have hi : ∀ (i : Int) (t : Tok), (intKind prog w).is i (.int i t) = true := fun i t => by show Value.isInt i (.int i t) = true; simp [Value.isInt]
  exact ⟨o, _, n, ho, hc, hd, .cons (hi _ _) (.cons (hi _ _) (.cons (hi _ _) (.cons (hi _ _) .nil)))⟩
theorem stores3 {d a1 a2 a3 : Addr} {v1 v2 v3 : Value} {o : Obj} {h₀ : Heap} {L : Addr} {m : Str → Option Value} {p1 p2 p3 : Addr × Obj} {rest : List (Addr × Obj)} {k1 k2 k3 : M} {t1 t2 t3 t4 u1 u2 u3 u4 s1 s2 s3 s4 : Tok}
    (F : Fr h₀ L s.heap m) (N : News h₀ L s.heap (p3 :: p2 :: p1 :: (d, o) :: rest)) (hd : o.IsDictOf (intKind prog w) []) (hu : A.units < cLine)
    (hcls : (p3 :: p2 :: p1 :: rest).all (fun p => p.2.cls == .type "tuple" || p.2.cls == .type "list") = true)
    (h1 : IsTup s.heap a1 #[.int k1.1 t1, .int k1.2.1 t2, .int k1.2.2.1 t3, .int k1.2.2.2 t4]) (h2 : IsTup s.heap a2 #[.int k2.1 u1, .int k2.2.1 u2, .int k2.2.2.1 u3, .int k2.2.2.2 u4])
    (h3 : IsTup s.heap a3 #[.int k3.1 s1, .int k3.2.1 s2, .int k3.2.2.1 s3, .int k3.2.2.2 s4]) (n12 : key4 k1 ≠ key4 k2) (n13 : key4 k1 ≠ key4 k3) (n23 : key4 k2 ≠ key4 k3)
    (h : ∀ h' tk, Fr h₀ L h' m → News h₀ L h' (p3 :: p2 :: p1 :: rest) → h'.DictOfH (tupleKind (intKind prog w)) d [(key4 k1, a1, v1), (key4 k2, a2, v2), (key4 k3, a3, v3)] → Q (.ref d) { s with heap := h', toks := tk }) :
    TupStores prog w A E d Q [(.ref a1, v1), (.ref a2, v2), (.ref a3, v3)] s := by
  have hm : (d, o) ∈ p3 :: p2 :: p1 :: (d, o) :: rest := by simp
  obtain ⟨es, ep, hc, hdat, _, hp, _⟩ := hd
  have he : es.toList = [] := List.length_eq_zero_iff.mp hp.length
  have D0 : s.heap.DictOfH (tupleKind (intKind prog w)) d [] := ⟨o, es, ep, N.get hm, hc, hdat, he, fun _ hx => by simp at hx, List.nodup_nil⟩
  have ne : ∀ p ∈ p3 :: p2 :: p1 :: rest, p.1 ≠ d := by
    intro p hp e
    have hp' : p ∈ p3 :: p2 :: p1 :: (d, o) :: rest := by
      simp only [List.mem_cons] at hp ⊢
      rcases hp with h | h | h | h
      · exact .inl h
      · exact .inr (.inl h)
      · exact .inr (.inr (.inl h))
      · exact .inr (.inr (.inr (.inr h)))
    have e1 := N.get hp'
    rw [e, N.get hm] at e1
    have e2 : o = p.2 := Option.some.inj e1
    have hq := List.all_eq_true.mp hcls p hp
    rw [← e2, hc.1] at hq
    exact absurd hq (by decide)
  have k1' := key_tup4 (prog := prog) (w := w) h1
  have k2' := key_tup4 (prog := prog) (w := w) h2
  have k3' := key_tup4 (prog := prog) (w := w) h3
  unfold TupStores storeAll
  rw [List.forIn_cons]
  refine wpAny_bind (wpAny_bind (wpAny_dictSet_heap (hsz := by decide) (knd := tupleKind (intKind prog w)) hu k1' D0 fun h₁ D1 S1 => wpAny_pure ?_))
  have k2₁ := (tupleKind (intKind prog w)).keeps (show (tupleKind (intKind prog w)).is s.heap _ _ from k2') (N.get hm) hdat S1
  have k3₁ := (tupleKind (intKind prog w)).keeps (show (tupleKind (intKind prog w)).is s.heap _ _ from k3') (N.get hm) hdat S1
  have e1 : storedH [] (key4 k1) a1 v1 = [(key4 k1, a1, v1)] := by rfl
  rw [e1] at D1
  obtain ⟨o1, es1, ep1, ho1, hc1, hd1, he1, his1, hn1⟩ := id D1
  show wpAny _ _ (forIn [(Value.ref a2, v2), (Value.ref a3, v3)] PUnit.unit _) _ _ _
  rw [List.forIn_cons]
  refine wpAny_bind (wpAny_bind (wpAny_dictSet_heap (hsz := show 1 ≤ sizeLine by decide) (knd := tupleKind (intKind prog w)) hu k2₁ D1 fun h₂ D2 S2 => wpAny_pure ?_))
  have k3₂ := (tupleKind (intKind prog w)).keeps k3₁ ho1 hd1 S2
  have e2 : storedH [(key4 k1, a1, v1)] (key4 k2) a2 v2 = [(key4 k1, a1, v1), (key4 k2, a2, v2)] := by
    refine storedH_new ?_ _ _
    simp only [atKey, List.find?_cons, decide_eq_false n12, List.find?_nil]; rfl
  rw [e2] at D2
  show wpAny _ _ (forIn [(Value.ref a3, v3)] PUnit.unit _) _ _ _
  rw [List.forIn_cons]
  refine wpAny_bind (wpAny_bind (wpAny_dictSet_heap (hsz := show 2 ≤ sizeLine by decide) (knd := tupleKind (intKind prog w)) hu k3₂ D2 fun h₃ D3 S3 => wpAny_pure ?_))
  have e3 : storedH [(key4 k1, a1, v1), (key4 k2, a2, v2)] (key4 k3) a3 v3 = [(key4 k1, a1, v1), (key4 k2, a2, v2), (key4 k3, a3, v3)] := by
    refine storedH_new ?_ _ _
    simp only [atKey, List.find?_cons, decide_eq_false n13, decide_eq_false n23, List.find?_nil]; rfl
  rw [e3] at D3
  show wpAny _ _ (forIn [] PUnit.unit _) _ _ _
  rw [List.forIn_nil]
  have S : Heap.SameBut d s.heap h₃ := (S1.trans S2).trans S3
  obtain ⟨o3, _, _, ho3, _⟩ := id D3
  refine wpAny_pure (h h₃ _ (F.change S (N _ hm).2.1 (N.fresh hm)) ?_ D3)
  intro p hp
  have hp' : p ∈ p3 :: p2 :: p1 :: (d, o) :: rest := by
    simp only [List.mem_cons] at hp ⊢
    rcases hp with h | h | h | h
    · exact .inl h
    · exact .inr (.inl h)
    · exact .inr (.inr (.inl h))
    · exact .inr (.inr (.inr (.inr h)))
  exact ⟨(S.2 p.1 (ne p hp)).trans (N p hp').1, (N p hp').2⟩
theorem item3 {d a : Addr} {xs : List (List Int × Addr × Value)} {x : M} {t1 t2 t3 t4 : Tok} {p : Addr × Value} {value slice : Expr} (D : s.heap.DictOfH (tupleKind (intKind prog w)) d xs)
    (ha : IsTup s.heap a #[.int x.1 t1, .int x.2.1 t2, .int x.2.2.1 t3, .int x.2.2.2 t4]) (hu : A.units + 1 < cLine) (hp : atKey xs (key4 x) = some p)
    (h : ∀ tk, Q p.2 { s with toks := tk })
    (hs : subscripted slice false (.ref d) (.ref a) = operate [.ref d, .ref a] (getItem (.ref d) (.ref a)) := by with_unfolding_all rfl) (hg : ∀ r, letTemporaryGo value (.ref d) r = pure () := by intro _; with_unfolding_all rfl) :
    wpAny (model prog w) A (subscriptTail value slice (.ref d) (.ref a)) Q E s :=
  subscriptTail_builtin D.typeIs slot_dict_getitem.lookup (wpAny_getItem_heap (knd := tupleKind (intKind prog w)) (tupleKind_room_in1 hu) (key_tup4 ha) D hp (h _)) hs hg
end
section
variable {prog : Program} {w : World} {A : Around} {E : Value → Shared → Prop} {s : Shared} {Q : Value → Shared → Prop}
theorem stores3i {d a1 a2 a3 : Addr} {v1 v2 v3 : Value} {o : Obj} {h₀ : Heap} {L : Addr} {m : Str → Option Value} {p1 p2 p3 : Addr × Obj} {rest : List (Addr × Obj)} {x1 x2 x3 x4 y1 y2 y3 y4 z1 z2 z3 z4 : Int} {t1 t2 t3 t4 u1 u2 u3 u4 s1 s2 s3 s4 : Tok}
    (F : Fr h₀ L s.heap m) (N : News h₀ L s.heap (p3 :: p2 :: p1 :: (d, o) :: rest)) (hd : o.IsDictOf (intKind prog w) []) (hu : A.units < cLine)
    (hcls : (p3 :: p2 :: p1 :: rest).all (fun p => p.2.cls == .type "tuple" || p.2.cls == .type "list") = true)
    (h1 : IsTup s.heap a1 #[.int x1 t1, .int x2 t2, .int x3 t3, .int x4 t4]) (h2 : IsTup s.heap a2 #[.int y1 u1, .int y2 u2, .int y3 u3, .int y4 u4])
    (h3 : IsTup s.heap a3 #[.int z1 s1, .int z2 s2, .int z3 s3, .int z4 s4]) (n12 : [x1, x2, x3, x4] ≠ [y1, y2, y3, y4]) (n13 : [x1, x2, x3, x4] ≠ [z1, z2, z3, z4]) (n23 : [y1, y2, y3, y4] ≠ [z1, z2, z3, z4])
    (h : ∀ h' tk, Fr h₀ L h' m → News h₀ L h' (p3 :: p2 :: p1 :: rest) → h'.DictOfH (tupleKind (intKind prog w)) d [([x1, x2, x3, x4], a1, v1), ([y1, y2, y3, y4], a2, v2), ([z1, z2, z3, z4], a3, v3)] → Q (.ref d) { s with heap := h', toks := tk }) :
    TupStores prog w A E d Q [(.ref a1, v1), (.ref a2, v2), (.ref a3, v3)] s :=
  stores3 (k1 := (x1, x2, x3, x4)) (k2 := (y1, y2, y3, y4)) (k3 := (z1, z2, z3, z4)) F N hd hu hcls h1 h2 h3 n12 n13 n23 h
theorem item3i {d a : Addr} {xs : List (List Int × Addr × Value)} {x1 x2 x3 x4 : Int} {t1 t2 t3 t4 : Tok} {p : Addr × Value} {value slice : Expr} (D : s.heap.DictOfH (tupleKind (intKind prog w)) d xs)
    (ha : IsTup s.heap a #[.int x1 t1, .int x2 t2, .int x3 t3, .int x4 t4]) (hu : A.units + 1 < cLine) (hp : atKey xs [x1, x2, x3, x4] = some p)
    (h : ∀ tk, Q p.2 { s with toks := tk })
    (hs : subscripted slice false (.ref d) (.ref a) = operate [.ref d, .ref a] (getItem (.ref d) (.ref a)) := by with_unfolding_all rfl) (hg : ∀ r, letTemporaryGo value (.ref d) r = pure () := by intro _; with_unfolding_all rfl) :
    wpAny (model prog w) A (subscriptTail value slice (.ref d) (.ref a)) Q E s :=
  item3 (x := (x1, x2, x3, x4)) D ha hu hp h hs hg
end
section
variable {prog : Program} {w : World} {A : Around} {E : Value → Shared → Prop} {s : Shared} {h₀ : Heap} {L : Addr} {m : Str → Option Value} {news : List (Addr × Obj)}
theorem Dict_made {env : Env} {keys : List (Option Expr)} {values : List Expr} {pos : Pos} {Q : Value → Shared → Prop} (F : Fr h₀ L s.heap m) (N : News h₀ L s.heap news)
    (hall : keys.all (·.isSome) = true) (hl : keys.length = values.length) (h0 : keys ≠ []) (hlen : keys.length ≤ 15)
    (h : ∀ d h' o, Fr h₀ L h' m → News h₀ L h' ((d, o) :: news) → o.IsDictOf (intKind prog w) [] →
      wpAny (model prog w) A (evalPairs (pairTrees keys values env pos)) (TupStores prog w A E d Q) E { s with heap := h' }) :
    wpAny (model prog w) A (eval (.Dict keys values pos) env) Q E s := by
  refine wpAny_Dict_any hall hl h0 hlen (h s.heap.objs.size (s.heap.push { cls := .type "dict", data := .dict #[] }) { cls := .type "dict", data := .dict #[] } (F.push _) (News.push F N _) ?_)
  obtain ⟨o, ho, hd⟩ := Heap.dictOf_iff.mp (Heap.DictOf.new (knd := intKind prog w) s.heap)
  rw [Heap.get?_push_size _ rfl] at ho
  exact (Option.some.inj ho) ▸ hd
end
end PartR1
local macro_rules | `(tactic| walk_at "m pad") => `(tactic| skip)
section PartR2
/-- one turn's end -/
def TurnT (h₀ : Heap) (cs : Scope) (L : Addr) (news : List (Addr × Obj)) (J : (Nat → Option Value) → Prop) (s : Shared) (f : Flow) (s' : Shared) : Prop :=
  f = .next ∧ ∃ h tk tab, s' = ⟨h, s.gens, s.drawn, tk, s.os⟩ ∧ Fr h₀ L h (fun y => tab (idx cs y)) ∧ News h₀ L h news ∧ J tab
theorem TurnT.intro {h₀ h : Heap} {cs : Scope} {L : Addr} {news news' : List (Addr × Obj)} {J : (Nat → Option Value) → Prop} {s : Shared} {tk : Nat} {tab : Nat → Option Value}
    (F : Fr h₀ L h (fun y => tab (idx cs y))) (N : News h₀ L h news') (hsub : ∀ p ∈ news, p ∈ news') (hJ : J tab) : TurnT h₀ cs L news J s .next ⟨h, s.gens, s.drawn, tk, s.os⟩ :=
  ⟨rfl, h, tk, tab, rfl, F, fun p hp => N p (hsub p hp), hJ⟩
/-- what is to show of a loop over a list -/
structure ForK (prog : Program) (w : World) (A : Around) (E : Value → Shared → Prop) (h₀ : Heap) (cn : Str) (cs : Scope) (L a : Addr) (ccd : Value) (k : Nat) (body : List Stmt) (Q : Flow → Shared → Prop) (xv : Value) (s : Shared) : Prop where
  out : ∃ (l : Addr) (vs : List Value) (tab : Nat → Option Value) (news : List (Addr × Obj)) (J : Nat → (Nat → Option Value) → Prop), xv = .ref l ∧ s.heap.IsList l vs.toArray ∧ Fr h₀ L s.heap (fun y => tab (idx cs y)) ∧ News h₀ L s.heap news ∧ J 0 tab ∧
    (∀ i v tab₁ h g d tk o own, vs[i]? = some v → J i tab₁ → Fr h₀ L h (fun y => setT tab₁ k v (idx cs y)) → News h₀ L h (own ++ news) →
      wpAny (model prog w) A (execs body (envOf cn cs L a ccd)) (TurnT h₀ cs L (own ++ news) (J (i + 1)) ⟨h, g, d, tk, o⟩) E ⟨h, g, d, tk, o⟩) ∧
    (∀ h tk tab', Fr h₀ L h (fun y => tab' (idx cs y)) → News h₀ L h news → J vs.length tab' → Q .next ⟨h, s.gens, s.drawn, tk, s.os⟩)
theorem set_tab {cs : Scope} {x : Str} {k : Nat} {v : Value} {tab : Nat → Option Value} (hb : Loc cs x k) : (fun y => if y = x then some v else tab (idx cs y)) = fun y => setT tab k v (idx cs y) := by
  funext y
  unfold setT
  by_cases q : y = x
  · rw [if_pos q, if_pos (by rw [q]; exact hb.parts.2.1)]
  · rw [if_neg q, if_neg (fun r => q (idx_inj (by rw [hb.parts.2.1]; exact hb.parts.2.2) (r.trans hb.parts.2.1.symm)))]
theorem forL {prog : Program} {w : World} {A : Around} {E : Value → Shared → Prop} {s : Shared} {cn : Str} {cs : Scope} {L a : Addr} {ccd : Value} {x : Str} {px pos : Pos} {iter : Expr} {body : List Stmt} {k : Nat} {h₀ : Heap} {Q : Flow → Shared → Prop} {m : Str → Option Value}
    (hb : Loc cs x k) (_F : Fr h₀ L s.heap m) (hh : A.handled = none)
    (h : wpAny (model prog w) A (eval iter (envOf cn cs L a ccd)) (ForK prog w A E h₀ cn cs L a ccd k body Q) E s)
    (hs : ∀ v, foldedSetIterable iter (envOf cn cs L a ccd) v = pure v := by intro _; rfl)
    (hE : PassesOwn (model prog w) A (envOf cn cs L a ccd) E := by passes_own) :
    wpAny (model prog w) A (exec (.For (.Name x px) iter body [] pos) (envOf cn cs L a ccd)) Q E s := by
  have hk := (okL_parts hb.parts.1).1
  have hp : ((envOf cn cs L a ccd).scope.kind == .class || ((envOf cn cs L a ccd).scope.kind == .module && (envOf cn cs L a ccd).locals != (envOf cn cs L a ccd).globals)) = false := by
    show (cs.kind == .class || (cs.kind == .module && _)) = false
    rw [hk]; rfl
  refine For_inv h₀ (okL_parts hb.parts.1).2.1 hp (wpAny_mono h (fun xv s₁ h₁ => ?_) fun _ _ e => e) hs hE
  obtain ⟨l, vs, tab, news, J, rfl, hl, F, N, hJ, step, done⟩ := h₁.out
  refine wpAny_pyIter_list hl ?_
  obtain ⟨ol, hol, _, nl, hdl⟩ := id hl
  have hne : l ≠ s₁.heap.objs.size := Nat.ne_of_lt (Heap.lt_size hol)
  have hlL : L ≠ l := by
    intro e
    obtain ⟨o, es, ep, ho, hd, _⟩ := F.ns
    rw [e, hol] at ho
    cases ho
    rw [hdl] at hd; cases hd
  refine ⟨s₁.heap.objs.size, [s₁.heap.objs.size, l], [s₁.heap.objs.size], vs.toArray.size, _, _, (fun y => tab (idx cs y)), news, fun i m => ∃ tab, m = (fun y => tab (idx cs y)) ∧ J i tab, rfl, Walks.list hh _ l hne vs.toArray, ?_, ?_, ?_,
    ⟨⟨_, Heap.get?_push_size _ rfl, rfl, rfl⟩, hl.at fun o e => Heap.get?_push_of_some _ e⟩, F.push _, fun p hp => ⟨Heap.get?_push_of_some _ (N p hp).1, (N p hp).2⟩, ⟨tab, rfl, hJ⟩, ?_, ?_⟩
  · intro hm
    rcases List.mem_cons.mp hm with e | hm
    · exact absurd F.ns.lt (e ▸ Nat.lt_irrefl _)
    · exact hlL (List.mem_singleton.mp hm)
  · intro b hb
    rw [List.mem_singleton.mp hb]
    cases q : h₀.get? s₁.heap.objs.size with
    | none => rfl
    | some o => exact absurd (Heap.lt_size (F.keep _ _ q)) (Nat.lt_irrefl _)
  · intro p hp hm
    exact N.fresh_ne p hp (List.mem_singleton.mp hm).symm
  · rintro i v m₁ ⟨h, g, d, tk, o⟩ own hi hv ⟨tab₁, rfl, hJ₁⟩ F₁ N₁
    rw [set_tab hb] at F₁
    refine wpAny_mono (step i v tab₁ h g d tk o own (by simpa using hv) hJ₁ F₁ N₁) (fun f s₂ ht => ?_) fun _ _ e => e
    obtain ⟨rfl, h₂, tk₂, tab₂, rfl, F₂, N₂, hJ₂⟩ := ht
    exact ⟨rfl, h₂, tk₂, _, rfl, F₂, N₂, tab₂, rfl, hJ₂⟩
  · rintro h' tk m' F' N' ⟨tab', rfl, hJ'⟩
    refine done h' tk tab' F' N' ?_
    simpa using hJ'
end PartR2
local macro_rules | `(tactic| walk_at "m pad") => `(tactic| skip)
section PartR3
/-! a frame with one cell -/
/-- x is the cell at c -/
structure Cel (cs : Scope) (cl : List (Str × Addr)) (x : Str) (c : Addr) : Prop where
  fn : cs.kind = .function
  kind : cs.names.lookup x = some .cell
  at' : cl.lookup x = some c
def okS (o : Obj) : Bool := match o.data with
  | .seq .. => true
  | _ => false
section
variable {M : Model} {A : Around} {E : Value → Shared → Prop} {s : Shared} {K : Frag} {h₀ : Heap} {L a : Addr} {tab : Nat → Option Value} {mg mb : Str → Option Value} {cn : Str} {cs : Scope} {ccd : Value} {cl : List (Str × Addr)} {p : Program} {loose : List Str} {mean : ExcName → Option Value}
  {x : Str} {pos : Pos} {v : Value} {k : Nat} {news : List (Addr × Obj)} {c : Addr} {o : Obj}
theorem nmX_T {Q : Value → Shared → Prop} (hb : Loc cs x k) (F : Fr h₀ L s.heap (fun y => tab (idx cs y))) (hv : tab k = some v) (h : Q v s) : wpAny M A (eval (.Name x pos) (envX cn cs L a ccd cl)) Q E s :=
  nameX_L F (by rw [hb.parts.2.1]; exact hv) h (okL_parts hb.parts.1).1 (okL_parts hb.parts.1).2.1 (okL_parts hb.parts.1).2.2
theorem ldnX_T {Q : Value → Shared → Prop} (hb : Loc cs x k) (F : Fr h₀ L s.heap (fun y => tab (idx cs y))) (hv : tab k = some v) (h : Q v s) : wpAny M A (loadName (envX cn cs L a ccd cl) x) Q E s :=
  wpAny_loadName_local (okL_parts hb.parts.1).1 (okL_parts hb.parts.1).2.1 F.ns (by rw [hb.parts.2.1]; exact hv) h
theorem nmX_G {Q : Value → Shared → Prop} {m : Str → Option Value} (hb : Glo K cs x v) (F : Fr h₀ L s.heap m) (X : K.In h₀) (T : Top p loose mean mg mb h₀) (h : Q v s) : wpAny M A (eval (.Name x pos) (envX cn cs L a ccd cl)) Q E s :=
  nameX_K F X (topRead_of T) hb.parts.2 h (okG_parts hb.parts.1).1 (okG_parts hb.parts.1).2.1 (okG_parts hb.parts.1).2.2
theorem nmX_B {Q : Value → Shared → Prop} {m : Str → Option Value} (hb : Bui K cs x v) (F : Fr h₀ L s.heap m) (X : K.In h₀) (T : Top p loose mean mg mb h₀) (h : Q v s) : wpAny M A (eval (.Name x pos) (envX cn cs L a ccd cl)) Q E s :=
  nameX_B F X (topRead_of T) hb.parts.2.1 hb.val hb.parts.2.2 h (okG_parts hb.parts.1).1 (okG_parts hb.parts.1).2.1 (okG_parts hb.parts.1).2.2
theorem nmX_C {Q : Value → Shared → Prop} (hb : Cel cs cl x c) (hd' : (x == ("__debug__" : Str)) = false) (N : News h₀ L s.heap news) (hm : (c, o) ∈ news) (hd : o.data = .cell (some v)) (h : Q v s) : wpAny M A (eval (.Name x pos) (envX cn cs L a ccd cl)) Q E s :=
  nameX_C N hb.at' hm hd h hb.fn hb.kind hd'
theorem stX_T {g : Array GenState} {d : Drawn} {tk : Nat} {o : OsState} {hh : Heap} {Q : Unit → Shared → Prop} (hb : Loc cs x k) (F : Fr h₀ L hh (fun y => tab (idx cs y))) (N : News h₀ L hh news)
    (h : ∀ h', Fr h₀ L h' (fun y => setT tab k v (idx cs y)) → News h₀ L h' news → Q () ⟨h', g, d, tk + 1, o⟩) : wpAny M A (storeName (envX cn cs L a ccd cl) x v) Q E ⟨hh, g, d, tk, o⟩ := by
  refine storeX_L (s := ⟨hh, g, d, tk, o⟩) F N (fun h' F' N' => h h' ?_ N') (okL_parts hb.parts.1).1 (okL_parts hb.parts.1).2.1
  have e : (fun y => if y = x then some v else tab (idx cs y)) = fun y => setT tab k v (idx cs y) := by
    funext y
    unfold setT
    by_cases q : y = x
    · rw [if_pos q, if_pos (by rw [q]; exact hb.parts.2.1)]
    · rw [if_neg q, if_neg (fun r => q (idx_inj (by rw [hb.parts.2.1]; exact hb.parts.2.2) (r.trans hb.parts.2.1.symm)))]
  exact e ▸ F'
theorem cell_ne {h : Heap} {v₀ : Option Value} {q : Addr × Obj} (N : News h₀ L h news) (hc : (c, o) ∈ news) (hd : o.data = .cell v₀) (hq : q ∈ news) (hs : okS q.2 = true) : q.1 ≠ c := by
  intro e
  have h1 := N.get hq
  rw [e, N.get hc] at h1
  have h2 : o = q.2 := Option.some.inj h1
  rw [← h2, okS, hd] at hs
  cases hs
theorem stX_C {g : Array GenState} {d : Drawn} {tk : Nat} {os : OsState} {hh : Heap} {m : Str → Option Value} {v₀ : Option Value} {I : Addr} {oI : Obj} {Q : Unit → Shared → Prop} (hb : Cel cs cl x c) (F : Fr h₀ L hh m) (N : News h₀ L hh ((I, oI) :: (c, o) :: news))
    (hd : o.data = .cell v₀) (hI : ∀ v, oI.data ≠ .cell v) (hs : ∀ p ∈ news, okS p.2 = true)
    (h : ∀ h' o', Fr h₀ L h' m → News h₀ L h' ((I, oI) :: (c, o') :: news) → o'.data = .cell (some v) → Q () ⟨h', g, d, tk, os⟩) : wpAny M A (storeName (envX cn cs L a ccd cl) x v) Q E ⟨hh, g, d, tk, os⟩ := by
  have hc : (c, o) ∈ (I, oI) :: (c, o) :: news := .tail _ (.head _)
  refine storeX_C (s := ⟨hh, g, d, tk, os⟩) F N hb.at' (.tail ?_ (.head fun p hp => cell_ne N hc hd (.tail _ (.tail _ hp)) (hs p hp))) hd (fun h' o' F' N' hd' => h h' o' F' N' hd') hb.fn hb.kind
  intro e
  have h1 := N.get (List.Mem.head _)
  rw [show I = c from e, N.get hc] at h1
  have h2 : o = oI := Option.some.inj h1
  exact hI _ (h2 ▸ hd)
end
theorem tsX_eq {env : Env} {line : Nat} : ∀ {ts : List Expr}, (∀ x ∈ tsNames line ts, env.kindOf x = some .local) → (ts.filterMap fun
      | .Name id pos => if env.kindOf id == some .local && pos.line == line then some id else none
      | _ => none) = tsNames line ts := ts_eq
theorem swapX_of {cn : Str} {cs : Scope} {L a : Addr} {ccd : Value} {cl : List (Str × Addr)} {ts vs : List Expr} {names : List Str} {c c2 : _} {tp vp : Pos} (hk : cs.kind = .function) (hl : ∀ x ∈ names, cs.names.lookup x = some .local) (hc : swapOk ts vs names = true) :
    swappedStores [.Tuple ts c tp] (.Tuple vs c2 vp) (envX cn cs L a ccd cl) = pure (some names) := by
  simp only [swapOk, Bool.and_eq_true, decide_eq_true_eq, beq_iff_eq, Bool.not_eq_true'] at hc
  obtain ⟨⟨⟨⟨⟨⟨⟨h1, h2⟩, h3⟩, h4⟩, h5⟩, h6⟩, h7⟩, h8⟩ := hc
  have hb : (envX cn cs L a ccd cl).blockKind = .function := by show (if cs.kind.isAnnotationScope then ScopeKind.function else cs.kind) = _; rw [hk]; rfl
  have hn := ts_eq (env := envX cn cs L a ccd cl) (line := (ts.head?.map (·.pos.line)).getD 0) (ts := ts) (by rw [h4]; exact hl)
  rw [h4] at hn
  unfold swappedStores
  simp only
  rw [if_neg (by rw [h1, h2, hb]; simp)]
  refine (if_neg (fun q => absurd (h3.symm.trans q) Bool.false_ne_true)).trans ?_
  refine (if_neg (fun q => ?_)).trans ?_
  · have q' : (names.length != ts.length || names.eraseDups.length != names.length) = true := by rw [← hn]; exact q
    rw [h6, h5] at q'
    simp at q'
  refine (if_neg (fun q => absurd (h7.symm.trans q) Bool.false_ne_true)).trans ?_
  refine (if_neg (fun q => absurd (h8.symm.trans q) Bool.false_ne_true)).trans ?_
  exact congrArg (fun z => (pure (some z) : Sem (Option (List Str)))) hn
theorem asgX2 {M : Model} {A : Around} {E : Value → Shared → Prop} {s : Shared} {cn : Str} {cs : Scope} {L a : Addr} {ccd : Value} {cl : List (Str × Addr)} {vs : List Expr} {c c2 : _} {tp vp pos p1 p2 : Pos} {n1 n2 : Str} {k1 k2 : Nat} {Q : Flow → Shared → Prop}
    (l1 : Loc cs n1 k1) (l2 : Loc cs n2 k2) (hc : swapOk [.Name n1 p1, .Name n2 p2] vs [n1, n2] = true)
    (h : wpAny M A (eval (.Tuple vs c2 vp) (envX cn cs L a ccd cl)) (fun v s₁ => wpAny M A (unpackItems v 2 none) (fun items s₂ => wpAny M A (assignInOrder [bindName (envX cn cs L a ccd cl) n2, bindName (envX cn cs L a ccd cl) n1] items.reverse) (fun _ => Q .next) E s₂) E s₁) E s) :
    wpAny M A (exec (.Assign [.Tuple [.Name n1 p1, .Name n2 p2] c tp] (.Tuple vs c2 vp) pos) (envX cn cs L a ccd cl)) Q E s := by
  have hw := swapX_of (c := c) (c2 := c2) (tp := tp) (vp := vp) (cn := cn) (L := L) (a := a) (ccd := ccd) (cl := cl) (vs := vs) (okL_parts l1.parts.1).1 (asg_loc2 l1 l2) hc
  have hs : swapsWithSole [.Tuple [.Name n1 p1, .Name n2 p2] c tp] (.Tuple vs c2 vp) pos.line (envX cn cs L a ccd cl) = pure false := rfl
  refine Assign_Tuple_swapped (names := [n1, n2]) ?_ hs hw
  exact h
/-! loops in a frame with a cell -/
def TurnI (h₀ : Heap) (cs : Scope) (L C I : Addr) (oI : Obj) (J : (Nat → Option Value) → List (Addr × Obj) → Prop) (s : Shared) (f : Flow) (s' : Shared) : Prop :=
  f = .next ∧ ∃ h tk tab oC v₀ news, s' = ⟨h, s.gens, s.drawn, tk, s.os⟩ ∧ Fr h₀ L h (fun y => tab (idx cs y)) ∧ News h₀ L h ((I, oI) :: (C, oC) :: news) ∧ oC.data = .cell v₀ ∧ (∀ p ∈ news, okS p.2 = true) ∧ J tab news
structure LoopK (prog : Program) (w : World) (A : Around) (E : Value → Shared → Prop) (h₀ : Heap) (cs : Scope) (L C : Addr) (x : Str) (px : Pos) (body : List Stmt) (env : Env) (Q : Flow → Shared → Prop) (it : Value) (s : Shared) : Prop where
  out : ∃ (I : Addr) (n : Nat) (P : Nat → Value → Prop) (St : Nat → Heap → Prop) (fpo : List (Addr × Obj)) (tab : Nat → Option Value) (oC : Obj) (v₀ : Option Value) (news : List (Addr × Obj)) (J : Nat → (Nat → Option Value) → List (Addr × Obj) → Prop),
    it = .ref I ∧ Walks prog w A I (I :: fpo.map (·.1)) [I] n P St ∧ St 0 s.heap ∧ (∀ i h, St i h → ∃ oI xs, h.get? I = some oI ∧ oI.data = .fields xs) ∧ I ≠ L ∧ h₀.get? I = none ∧ Fr h₀ L s.heap (fun y => tab (idx cs y)) ∧ News h₀ L s.heap ((C, oC) :: news) ∧ oC.data = .cell v₀ ∧ (∀ p ∈ news, okS p.2 = true) ∧
    J 0 tab news ∧ (∀ i tab news, J i tab news → ∀ p ∈ fpo, p ∈ news) ∧
    (∀ i v oI tab oC v₀ news h g d tk o, i < n → P i v → J i tab news → (∃ xs, oI.data = .fields xs) → oC.data = .cell v₀ → (∀ p ∈ news, okS p.2 = true) → Fr h₀ L h (fun y => tab (idx cs y)) → News h₀ L h ((I, oI) :: (C, oC) :: news) →
      wpAny (model prog w) A (assign (.Name x px) env v) (fun _ s₂ => wpAny (model prog w) A (execs body env) (TurnI h₀ cs L C I oI (J (i + 1)) ⟨h, g, d, tk, o⟩) E s₂) E ⟨h, g, d, tk, o⟩) ∧
    (∀ h tk tab oC v₀ news, Fr h₀ L h (fun y => tab (idx cs y)) → News h₀ L h ((C, oC) :: news) → oC.data = .cell v₀ → (∀ p ∈ news, okS p.2 = true) → J n tab news → Q .next ⟨h, s.gens, s.drawn, tk, s.os⟩)
theorem forI {prog : Program} {w : World} {A : Around} {E : Value → Shared → Prop} {s : Shared} {h₀ : Heap} {cs : Scope} {L C : Addr} {x : Str} {px pos : Pos} {iter : Expr} {body : List Stmt} {env : Env} {Q : Flow → Shared → Prop}
    (h : wpAny (model prog w) A (eval iter env) (fun xv s₁ => wpAny (model prog w) A (pyIter xv) (LoopK prog w A E h₀ cs L C x px body env Q) E s₁) E s)
    (hs : ∀ v, foldedSetIterable iter env v = pure v) (hE : PassesOwn (model prog w) A env E) :
    wpAny (model prog w) A (exec (.For (.Name x px) iter body [] pos) env) Q E s := by
  refine wpAny_For (wpAny_mono h (fun xv s₁ h₁ => wpAny_mono h₁ (fun it s₂ h₂ => ?_) fun _ _ e => e) fun _ _ e => e) hs
  obtain ⟨I, n, P, St, fpo, tab, oC, v₀, news, J, rfl, W, hst, hSt, hIL, hI0, F, N, hC, hok, hJ, hfp, step, done⟩ := h₂.out
  have off : ∀ {i : Nat} {h : Heap} {oC : Obj} {v₀ : Option Value} {news : List (Addr × Obj)}, St i h → News h₀ L h ((C, oC) :: news) → oC.data = .cell v₀ → (∀ p ∈ news, okS p.2 = true) → ∀ p ∈ (C, oC) :: news, p.1 ≠ I := by
    intro i h oC v₀ news hst N hC hok p hp e
    obtain ⟨oI, xs, hg, hd⟩ := hSt i h hst
    have h1 := N.get hp
    rw [e, hg] at h1
    have h2 : oI = p.2 := Option.some.inj h1
    rcases List.mem_cons.mp hp with rfl | hp
    · rw [h2] at hd
      rw [show ((C, oC) : Addr × Obj).2 = oC from rfl, hC] at hd
      cases hd
    · have := hok p hp
      rw [← h2, okS, hd] at this
      cases this
  have next : ∀ {h h₁ : Heap} {tab : Nat → Option Value} {i : Nat} {oC : Obj} {v₀ : Option Value} {news : List (Addr × Obj)}, St i h → oC.data = .cell v₀ → (∀ p ∈ news, okS p.2 = true) → (∀ b o, b ∉ [I] → h.get? b = some o → h₁.get? b = some o) →
      Fr h₀ L h (fun y => tab (idx cs y)) → News h₀ L h ((C, oC) :: news) → Fr h₀ L h₁ (fun y => tab (idx cs y)) ∧ News h₀ L h₁ ((C, oC) :: news) := by
    intro h h₁ tab i oC v₀ news hst hC hok hk F N
    refine ⟨⟨F.ns.at' fun o e => hk L o (by simpa using hIL.symm) e, fun b o e => hk b o (fun hb => ?_) (F.keep b o e), F.above⟩, fun p hp => ⟨hk _ _ (by simpa using off hst N hC hok p hp) (N p hp).1, (N p hp).2⟩⟩
    rw [List.mem_singleton.mp hb, hI0] at e
    cases e
  refine codeAny_forLoop
    (fun k s' => ∃ i h tk tab oC v₀ news, s' = ⟨h, s₂.gens, s₂.drawn, tk, s₂.os⟩ ∧ St i h ∧ Fr h₀ L h (fun y => tab (idx cs y)) ∧ News h₀ L h ((C, oC) :: news) ∧ oC.data = .cell v₀ ∧ (∀ p ∈ news, okS p.2 = true) ∧ J i tab news ∧ i ≤ n ∧ k = n + 1 - i)
    ?_ (n + 1) ⟨0, s₂.heap, s₂.toks, tab, oC, v₀, news, rfl, hst, F, N, hC, hok, hJ, Nat.zero_le _, rfl⟩
  rintro k s' ⟨i, h', tk, tab', oC', v₀', news', rfl, hst', F', N', hC', hok', hJ', hi, rfl⟩
  by_cases hlt : i < n
  · refine W.item i _ _ _ hlt hst' fun v h₁ tk₁ hP hst₁ hk₁ => ?_
    obtain ⟨F₁, N₁⟩ := next hst' hC' hok' hk₁ F' N'
    obtain ⟨oI, xs, hg, hd⟩ := hSt _ _ hst₁
    have NI : News h₀ L h₁ ((I, oI) :: (C, oC') :: news') := by
      intro p hp
      rcases List.mem_cons.mp hp with rfl | hp
      · exact ⟨hg, hIL, hI0⟩
      · exact N₁ p hp
    have hb := step i v oI tab' oC' v₀' news' h₁ s₂.gens s₂.drawn tk₁ s₂.os hlt hP hJ' ⟨xs, hd⟩ hC' hok' F₁ NI
    refine wpAny_passesOwn hE (wpAny_mono hb (fun _ s₃ h₃ => wpAny_passesOwn hE (wpAny_mono h₃ (fun f s₄ ht => ?_) fun _ _ e => e)) fun _ _ e => e)
    obtain ⟨rfl, h₂, tk₂, tab₂, oC₂, v₂, news₂, rfl, F₂, N₂, hC₂, hok₂, hJ₂⟩ := ht
    refine ⟨n + 1 - (i + 1), by omega, i + 1, h₂, tk₂, tab₂, oC₂, v₂, news₂, rfl, ?_, F₂, fun p hp => N₂ p (.tail _ hp), hC₂, hok₂, hJ₂, hlt, rfl⟩
    refine W.frame _ _ _ hst₁ fun b hb o e => ?_
    rcases List.mem_cons.mp hb with rfl | hb
    · rw [hg] at e
      cases e
      exact N₂.get (.head _)
    · obtain ⟨q, hq, rfl⟩ := List.mem_map.mp hb
      have e1 := N₁.get (List.mem_cons_of_mem _ (hfp i tab' news' hJ' q hq))
      rw [e1] at e
      cases e
      exact N₂.get (List.mem_cons_of_mem _ (List.mem_cons_of_mem _ (hfp (i + 1) tab₂ news₂ hJ₂ q hq)))
  · have hin : i = n := by omega
    subst hin
    refine W.done _ _ _ hst' fun h₁ tk₁ hk₁ => wpAny_execs_nil ?_
    obtain ⟨F₁, N₁⟩ := next hst' hC' hok' hk₁ F' N'
    exact done h₁ tk₁ tab' oC' v₀' news' F₁ N₁ hC' hok' hJ'
end PartR3
local macro_rules | `(tactic| walk_at "m pad") => `(tactic| skip)
section PartR4
section
variable {prog : Program} {w : World} {A : Around} {E : Value → Shared → Prop} {s : Shared} {h₀ : Heap} {cs : Scope} {L C : Addr} {x : Str} {px pos : Pos} {iter elt : Expr} {body : List Stmt} {env : Env}
theorem push_one {h : Heap} {m : Str → Option Value} {news : List (Addr × Obj)} (o : Obj) (F : Fr h₀ L h m) (N : News h₀ L h news) : Fr h₀ L (h.push o) m ∧ News h₀ L (h.push o) news ∧ h.objs.size ≠ L ∧ h₀.get? h.objs.size = none := by
  refine ⟨F.push _, fun p hp => ⟨Heap.get?_push_of_some _ (N p hp).1, (N p hp).2⟩, Nat.ne_of_gt F.ns.lt, ?_⟩
  cases q : h₀.get? h.objs.size with
  | none => rfl
  | some o' => exact absurd (Heap.lt_size (F.keep _ _ q)) (Nat.lt_irrefl _)
theorem listK {Q : Flow → Shared → Prop} {l : Addr} {vs : List Value} {k : Nat} {tab : Nat → Option Value} {oC : Obj} {v₀ : Option Value} {news : List (Addr × Obj)} (J : Nat → (Nat → Option Value) → List (Addr × Obj) → Prop)
    (F : Fr h₀ L s.heap (fun y => tab (idx cs y))) (N : News h₀ L s.heap ((C, oC) :: news)) (hC : oC.data = .cell v₀) (hok : ∀ p ∈ news, okS p.2 = true) (hh : A.handled = none)
    (hl : (l, ({ cls := .type "list", data := .seq vs.toArray k } : Obj)) ∈ news) (hJ : J 0 tab news) (hfp : ∀ i tab news, J i tab news → (l, ({ cls := .type "list", data := .seq vs.toArray k } : Obj)) ∈ news)
    (step : ∀ i v I oI tab oC v₀ news h g d tk o, vs[i]? = some v → J i tab news → (∃ xs, oI.data = .fields xs) → oC.data = .cell v₀ → (∀ p ∈ news, okS p.2 = true) → Fr h₀ L h (fun y => tab (idx cs y)) → News h₀ L h ((I, oI) :: (C, oC) :: news) →
      wpAny (model prog w) A (assign (.Name x px) env v) (fun _ s₂ => wpAny (model prog w) A (execs body env) (TurnI h₀ cs L C I oI (J (i + 1)) ⟨h, g, d, tk, o⟩) E s₂) E ⟨h, g, d, tk, o⟩)
    (done : ∀ h tk tab oC v₀ news, Fr h₀ L h (fun y => tab (idx cs y)) → News h₀ L h ((C, oC) :: news) → oC.data = .cell v₀ → (∀ p ∈ news, okS p.2 = true) → J vs.length tab news → Q .next ⟨h, s.gens, s.drawn, tk, s.os⟩) :
    wpAny (model prog w) A (pyIter (.ref l)) (LoopK prog w A E h₀ cs L C x px body env Q) E s := by
  have hls : s.heap.IsList l vs.toArray := ⟨_, N.get (.tail _ hl), rfl, k, rfl⟩
  have hlt : l < s.heap.objs.size := Heap.lt_size (N.get (.tail _ hl))
  refine wpAny_pyIter_list hls ?_
  obtain ⟨F', N', hIL, hI0⟩ := push_one { cls := .type "list_iterator", data := .fields #[.ref l, .int 0 0] } F N
  refine ⟨s.heap.objs.size, vs.toArray.size, _, _, [(l, ({ cls := .type "list", data := .seq vs.toArray k } : Obj))], tab, oC, v₀, news, J, rfl, Walks.list hh _ l (Nat.ne_of_lt hlt) vs.toArray, ⟨⟨_, Heap.get?_push_size _ rfl, rfl, rfl⟩, hls.at fun o e => Heap.get?_push_of_some _ e⟩, ?_, hIL, hI0, F', N', hC, hok, hJ,
    fun i tab news hj p hp => ?_, ?_, ?_⟩
  · rintro i h ⟨⟨o, ho, -, hd⟩, -⟩
    exact ⟨o, _, ho, hd⟩
  · rw [List.mem_singleton.mp hp]; exact hfp i tab news hj
  · intro i v oI tab oC v₀ news h g d tk o hi hv
    exact step i v _ oI tab oC v₀ news h g d tk o (by simpa using hv)
  · intro h tk tab oC v₀ news F N hC hok hJ
    exact done h tk tab oC v₀ news F N hC hok (by simpa using hJ)
theorem rangeK {Q : Flow → Shared → Prop} {r : Addr} {n : Nat} {t1 t2 t3 : Tok} {tab : Nat → Option Value} {oC : Obj} {v₀ : Option Value} {news : List (Addr × Obj)} (J : Nat → (Nat → Option Value) → List (Addr × Obj) → Prop)
    (F : Fr h₀ L s.heap (fun y => tab (idx cs y))) (N : News h₀ L s.heap ((C, oC) :: news)) (hC : oC.data = .cell v₀) (hok : ∀ p ∈ news, okS p.2 = true) (hh : A.handled = none)
    (hr : IsRange s.heap r 0 n 1 t1 t2 t3) (hn : n ≤ 3) (hJ : J 0 tab news)
    (step : ∀ i t I oI tab oC v₀ news h g d tk o, i < n → J i tab news → (∃ xs, oI.data = .fields xs) → oC.data = .cell v₀ → (∀ p ∈ news, okS p.2 = true) → Fr h₀ L h (fun y => tab (idx cs y)) → News h₀ L h ((I, oI) :: (C, oC) :: news) →
      wpAny (model prog w) A (assign (.Name x px) env (.int i t)) (fun _ s₂ => wpAny (model prog w) A (execs body env) (TurnI h₀ cs L C I oI (J (i + 1)) ⟨h, g, d, tk, o⟩) E s₂) E ⟨h, g, d, tk, o⟩)
    (done : ∀ h tk tab oC v₀ news, Fr h₀ L h (fun y => tab (idx cs y)) → News h₀ L h ((C, oC) :: news) → oC.data = .cell v₀ → (∀ p ∈ news, okS p.2 = true) → J n tab news → Q .next ⟨h, s.gens, s.drawn, tk, s.os⟩) :
    wpAny (model prog w) A (pyIter (.ref r)) (LoopK prog w A E h₀ cs L C x px body env Q) E s := by
  refine wpAny_pyIter_range hr ?_ ?_
  · have : n = 0 ∨ n = 1 ∨ n = 2 ∨ n = 3 := by omega
    rcases this with rfl | rfl | rfl | rfl <;> decide
  have e : Builtin.Range.rangeSize 0 n 1 = (n : Int) := by
    have : n = 0 ∨ n = 1 ∨ n = 2 ∨ n = 3 := by omega
    rcases this with rfl | rfl | rfl | rfl <;> decide
  rw [e]
  obtain ⟨F', N', hIL, hI0⟩ := push_one { cls := .type "range_iterator", data := .fields #[rawInt 0, rawInt n, rawInt 1] } F N
  refine ⟨s.heap.objs.size, n, _, _, [], tab, oC, v₀, news, J, rfl, Walks.range hh _ 0 1 n, ?_, ?_, hIL, hI0, F', N', hC, hok, hJ, fun i tab news hj p hp => (by cases hp), ?_, done⟩
  · have := Heap.get?_push_size s.heap (o := { cls := .type "range_iterator", data := .fields #[rawInt 0, rawInt n, rawInt 1] }) rfl
    simpa using this
  · intro i h st
    exact ⟨_, _, st, rfl⟩
  · rintro i v oI tab oC v₀ news h g d tk o hi ⟨t, rfl⟩ hj h1 h2 h3 F N
    have e1 : (0 : Int) + (i : Int) * 1 = i := by omega
    rw [e1]
    exact step i t _ oI tab oC v₀ news h g d tk o hi hj h1 h2 h3 F N
theorem compT {Q : Value → Shared → Prop} {scope : Scope} {cl : List (Str × Addr)} {m₀ : Str → Option Value} (_F₀ : Fr h₀ L s.heap m₀) (hclos : closureFor scope env = pure cl) (hcell : ∀ y ∈ scope.names, y.2 ≠ .cell) (hkind : scope.kind = .function)
    (hnames : ∀ y ∈ scope.names, y.2 = .local → scope.names.lookup y.1 = some .local) (hx : scope.names.lookup x = some .local) (hh : A.handled = none)
    (h : wpAny (model prog w) A (eval iter env) (fun xv s₁ => ∃ (l : Addr) (vs : List Value) (m : Str → Option Value) (news : List (Addr × Obj)), xv = .ref l ∧ s₁.heap.IsList l vs.toArray ∧ vs.length ≤ 100 ∧ Fr h₀ L s₁.heap m ∧ News h₀ L s₁.heap news ∧
      (∀ C' v s₂ m₂ E', v ∈ vs → s₂.heap.Ns C' m₂ → m₂ x = some v → (∀ b o, s₁.heap.get? b = some o → s₂.heap.get? b = some o) → wpAny (model prog w) A (eval elt (compEnvC scope cl C' env)) (fun y s₃ => y = .bool true ∧ Keeps s₂ s₃) E' s₂) ∧
      (∀ D k h' tk, Fr h₀ L h' m → News h₀ L h' ((D, { cls := .type "list", data := .seq (List.replicate vs.length (Value.bool true)).toArray k }) :: news) → Q (.ref D) { s₁ with heap := h', toks := tk })) E s)
    (hs : ∀ v, foldedSetIterable iter env v = pure v) :
    wpAny (model prog w) A (eval (.ListComp elt [⟨.Name x px, iter, [], 0⟩] scope pos) env) Q E s := by
  refine wpAny_ListComp_free (fun _ => true) (fun _ y => y = .bool true) hclos hcell hkind hnames hx (wpAny_mono h (fun xv s₁ h₁ => ?_) fun _ _ e => e) hs
  obtain ⟨l, vs, m, news, rfl, hl, hsz, F, N, helt, hQ⟩ := h₁
  have hlt : l < s₁.heap.objs.size := by obtain ⟨_, e, _⟩ := hl; exact Heap.lt_size e
  have up : ∀ (h₃ : Heap), (∀ b o, b ∉ [s₁.heap.objs.size] → (s₁.heap.push { cls := .type "list_iterator", data := .fields #[.ref l, .int 0 0] }).get? b = some o → h₃.get? b = some o) → ∀ b o, s₁.heap.get? b = some o → h₃.get? b = some o :=
    fun s₃ hk b o e => hk b o (fun hm => by rcases List.mem_cons.mp hm with rfl | hm; exact Nat.lt_irrefl _ (Heap.lt_size e); cases hm) (Heap.get?_push_of_some _ e)
  refine wpAny_pyIter_list hl ⟨s₁.heap.objs.size, [s₁.heap.objs.size, l], [s₁.heap.objs.size], vs.toArray.size, _, _, rfl, Walks.list hh _ _ (Nat.ne_of_lt hlt) vs.toArray, (by rw [List.size_toArray]; exact Nat.le_trans hsz (by decide)), ⟨⟨_, Heap.get?_push_size _ rfl, rfl, rfl⟩, hl.push _⟩, ?_, ⟨?_, ?_⟩, ?_⟩
  · intro b hb
    show b < (s₁.heap.push _).objs.size
    rw [Heap.size_push]
    rcases List.mem_cons.mp hb with rfl | hb
    · exact Nat.lt_succ_self _
    · rcases List.mem_cons.mp hb with rfl | hb
      · exact Nat.lt_succ_of_lt hlt
      · cases hb
  · intro C' i v s₃ m₃ E' _ hP hn hm hk _
    rw [List.forIn_nil]
    exact wpAny_pure ⟨rfl, s₃.heap, s₃.toks, rfl, fun _ _ e => e⟩
  · intro C' i v s₃ m₃ E' _ hP hp hn hm hk _
    exact helt C' v s₃ m₃ E' (by simpa using Array.mem_of_getElem? hP) hn hm (up s₃.heap hk)
  · intro D h' tk ys vs' hnew hlD hpl hlen hP hF hk
    have e : vs' = vs := by simpa using list_of_places hlen hP
    subst e
    have keep := up h' hk
    have hys : ys.toList = List.replicate vs'.length (Value.bool true) := by
      have hf : vs'.filter (fun _ => true) = vs' := by simp
      rw [hf] at hF
      clear hf hQ helt hP hlen hk hl hpl hlD hsz
      generalize ys.toList = zs at hF
      induction hF with
      | nil => rfl
      | cons h1 _ ih => rw [h1, ih]; rfl
    obtain ⟨k, hD⟩ := hpl
    have e2 : ys = (List.replicate vs'.length (Value.bool true)).toArray := by rw [← hys]
    rw [e2] at hD
    refine hQ D k h' tk (F.keeps keep) ?_
    intro p hp
    rcases List.mem_cons.mp hp with rfl | hp
    · refine ⟨hD, fun e => ?_, ?_⟩
      · obtain ⟨oL, _, _, hL, _⟩ := F.ns
        rw [show D = L from e, Heap.get?_push_of_some _ hL] at hnew; cases hnew
      · cases q : h₀.get? D with
        | none => rfl
        | some o => rw [Heap.get?_push_of_some _ (F.keep _ _ q)] at hnew; cases hnew
    · exact (N.grown keep) p hp
theorem allT {Q : Value → Shared → Prop} {D : Addr} {n k : Nat} {m : Str → Option Value} {news : List (Addr × Obj)} {h : Heap} {g : Array GenState} {d : Drawn} {tk : Nat} {o : OsState} (F : Fr h₀ L h m) (N : News h₀ L h news)
    (hl : (D, ({ cls := .type "list", data := .seq (List.replicate n (Value.bool true)).toArray k } : Obj)) ∈ news) (hh : A.handled = none)
    (q : ∀ h' tk, Fr h₀ L h' m → News h₀ L h' news → Q (.bool true) ⟨h', g, d, tk, o⟩) : wpAny (model prog w) A (call (.builtin "all") [.ref D]) Q E ⟨h, g, d, tk, o⟩ := by
  have hls : h.IsList D (List.replicate n (Value.bool true)).toArray := ⟨_, N.get hl, rfl, k, rfl⟩
  have hlt : D < h.objs.size := Heap.lt_size (N.get hl)
  refine call_all_walk (wpAny_pyIter_list (s := ⟨h, g, d, tk, o⟩) hls ?_)
  refine ⟨h.objs.size, _, _, _, _, _, fun _ => true, rfl, Walks.list (A := A.in1) hh _ _ (Nat.ne_of_lt hlt) (List.replicate n (Value.bool true)).toArray, ⟨⟨_, Heap.get?_push_size _ rfl, rfl, rfl⟩, hls.push _⟩, ?_, ?_⟩
  · intro i v s Q E hP hQ
    have e : v = .bool true := by
      have := Array.mem_of_getElem? hP
      simp only [List.mem_toArray, List.mem_replicate] at this
      exact this.2
    rw [e]; exact wpAny_truthy_bool hQ
  · intro h' tk' hk
    obtain ⟨F', N', hIL, hI0⟩ := push_one { cls := .type "list_iterator", data := .fields #[.ref D, .int 0 0] } F N
    have e : (List.range (List.replicate n (Value.bool true)).toArray.size).all (fun _ => true) = true := by simp
    rw [e]
    have hk' : ∀ b o, h.get? b = some o → h'.get? b = some o := fun b o e => hk b o (fun hm => by rw [List.mem_singleton.mp hm] at e; exact Nat.lt_irrefl _ (Heap.lt_size e)) (Heap.get?_push_of_some _ e)
    exact q h' tk' (Fr.keeps F hk') (N.grown hk')
end
end PartR4
local macro_rules | `(tactic| walk_at "m pad") => `(tactic| skip)
section PartR5
/-- x stands for v in every heap above H -/
def NameIs (Mo : Model) (env : Env) (H : Heap) (x : Str) (v : Value) : Prop := ∀ (A : Around) (E : Value → Shared → Prop) (Q : Value → Shared → Prop) (s : Shared) (pos : Pos), (∀ b o, H.get? b = some o → s.heap.get? b = some o) → Q v s → wpAny Mo A (eval (.Name x pos) env) Q E s
theorem call2 {prog : Program} {w : World} {A : Around} {E : Value → Shared → Prop} {s : Shared} {env : Env} {f n1 n2 : Str} {p0 p1 p2 pos : Pos} {fa : Addr} {v1 v2 : Value} {Q : Value → Shared → Prop} {o : Obj} {fd : FuncData}
    (h0 : NameIs (model prog w) env s.heap f (.ref fa)) (h1 : NameIs (model prog w) env s.heap n1 v1) (h2 : NameIs (model prog w) env s.heap n2 v2) (ho : s.heap.get? fa = some o) (hd : o.data = .func fd)
    (h : wpAny (model prog w) A (call (.ref fa) [v1, v2]) Q E s) :
    wpAny (model prog w) A (eval (.Call (.Name f p0) [.Name n1 p1, .Name n2 p2] [] pos) env) Q E s := by
  refine Call_ ?_
  refine h0 _ _ _ _ _ (fun _ _ e => e) ?_
  refine callWith_def hd ?_
  walk1
  refine h1 _ _ _ _ _ (fun _ _ e => e) ?_
  walk1
  refine h2 _ _ _ _ _ (fun _ _ e => e) ?_
  walk1
  exact ⟨ho, h⟩
theorem look_free {env : Env} : ∀ {names : List (Str × NameKind)} {x : Str}, names.lookup x = some .free → env.scope.kind = .function → env.kindOf x = some .cell →
    (names.map fun (n, k) => if (k == NameKind.free && env.scope.kind == .function && env.kindOf n == some .cell) then (n, NameKind.cell) else (n, k)).lookup x = some .cell
  | [], _, h, _, _ => by simp at h
  | (n, k) :: r, x, h, hk, hc => by
    have ih := @look_free env r x
    cases hx : x == n with
    | true =>
      simp only [List.lookup_cons, hx] at h
      cases h
      have e : n = x := (eq_of_beq hx).symm
      subst e
      simp [List.lookup_cons, hk, hc]
    | false =>
      simp only [List.lookup_cons, hx] at h
      show List.lookup x ((if (k == NameKind.free && env.scope.kind == .function && env.kindOf n == some .cell) = true then (n, NameKind.cell) else (n, k)) :: _) = _
      split <;> (simp only [List.lookup_cons, hx]; exact ih h hk hc)
theorem look_glob {env : Env} : ∀ {names : List (Str × NameKind)} {x : Str}, names.lookup x = some .globalImplicit →
    (names.map fun (n, k) => if (k == NameKind.free && env.scope.kind == .function && env.kindOf n == some .cell) then (n, NameKind.cell) else (n, k)).lookup x = some .globalImplicit
  | [], _, h => by simp at h
  | (n, k) :: r, x, h => by
    have ih := @look_glob env r x
    cases hx : x == n with
    | true =>
      simp only [List.lookup_cons, hx] at h
      cases h
      have e : n = x := (eq_of_beq hx).symm
      subst e
      show List.lookup n ((if (NameKind.globalImplicit == NameKind.free && env.scope.kind == .function && env.kindOf n == some .cell) = true then (n, NameKind.cell) else (n, NameKind.globalImplicit)) :: _) = _
      rw [if_neg (by simp)]
      simp
    | false =>
      simp only [List.lookup_cons, hx] at h
      show List.lookup x ((if (k == NameKind.free && env.scope.kind == .function && env.kindOf n == some .cell) = true then (n, NameKind.cell) else (n, k)) :: _) = _
      split <;> (simp only [List.lookup_cons, hx]; exact ih h)
section
variable {M : Model} {K : Frag} {h₀ H : Heap} {L a C C' : Addr} {mg mb : Str → Option Value} {cn : Str} {cs scope : Scope} {ccd : Value} {cl : List (Str × Addr)} {p : Program} {loose : List Str} {mean : ExcName → Option Value} {x : Str} {v : Value}
theorem ni_cell (hb : Cel cs cl x C) (hn : scope.names.lookup x = some .free) (hk : scope.kind = .function) (hd : (x == ("__debug__" : Str)) = false) (hv : H.IsCell C (some v)) :
    NameIs M (compEnvC scope [(x, C)] C' (envX cn cs L a ccd cl)) H x v := by
  intro A E Q s pos hup h
  refine wpAny_Name (wpAny_loadName_cell (env := compEnvC scope [(x, C)] C' (envX cn cs L a ccd cl)) hk (look_free hn hb.fn hb.kind) ?_ (hv.keeps hup) h) hd
  show List.lookup x [(x, C)] = some C
  simp
theorem ni_local {m₂ : Str → Option Value} {env : Env} {cl' : List (Str × Addr)} (hn : scope.names.lookup x = some .local) (hk : scope.kind = .function) (hd : (x == ("__debug__" : Str)) = false) (hns : H.Ns C' m₂) (hv : m₂ x = some v) :
    NameIs M (compEnvC scope cl' C' env) H x v := by
  intro A E Q s pos hup h
  exact wpAny_Name (wpAny_loadName_local (env := compEnvC scope cl' C' env) hk (lookup_relabel_local hn) (hns.at' fun o e => hup _ o e) hv h) hd
theorem ni_glob (hg : nsIn K mainGlobals x = some (some v)) (hn : scope.names.lookup x = some .globalImplicit) (hk : scope.kind = .function) (hd : (x == ("__debug__" : Str)) = false) {cl' : List (Str × Addr)}
    (hup0 : ∀ b o, h₀.get? b = some o → H.get? b = some o) (X : K.In h₀) (T : Top p loose mean mg mb h₀) : NameIs M (compEnvC scope cl' C' (envX cn cs L a ccd cl)) H x v := by
  intro A E Q s pos hup h
  have TR := topRead_of T
  exact Name_function_global (env := compEnvC scope cl' C' (envX cn cs L a ccd cl)) hk (look_glob hn) (loadGlobal_global (env := compEnvC scope cl' C' (envX cn cs L a ccd cl)) (TR.g.keeps fun b o e => hup b o (hup0 b o e)) (mg_of X TR.g hg) h) hd
end
end PartR5
local macro_rules | `(tactic| walk_at "m pad") => `(tactic| skip)
section PartS1
open Builtin.Int (intBits)
theorem sign_spec {w : World} {A : Around} {E : Value → Shared → Prop} {s : Shared} (W : Rdy w s.heap) (r : Le A 50) {a : Addr} {sg man ex bc : Int} {t1 t2 t3 t4 : Tok} (ha : IsTup s.heap a #[.int sg t1, .int man t2, .int ex t3, .int bc t4]) (h0 : 0 ≤ sg) (h1 : sg ≤ 1) :
    wpAny (model PySem.Challenge.pw_ah5007_01 w) A (call (.ref 116) [.ref a]) (Back s fun v h => ∃ t, v = .int (signF (sg, man, ex, bc)) t) E s := by
  refine enterN (Ns116 w) [(Str.ofString "s", .ref a)] W r (by decide) (by k_is) (by k_is) (BindsTo.of_eq (by rfl)) (by kernel_rfl!) (by walk_at "m names") ?_ rfl rfl rfl (by decide)
  intro cs L h tk0 Nn F
  obtain ⟨i1, i2, i3, i4, i5, g1, g2⟩ := Nn
  obtain ⟨KX, mean, mg, mb, T⟩ := W
  have N : News s.heap L h [] := News.nil
  walk_at "m begin"
  all_goals (refine ⟨_, _, rfl, Fr.keep (by assumption), ktn_int ?_⟩; unfold signF; dsimp only [M.man, M.sg]; (repeat' split) <;> first | rfl | contradiction | (exfalso; simp_all))

theorem trailing_spec {w : World} {A : Around} {E : Value → Shared → Prop} {s : Shared} (W : Rdy w s.heap) (r : Le A 60) {n : Int} {t : Tok} (hn : 0 < n) :
    wpAny (model PySem.Challenge.pw_ah5007_01 w) A (call (.ref 21) [.int n t]) (Back s fun v h => ∃ (t : Tok) (k : Nat) (a : Int), v = .int k t ∧ n = 2 ^ k * (2 * a + 1)) E s := by
  refine enterN (Ns21 w) [(Str.ofString "n", .int n t)] W r (by decide) (by k_is) (by k_is) (BindsTo.of_eq (by rfl)) (by kernel_rfl!) (by walk_at "m names") ?_ rfl rfl rfl (by decide)
  intro cs L h tk0 i1 F
  have i1 : Loc cs (Str.ofString "n") 0 := i1
  obtain ⟨KX, mean, mg, mb, T⟩ := W
  have N : News s.heap L h [] := News.nil
  obtain ⟨k, a, e, _⟩ := odd_split _ n hn (Nat.le_refl _)
  walk_at "m begin"
  · refine ⟨_, _, rfl, Fr.keep (by assumption), ?_⟩
    rw [e, kbt_low, bits_pow]
    have e1 : (((k + 1 : Nat) : Int) - 1) = (k : Int) := by omega
    rw [e1]
    exact ⟨_, k, a, rfl, rfl⟩
  · omega
end PartS1
local macro_rules | `(tactic| walk_at "m pad") => `(tactic| skip)
section PartS2
open Builtin.Int (intBits)
theorem pos_nz {x : Int} (h : 0 < x) : 0 < x := h
local macro_rules | `(tactic| walk_at "call ref") => `(tactic| (k_here; (with_reducible show wpAny _ _ (call (Value.ref 21) _ _) _ _ _); (walk_at "m use"); (case mhc => (refine trailing_spec (by walk_at "m rdy") (by walk_at "m le") ?_; assumption)); (intro v' h' tk' F' N' k' hR'); (obtain ⟨tt', kk', aa', hv', hk'⟩ := hR'); (subst hv'); (clear k'); (try k_sweep)))
local macro_rules | `(tactic| walk_at "m nrm") => `(tactic| first
      | exact nrm2 (by assumption)
      | exact nrm1 (by assumption) (by assumption) (by assumption)
      | exact nrm4 (by assumption) (by assumption)
      | exact nrm3 (by assumption) (by assumption) (by assumption) (by assumption))
theorem nrm_walk {w : World} {A : Around} {E : Value → Shared → Prop} {s : Shared} (W : Rdy w s.heap) (r : Le A 58) {sg man ex bc prec : Int} {rnd : Str} {t1 t2 t3 t4 t5 t6 : Tok}
    (hs : sg = 0 ∨ sg = 1) (hm : 0 < man) (hb : bc = ((intBits man : Nat) : Int)) (hp : 1 ≤ prec)
    (hr : rnd = Str.ofString "n" ∨ rnd = Str.ofString "f" ∨ rnd = Str.ofString "c" ∨ rnd = Str.ofString "d" ∨ rnd = Str.ofString "u") (hz : bc ≤ 100000) :
    wpAny (model PySem.Challenge.pw_ah5007_01 w) A (call (.ref 37) [.int sg t1, .int man t2, .int ex t3, .int bc t4, .int prec t5, .str rnd t6])
      (Back s (FreshM s.heap (mk sg (rq rnd sg man (bc - prec).toNat) (ex + (bc - prec).toNat)))) E s := by
  refine enterN (Ns37 w) [(Str.ofString "sign", .int sg t1), (Str.ofString "man", .int man t2), (Str.ofString "exp", .int ex t3), (Str.ofString "bc", .int bc t4), (Str.ofString "prec", .int prec t5), (Str.ofString "rnd", .str rnd t6)]
    W r (by decide) (by k_is) (by k_is) (BindsTo.of_eq (by rfl)) (by kernel_rfl!) (by walk_at "m names") ?_ rfl rfl rfl (by decide)
  intro cs L h tk0 Nn F
  obtain ⟨i1, i2, i3, i4, i5, i6, i7, i8, g1, g2, g3, g4, g5⟩ := Nn
  obtain ⟨KX, mean, mg, mb, T⟩ := W
  have N : News s.heap L h [] := News.nil
  have hm0 : man ≠ 0 := by omega
  by_cases hn : bc - prec ≤ 0
  · have e0 : (bc - prec).toNat = 0 := by omega
    rw [e0, rq_zero]
    have eE : ex + ((0 : Nat) : Int) = ex := by omega
    rw [eE]
    have hB : Bok man bc := .inl hb
    have hn' : ¬ 0 < bc - prec := by omega
    walk_at "m begin"
    all_goals try (exfalso; omega)
    all_goals walk_at "m fresh"
    all_goals walk_at "m nrm"
  · have hn' : 0 < bc - prec := by omega
    have eN : ((bc - prec).toNat : Int) = bc - prec := by omega
    have hB : intBits man = (bc - prec).toNat + prec.toNat := by omega
    have hQ := fun rnd => rq_bok (rnd := rnd) (sg := sg) hm (show 0 < prec.toNat by omega) hB
    rw [show ((prec.toNat : Nat) : Int) = prec by omega] at hQ
    rw [eN]
    rcases hr with rfl | hr
    · obtain ⟨n1, n2, n3, n4, n5, n6⟩ := near_all (man := man) (d := bc - prec) (by omega) sg
      have c0 := (cut_bits hm (show 0 < prec.toNat by omega) hB).1
      have c1 := p2pos (prec.toNat - 1)
      have P1 := n1 (by omega)
      have P2 := n2 (by omega)
      obtain ⟨_, hq⟩ := hQ (Str.ofString "n")
      clear n1 n2 c0 c1 hQ
      walk_at "m begin"
      all_goals try (exfalso; omega)
      all_goals walk_at "m fresh"
      all_goals first
        | rw [n3 (by assumption)] at hq ⊢
        | rw [n4 (by assumption) (by assumption)] at hq ⊢
        | rw [n6 (by assumption) (by assumption) (by assumption)] at hq ⊢
        | rw [n5 (by assumption) (by assumption)] at hq ⊢
      all_goals walk_at "m nrm"
    · have hcase : (rnd ≠ Str.ofString "n" ∧ ¬ (rnd = Str.ofString "u" ∨ (rnd = Str.ofString "c" ∧ sg = 0) ∨ (rnd = Str.ofString "f" ∧ sg = 1))) ∨ (rnd ≠ Str.ofString "n" ∧ (rnd = Str.ofString "u" ∨ (rnd = Str.ofString "c" ∧ sg = 0) ∨ (rnd = Str.ofString "f" ∧ sg = 1))) := by
        rcases hr with rfl | rfl | rfl | rfl <;> rcases hs with rfl | rfl <;> decide
      have hq := hQ rnd
      clear hQ
      rcases hcase with ⟨ha, hc⟩ | ⟨ha, hc⟩
      · rw [down_all ha hc] at hq ⊢
        obtain ⟨hp1, hp2⟩ := hq
        clear ha
        rcases hr with rfl | rfl | rfl | rfl <;> rcases hs with rfl | rfl
        all_goals try (exfalso; revert hc; decide)
        all_goals clear hc
        all_goals (walk_at "m begin")
        all_goals try (exfalso; omega)
        all_goals walk_at "m fresh"
        all_goals walk_at "m nrm"
      · rw [up_all ha hc] at hq ⊢
        obtain ⟨hp1, hp2⟩ := hq
        clear ha
        rcases hr with rfl | rfl | rfl | rfl <;> rcases hs with rfl | rfl
        all_goals try (exfalso; revert hc; decide)
        all_goals clear hc
        all_goals (walk_at "m begin")
        all_goals try (exfalso; omega)
        all_goals walk_at "m fresh"
        all_goals walk_at "m nrm"
end PartS2
local macro_rules | `(tactic| walk_at "m pad") => `(tactic| skip)
local macro_rules | `(tactic| walk_at "m pad") => `(tactic| skip)
local macro_rules | `(tactic| walk_at "m pad") => `(tactic| skip)
section PartS3
open Builtin.Int (intBits)
local macro_rules | `(tactic| walk_at "call ref") => `(tactic| (k_here; (with_reducible show wpAny _ _ (call (Value.ref 37) _ _) _ _ _); (walk_at "m useF"); (case mhc => (refine nrm_walk (by walk_at "m rdy") (by walk_at "m le") ?_ ?_ ?_ ?_ ?_ ?_ <;> assumption)); (intro D' t1' t2' t3' t4' h' tk' F' N'); (try k_sweep)))
theorem norm_spec {w : World} {A : Around} {E : Value → Shared → Prop} {s : Shared} (W : Rdy w s.heap) (r : Le A 56) {sg man ex bc prec : Int} {rnd : Str} {t1 t2 t3 t4 t5 t6 : Tok}
    (hs : sg = 0 ∨ sg = 1) (hm : 0 < man) (hb : bc = ((intBits man : Nat) : Int)) (hp : 1 ≤ prec)
    (hr : rnd = Str.ofString "n" ∨ rnd = Str.ofString "f" ∨ rnd = Str.ofString "c" ∨ rnd = Str.ofString "d" ∨ rnd = Str.ofString "u") (hz : bc ≤ 100000) :
    wpAny (model PySem.Challenge.pw_ah5007_01 w) A (call (.ref 44) [.int sg t1, .int man t2, .int ex t3, .int bc t4, .int prec t5, .str rnd t6])
      (Back s (FreshM s.heap (mk sg (rq rnd sg man (bc - prec).toNat) (ex + (bc - prec).toNat)))) E s := by
  refine enterN (Ns44 w) [(Str.ofString "sign", .int sg t1), (Str.ofString "man", .int man t2), (Str.ofString "exp", .int ex t3), (Str.ofString "bc", .int bc t4), (Str.ofString "prec", .int prec t5), (Str.ofString "rnd", .str rnd t6)]
    W r (by decide) (by k_is) (by k_is) (BindsTo.of_eq (by rfl)) (by kernel_rfl!) (by walk_at "m names") ?_ rfl rfl rfl (by decide)
  intro cs L h tk0 Nn F
  obtain ⟨i1, i2, i3, i4, i5, i6, g1⟩ := Nn
  obtain ⟨KX, mean, mg, mb, T⟩ := W
  have N : News s.heap L h [] := News.nil
  have h0 : 0 ≤ man := by omega
  have k0 := F.keep
  walk_at "m begin"
  walk_at "m fresh"
  rfl
theorem eq_spec {w : World} {A : Around} {E : Value → Shared → Prop} {s : Shared} (W : Rdy w s.heap) (r : Le A 40) {a b : Addr} {sg man ex bc sg' man' ex' bc' : Int} {t1 t2 t3 t4 u1 u2 u3 u4 : Tok}
    (ha : IsTup s.heap a #[.int sg t1, .int man t2, .int ex t3, .int bc t4]) (hb : IsTup s.heap b #[.int sg' u1, .int man' u2, .int ex' u3, .int bc' u4]) :
    wpAny (model PySem.Challenge.pw_ah5007_01 w) A (call (.ref 51) [.ref a, .ref b]) (Back s fun v _ => v = .bool (decide (((sg, man, ex, bc) : M) = (sg', man', ex', bc') ∧ ((sg, man, ex, bc) : M) ≠ mNan))) E s := by
  refine enterN (Ns51 w) [(Str.ofString "s", .ref a), (Str.ofString "t", .ref b)]
    W r (by decide) (by k_is) (by k_is) (BindsTo.of_eq (by rfl)) (by kernel_rfl!) (by walk_at "m names") ?_ rfl rfl rfl (by decide)
  intro cs L h tk0 Nn F
  obtain ⟨i1, i2, g1⟩ := Nn
  obtain ⟨KX, mean, mg, mb, T⟩ := W
  have N : News s.heap L h [] := News.nil
  walk_at "m begin"
  all_goals (refine ⟨_, _, rfl, Fr.keep (by assumption), ?_⟩; dsimp only; congr 1; simp_all)
end PartS3
local macro_rules | `(tactic| walk_at "m pad") => `(tactic| skip)
local macro_rules | `(tactic| walk_at "m pad") => `(tactic| skip)
section PartS4
open Builtin.Int (intBits)
local macro_rules | `(tactic| walk_at "call ref") => `(tactic| (k_here; (with_reducible show wpAny _ _ (call (Value.ref 44) _ _) _ _ _); (walk_at "m useF"); (case mhc => (refine norm_spec (by walk_at "m rdy") (by walk_at "m le") ?_ ?_ ?_ ?_ ?_ ?_ <;> first | decide | rfl | omega)); (intro D' t1' t2' t3' t4' h' tk' F' N'); (try k_sweep)))
theorem addU_spec {w : World} {A : Around} {E : Value → Shared → Prop} {s : Shared} (W : Rdy w s.heap) (r : Le A 54) {a b : Addr} {sg man ex bc man' ex' bc' : Int} {t1 t2 t3 t4 u1 u2 u3 u4 t5 t6 t7 : Tok}
    (ha : IsTup s.heap a #[.int sg t1, .int man t2, .int ex t3, .int bc t4]) (hb : IsTup s.heap b #[.int sg u1, .int man' u2, .int ex' u3, .int bc' u4])
    (hx : NzM (sg, man, ex, bc)) (hy : NzM (sg, man', ex', bc')) (he : ex' < ex) (ht : bc + ex = bc' + ex') :
    wpAny (model PySem.Challenge.pw_ah5007_01 w) A (call (.ref 124) [.ref a, .ref b, .int 5 t5, .str (Str.ofString "f") t6, .int 1 t7])
      (Back s fun v h => ∃ z : M, FreshM s.heap z v h ∧ z.1 = if 0 ≤ (if sg = 0 then man * 2 ^ (ex - ex').toNat - man' else man' - man * 2 ^ (ex - ex').toNat) then 0 else 1) E s := by
  obtain ⟨hs, hm, ho, hc, hf, hl, hh⟩ := hx
  obtain ⟨-, hm', ho', hc', hf', hl', hh'⟩ := hy
  dsimp only at hs hm ho hc hf hl hh hm' ho' hc' hf' hl' hh'
  obtain ⟨e1, e2⟩ := even_odd (a := man) (b := man') (d := ex - ex') (by omega) ho'
  obtain ⟨b1, b2, b3, b4⟩ := few_diff (a := man) (b := man') (d := ex - ex') hf hf' (by omega)
  have z1 : (intBits man : Int) + (ex - ex') ≤ 2 ^ 27 := by omega
  have o1 : 0 < ex - ex' := by omega
  have o2 : ex - ex' ≠ 0 := by omega
  have o3 : man ≠ 0 := by omega
  have o4 : man' ≠ 0 := by omega
  have o5 : ¬ 5 + 4 < bc + ex - bc' - ex' := by omega
  rcases hs with rfl | rfl
  all_goals
    refine enterN (Ns124 w) [(Str.ofString "s", .ref a), (Str.ofString "t", .ref b), (Str.ofString "prec", .int 5 t5), (Str.ofString "rnd", .str (Str.ofString "f") t6), (Str.ofString "_sub", .int 1 t7)]
      W r (by decide) (by k_is) (by k_is) (BindsTo.of_defaults (T := 117) rfl (W.K _ _ (by k_is)) rfl rfl rfl) (by kernel_rfl!) (by walk_at "m names") ?_ rfl rfl rfl (by decide)
    intro cs L h tk0 Nn F
    obtain ⟨i1, i2, i3, i4, i5, i6, i7, i8, i9, i10, i11, i12, i13, i14, i15, i16, i17, g1, g2, g3⟩ := Nn
    obtain ⟨KX, mean, mg, mb, T⟩ := W
    have N : News s.heap L h [] := News.nil
    have k0 := F.keep
    walk_at "m begin"
  all_goals (refine ⟨_, _, rfl, Fr.keep (by assumption), _, fresh_of (by assumption) (by k_mem) rfl, ?_⟩)
  all_goals (refine (mk_sign (rq_pos ?_ rfl (by decide))).trans ?_)
  all_goals first | omega | (simp only [if_pos, if_neg, *]; first | rfl | omega) | trace_state
theorem addD_spec {w : World} {A : Around} {E : Value → Shared → Prop} {s : Shared} (W : Rdy w s.heap) (r : Le A 54) {a b : Addr} {sg man ex bc man' ex' bc' : Int} {t1 t2 t3 t4 u1 u2 u3 u4 t5 t6 t7 : Tok}
    (ha : IsTup s.heap a #[.int sg t1, .int man t2, .int ex t3, .int bc t4]) (hb : IsTup s.heap b #[.int sg u1, .int man' u2, .int ex' u3, .int bc' u4])
    (hx : NzM (sg, man, ex, bc)) (hy : NzM (sg, man', ex', bc')) (he : ex < ex') (ht : bc + ex = bc' + ex') :
    wpAny (model PySem.Challenge.pw_ah5007_01 w) A (call (.ref 124) [.ref a, .ref b, .int 5 t5, .str (Str.ofString "f") t6, .int 1 t7])
      (Back s fun v h => ∃ z : M, FreshM s.heap z v h ∧ z.1 = if 0 ≤ (if sg = 0 then man - man' * 2 ^ (-(ex - ex')).toNat else man' * 2 ^ (-(ex - ex')).toNat - man) then 0 else 1) E s := by
  obtain ⟨hs, hm, ho, hc, hf, hl, hh⟩ := hx
  obtain ⟨-, hm', ho', hc', hf', hl', hh'⟩ := hy
  dsimp only at hs hm ho hc hf hl hh hm' ho' hc' hf' hl' hh'
  obtain ⟨e1, e2⟩ := even_odd (a := man') (b := man) (d := -(ex - ex')) (by omega) ho
  obtain ⟨b1, b2, b3, b4⟩ := few_diff (a := man') (b := man) (d := -(ex - ex')) hf' hf (by omega)
  have z1 : (intBits man' : Int) + -(ex - ex') ≤ 2 ^ 27 := by omega
  have o1 : ¬ 0 < ex - ex' := by omega
  have o6 : ex - ex' < 0 := by omega
  have o2 : ex - ex' ≠ 0 := by omega
  have o3 : man ≠ 0 := by omega
  have o4 : man' ≠ 0 := by omega
  have o5 : ¬ 5 + 4 < bc' + ex' - bc - ex := by omega
  rcases hs with rfl | rfl
  all_goals
    refine enterN (Ns124 w) [(Str.ofString "s", .ref a), (Str.ofString "t", .ref b), (Str.ofString "prec", .int 5 t5), (Str.ofString "rnd", .str (Str.ofString "f") t6), (Str.ofString "_sub", .int 1 t7)]
      W r (by decide) (by k_is) (by k_is) (BindsTo.of_defaults (T := 117) rfl (W.K _ _ (by k_is)) rfl rfl rfl) (by kernel_rfl!) (by walk_at "m names") ?_ rfl rfl rfl (by decide)
    intro cs L h tk0 Nn F
    obtain ⟨i1, i2, i3, i4, i5, i6, i7, i8, i9, i10, i11, i12, i13, i14, i15, i16, i17, g1, g2, g3⟩ := Nn
    obtain ⟨KX, mean, mg, mb, T⟩ := W
    have N : News s.heap L h [] := News.nil
    have k0 := F.keep
    walk_at "m begin"
  all_goals (refine ⟨_, _, rfl, Fr.keep (by assumption), _, fresh_of (by assumption) (by k_mem) rfl, ?_⟩)
  all_goals (refine (mk_sign (rq_pos ?_ rfl (by decide))).trans ?_)
  all_goals first | omega | (simp only [if_pos, if_neg, *]; first | rfl | omega) | trace_state

local macro_rules | `(tactic| walk_at "call ref") => `(tactic| (k_here; (with_reducible show wpAny _ _ (call (Value.ref 124) _ _) _ _ _); (walk_at "m use"); (case mhc => first | (refine addU_spec (by walk_at "m rdy") (by walk_at "m le") (by walk_at "m tup") (by walk_at "m tup") ?_ ?_ ?_ ?_ <;> assumption) | (refine addD_spec (by walk_at "m rdy") (by walk_at "m le") (by walk_at "m tup") (by walk_at "m tup") ?_ ?_ ?_ ?_ <;> assumption)); (intro v' h' tk' F' N' k' hR'); (try k_sweep)))
theorem sub_spec {w : World} {A : Around} {E : Value → Shared → Prop} {s : Shared} (W : Rdy w s.heap) (r : Le A 53) {a b : Addr} {sg man ex bc man' ex' bc' : Int} {t1 t2 t3 t4 u1 u2 u3 u4 t5 t6 : Tok}
    (ha : IsTup s.heap a #[.int sg t1, .int man t2, .int ex t3, .int bc t4]) (hb : IsTup s.heap b #[.int sg u1, .int man' u2, .int ex' u3, .int bc' u4])
    (hx : NzM (sg, man, ex, bc)) (hy : NzM (sg, man', ex', bc')) (he : ex ≠ ex') (ht : bc + ex = bc' + ex') :
    wpAny (model PySem.Challenge.pw_ah5007_01 w) A (call (.ref 132) [.ref a, .ref b, .int 5 t5, .str (Str.ofString "f") t6])
      (Back s fun v h => ∃ z : M, FreshM s.heap z v h ∧ ((z.1 = 0 ∧ ordF (sg, man, ex, bc) (sg, man', ex', bc') = 1) ∨ (z.1 = 1 ∧ ordF (sg, man, ex, bc) (sg, man', ex', bc') = -1))) E s := by
  refine enterN (Ns132 w) [(Str.ofString "s", .ref a), (Str.ofString "t", .ref b), (Str.ofString "prec", .int 5 t5), (Str.ofString "rnd", .str (Str.ofString "f") t6)]
    W r (by decide) (by k_is) (by k_is) (BindsTo.of_defaults (T := 125) rfl (W.K _ _ (by k_is)) rfl rfl rfl) (by kernel_rfl!) (by walk_at "m names") ?_ rfl rfl rfl (by decide)
  intro cs L h tk0 Nn F
  obtain ⟨i1, i2, i3, i4, g1⟩ := Nn
  obtain ⟨KX, mean, mg, mb, T⟩ := W
  have N : News s.heap L h [] := News.nil
  have k0 := F.keep
  rcases Int.lt_or_gt_of_ne he with he' | he'
  · rw [ord_addD hx hy he']
    walk_at "m begin"
    rename_i hR
    obtain ⟨z, hz, hs⟩ := hR
    refine ⟨_, _, rfl, Fr.keep (by assumption), z, FreshM.older k0 hz, ?_⟩
    rw [hs]
    generalize (if sg = 0 then _ else _ : Int) = q
    split <;> simp
  · rw [ord_addU hx hy he']
    have he'' : ex' < ex := he'
    walk_at "m begin"
    rename_i hR
    obtain ⟨z, hz, hs⟩ := hR
    refine ⟨_, _, rfl, Fr.keep (by assumption), z, FreshM.older k0 hz, ?_⟩
    rw [hs]
    generalize (if sg = 0 then _ else _ : Int) = q
    split <;> simp
end PartS4
local macro_rules | `(tactic| walk_at "m pad") => `(tactic| skip)
local macro_rules | `(tactic| walk_at "m pad") => `(tactic| skip)
local macro_rules | `(tactic| walk_at "m pad") => `(tactic| skip)
section PartS5
open Builtin.Int (intBits)
local macro_rules | `(tactic| walk_at "call ref") => `(tactic| (k_here; (with_reducible show wpAny _ _ (call (Value.ref 132) _ _) _ _ _); (walk_at "m useP"); (case mhc => (refine sub_spec (by walk_at "m rdy") (by walk_at "m le") (by walk_at "m tup") (by walk_at "m tup") ?_ ?_ ?_ ?_ <;> first | assumption | omega)); (intro z' D' t1' t2' t3' t4' h' tk' hP' F' N'); (try k_sweep)))
local macro_rules | `(tactic| walk_at "call ref") => `(tactic| (k_here; (with_reducible show wpAny _ _ (call (Value.ref 116) _ _) _ _ _); (walk_at "m use"); (case mhc => (refine sign_spec (by walk_at "m rdy") (by walk_at "m le") (by walk_at "m tup") ?_ ?_ <;> first | assumption | omega)); (intro v' h' tk' F' N' k' hR'); (obtain ⟨tt', hv'⟩ := hR'); (subst hv'); (clear k'); (try k_sweep)))
theorem cmp_nz {w : World} {A : Around} {E : Value → Shared → Prop} {s : Shared} (W : Rdy w s.heap) (r : Le A 45) {a b : Addr} {sg man ex bc sg' man' ex' bc' : Int} {t1 t2 t3 t4 u1 u2 u3 u4 : Tok}
    (ha : IsTup s.heap a #[.int sg t1, .int man t2, .int ex t3, .int bc t4]) (hb : IsTup s.heap b #[.int sg' u1, .int man' u2, .int ex' u3, .int bc' u4])
    (hx : NzM (sg, man, ex, bc)) (hy : NzM (sg', man', ex', bc')) :
    wpAny (model PySem.Challenge.pw_ah5007_01 w) A (call (.ref 58) [.ref a, .ref b]) (Back s fun v h => ∃ t, v = .int (ordF (sg, man, ex, bc) (sg', man', ex', bc')) t) E s := by
  have o1 : man ≠ 0 := by have := hx.pos; dsimp only at this; omega
  have o2 : man' ≠ 0 := by have := hy.pos; dsimp only at this; omega
  have hs := hx.sg
  have hs' := hy.sg
  dsimp only at hs hs'
  refine enterN (Ns58 w) [(Str.ofString "s", .ref a), (Str.ofString "t", .ref b)]
    W r (by decide) (by k_is) (by k_is) (BindsTo.of_eq (by rfl)) (by kernel_rfl!) (by walk_at "m names") ?_ rfl rfl rfl (by decide)
  intro cs L h tk0 Nn F
  obtain ⟨i1, i2, i3, i4, i5, i6, i7, i8, i9, i10, i11, i12, i13, g1, g2, g3, g4, g5, g6, g7⟩ := Nn
  obtain ⟨KX, mean, mg, mb, T⟩ := W
  have N : News s.heap L h [] := News.nil
  by_cases hd : sg = sg'
  · subst hd
    by_cases he : ex = ex'
    · subst he
      rw [ord_ex hx hy]
      clear hs'
      rcases hs with rfl | rfl
      all_goals walk_at "m begin"
      all_goals (refine ⟨_, _, rfl, Fr.keep (by assumption), ktn_int ?_⟩)
      all_goals ((repeat' split) <;> omega)
    · clear hs'
      rcases hs with rfl | rfl
      all_goals walk_at "m begin"
      all_goals (refine ⟨_, _, rfl, Fr.keep (by assumption), ktn_int ?_⟩)
      all_goals first
        | (rw [ord_tops hx hy (by assumption)]; rfl)
        | (rw [ord_tops' hx hy (by assumption)]; rfl)
        | omega
  · rw [ord_signs hx hy hd]
    rcases hs with rfl | rfl <;> rcases hs' with rfl | rfl
    all_goals try (exfalso; exact hd rfl)
    all_goals clear hd
    all_goals walk_at "m begin"
    all_goals (refine ⟨_, _, rfl, Fr.keep (by assumption), ktn_int ?_⟩)
    all_goals rfl

theorem cmp_sp {w : World} {A : Around} {E : Value → Shared → Prop} {s : Shared} (W : Rdy w s.heap) (r : Le A 45) {a b : Addr} {sg man ex bc sg' man' ex' bc' : Int} {t1 t2 t3 t4 u1 u2 u3 u4 : Tok}
    (ha : IsTup s.heap a #[.int sg t1, .int man t2, .int ex t3, .int bc t4]) (hb : IsTup s.heap b #[.int sg' u1, .int man' u2, .int ex' u3, .int bc' u4])
    (hx : NumM (sg, man, ex, bc)) (hy : NumM (sg', man', ex', bc')) (hz : man = 0 ∨ man' = 0) :
    wpAny (model PySem.Challenge.pw_ah5007_01 w) A (call (.ref 58) [.ref a, .ref b]) (Back s fun v h => ∃ t, v = .int (ordF (sg, man, ex, bc) (sg', man', ex', bc')) t) E s := by
  have sgn : ∀ {x : M}, NumM x → 0 ≤ x.1 ∧ x.1 ≤ 1 := by
    rintro x ((rfl | h) | rfl | rfl)
    · decide
    · have := h.sg; omega
    · decide
    · decide
  obtain ⟨s1, s2⟩ := sgn hx
  obtain ⟨s3, s4⟩ := sgn hy
  dsimp only at s1 s2 s3 s4
  refine enterN (Ns58 w) [(Str.ofString "s", .ref a), (Str.ofString "t", .ref b)]
    W r (by decide) (by k_is) (by k_is) (BindsTo.of_eq (by rfl)) (by kernel_rfl!) (by walk_at "m names") ?_ rfl rfl rfl (by decide)
  intro cs L h tk0 Nn F
  obtain ⟨i1, i2, i3, i4, i5, i6, i7, i8, i9, i10, i11, i12, i13, g1, g2, g3, g4, g5, g6, g7⟩ := Nn
  obtain ⟨KX, mean, mg, mb, T⟩ := W
  have N : News s.heap L h [] := News.nil
  by_cases hm : man = 0
  · subst hm
    walk_at "m begin"
    all_goals (refine ⟨_, _, rfl, Fr.keep (by assumption), ktn_int ?_⟩)
    all_goals first
      | exact sp1 hy (by assumption)
      | exact sp2 hx (by assumption)
      | exact sp3 (by assumption)
      | exact absurd (by assumption) (num_nan hy)
      | exact sp5 (by assumption) (by assumption)
      | exact sp6 (by assumption) (by assumption)
      | exact sp7 hx hy hz (by assumption) (by assumption) (by assumption) (by assumption) (by assumption)
  · have hm' : man' = 0 := hz.resolve_left hm
    subst hm'
    walk_at "m begin"
    all_goals (refine ⟨_, _, rfl, Fr.keep (by assumption), ktn_int ?_⟩)
    all_goals first
      | exact sp1 hy (by assumption)
      | exact sp2 hx (by assumption)
      | exact sp3 (by assumption)
      | exact absurd (by assumption) (num_nan hy)
      | exact sp5 (by assumption) (by assumption)
      | exact sp6 (by assumption) (by assumption)
      | exact sp7 hx hy hz (by assumption) (by assumption) (by assumption) (by assumption) (by assumption)
theorem cmp_spec {w : World} {A : Around} {E : Value → Shared → Prop} {s : Shared} (W : Rdy w s.heap) (r : Le A 45) {a b : Addr} {sg man ex bc sg' man' ex' bc' : Int} {t1 t2 t3 t4 u1 u2 u3 u4 : Tok}
    (ha : IsTup s.heap a #[.int sg t1, .int man t2, .int ex t3, .int bc t4]) (hb : IsTup s.heap b #[.int sg' u1, .int man' u2, .int ex' u3, .int bc' u4])
    (hx : NumM (sg, man, ex, bc)) (hy : NumM (sg', man', ex', bc')) :
    wpAny (model PySem.Challenge.pw_ah5007_01 w) A (call (.ref 58) [.ref a, .ref b]) (Back s fun v h => ∃ t, v = .int (ordF (sg, man, ex, bc) (sg', man', ex', bc')) t) E s := by
  by_cases h1 : man = 0
  · exact cmp_sp W r ha hb hx hy (.inl h1)
  · by_cases h2 : man' = 0
    · exact cmp_sp W r ha hb hx hy (.inr h2)
    · have nz : ∀ {x : M}, NumM x → x.2.1 ≠ 0 → NzM x := by
        rintro x ((rfl | h) | rfl | rfl) q
        · exact absurd rfl q
        · exact h
        · exact absurd rfl q
        · exact absurd rfl q
      exact cmp_nz W r ha hb (nz hx h1) (nz hy h2)
end PartS5
local macro_rules | `(tactic| walk_at "m pad") => `(tactic| skip)
local macro_rules | `(tactic| walk_at "m pad") => `(tactic| skip)
local macro_rules | `(tactic| walk_at "m pad") => `(tactic| skip)
section PartS6
open Builtin.Int (intBits)
local macro_rules | `(tactic| walk_at "call ref") => `(tactic| (k_here; (with_reducible show wpAny _ _ (call (Value.ref 58) _ _) _ _ _); (walk_at "m use"); (case mhc => (refine cmp_spec (by walk_at "m rdy") (by walk_at "m le") (by walk_at "m tup") (by walk_at "m tup") ?_ ?_ <;> exact Or.resolve_right (by assumption) (by assumption))); (intro v' h' tk' F' N' k' hR'); (obtain ⟨tt', hv'⟩ := hR'); (subst hv'); (clear k'); (try k_sweep)))
theorem lt_spec {w : World} {A : Around} {E : Value → Shared → Prop} {s : Shared} (W : Rdy w s.heap) (r : Le A 40) {a b : Addr} {sg man ex bc sg' man' ex' bc' : Int} {t1 t2 t3 t4 u1 u2 u3 u4 : Tok}
    (ha : IsTup s.heap a #[.int sg t1, .int man t2, .int ex t3, .int bc t4]) (hb : IsTup s.heap b #[.int sg' u1, .int man' u2, .int ex' u3, .int bc' u4])
    (hx : NumM (sg, man, ex, bc) ∨ ((sg, man, ex, bc) : M) = (0, 0, -123, -1)) (hy : NumM (sg', man', ex', bc') ∨ ((sg', man', ex', bc') : M) = (0, 0, -123, -1)) :
    wpAny (model PySem.Challenge.pw_ah5007_01 w) A (call (.ref 65) [.ref a, .ref b]) (Back s fun v _ => v = .bool (decide (((sg, man, ex, bc) : M) ≠ mNan ∧ ((sg', man', ex', bc') : M) ≠ mNan ∧ ordF (sg, man, ex, bc) (sg', man', ex', bc') < 0))) E s := by
  refine enterN (Ns65 w) [(Str.ofString "s", .ref a), (Str.ofString "t", .ref b)]
    W r (by decide) (by k_is) (by k_is) (BindsTo.of_eq (by rfl)) (by kernel_rfl!) (by walk_at "m names") ?_ rfl rfl rfl (by decide)
  intro cs L h tk0 Nn F
  obtain ⟨i1, i2, g1, g2⟩ := Nn
  obtain ⟨KX, mean, mg, mb, T⟩ := W
  have N : News s.heap L h [] := News.nil
  walk_at "m begin"
  all_goals (refine ⟨_, _, rfl, Fr.keep (by assumption), ?_⟩; dsimp only; congr 1; simp [*])
theorem le_spec {w : World} {A : Around} {E : Value → Shared → Prop} {s : Shared} (W : Rdy w s.heap) (r : Le A 40) {a b : Addr} {sg man ex bc sg' man' ex' bc' : Int} {t1 t2 t3 t4 u1 u2 u3 u4 : Tok}
    (ha : IsTup s.heap a #[.int sg t1, .int man t2, .int ex t3, .int bc t4]) (hb : IsTup s.heap b #[.int sg' u1, .int man' u2, .int ex' u3, .int bc' u4])
    (hx : NumM (sg, man, ex, bc) ∨ ((sg, man, ex, bc) : M) = (0, 0, -123, -1)) (hy : NumM (sg', man', ex', bc') ∨ ((sg', man', ex', bc') : M) = (0, 0, -123, -1)) :
    wpAny (model PySem.Challenge.pw_ah5007_01 w) A (call (.ref 72) [.ref a, .ref b]) (Back s fun v _ => v = .bool (decide (((sg, man, ex, bc) : M) ≠ mNan ∧ ((sg', man', ex', bc') : M) ≠ mNan ∧ ordF (sg, man, ex, bc) (sg', man', ex', bc') ≤ 0))) E s := by
  refine enterN (Ns72 w) [(Str.ofString "s", .ref a), (Str.ofString "t", .ref b)]
    W r (by decide) (by k_is) (by k_is) (BindsTo.of_eq (by rfl)) (by kernel_rfl!) (by walk_at "m names") ?_ rfl rfl rfl (by decide)
  intro cs L h tk0 Nn F
  obtain ⟨i1, i2, g1, g2⟩ := Nn
  obtain ⟨KX, mean, mg, mb, T⟩ := W
  have N : News s.heap L h [] := News.nil
  walk_at "m begin"
  all_goals (refine ⟨_, _, rfl, Fr.keep (by assumption), ?_⟩; dsimp only; congr 1; simp [*])
theorem gt_spec {w : World} {A : Around} {E : Value → Shared → Prop} {s : Shared} (W : Rdy w s.heap) (r : Le A 40) {a b : Addr} {sg man ex bc sg' man' ex' bc' : Int} {t1 t2 t3 t4 u1 u2 u3 u4 : Tok}
    (ha : IsTup s.heap a #[.int sg t1, .int man t2, .int ex t3, .int bc t4]) (hb : IsTup s.heap b #[.int sg' u1, .int man' u2, .int ex' u3, .int bc' u4])
    (hx : NumM (sg, man, ex, bc) ∨ ((sg, man, ex, bc) : M) = (0, 0, -123, -1)) (hy : NumM (sg', man', ex', bc') ∨ ((sg', man', ex', bc') : M) = (0, 0, -123, -1)) :
    wpAny (model PySem.Challenge.pw_ah5007_01 w) A (call (.ref 79) [.ref a, .ref b]) (Back s fun v _ => v = .bool (decide (((sg, man, ex, bc) : M) ≠ mNan ∧ ((sg', man', ex', bc') : M) ≠ mNan ∧ ordF (sg, man, ex, bc) (sg', man', ex', bc') > 0))) E s := by
  refine enterN (Ns79 w) [(Str.ofString "s", .ref a), (Str.ofString "t", .ref b)]
    W r (by decide) (by k_is) (by k_is) (BindsTo.of_eq (by rfl)) (by kernel_rfl!) (by walk_at "m names") ?_ rfl rfl rfl (by decide)
  intro cs L h tk0 Nn F
  obtain ⟨i1, i2, g1, g2⟩ := Nn
  obtain ⟨KX, mean, mg, mb, T⟩ := W
  have N : News s.heap L h [] := News.nil
  walk_at "m begin"
  all_goals (refine ⟨_, _, rfl, Fr.keep (by assumption), ?_⟩; dsimp only; congr 1; simp [*])
theorem ge_spec {w : World} {A : Around} {E : Value → Shared → Prop} {s : Shared} (W : Rdy w s.heap) (r : Le A 40) {a b : Addr} {sg man ex bc sg' man' ex' bc' : Int} {t1 t2 t3 t4 u1 u2 u3 u4 : Tok}
    (ha : IsTup s.heap a #[.int sg t1, .int man t2, .int ex t3, .int bc t4]) (hb : IsTup s.heap b #[.int sg' u1, .int man' u2, .int ex' u3, .int bc' u4])
    (hx : NumM (sg, man, ex, bc) ∨ ((sg, man, ex, bc) : M) = (0, 0, -123, -1)) (hy : NumM (sg', man', ex', bc') ∨ ((sg', man', ex', bc') : M) = (0, 0, -123, -1)) :
    wpAny (model PySem.Challenge.pw_ah5007_01 w) A (call (.ref 86) [.ref a, .ref b]) (Back s fun v _ => v = .bool (decide (((sg, man, ex, bc) : M) ≠ mNan ∧ ((sg', man', ex', bc') : M) ≠ mNan ∧ ordF (sg, man, ex, bc) (sg', man', ex', bc') ≥ 0))) E s := by
  refine enterN (Ns86 w) [(Str.ofString "s", .ref a), (Str.ofString "t", .ref b)]
    W r (by decide) (by k_is) (by k_is) (BindsTo.of_eq (by rfl)) (by kernel_rfl!) (by walk_at "m names") ?_ rfl rfl rfl (by decide)
  intro cs L h tk0 Nn F
  obtain ⟨i1, i2, g1, g2⟩ := Nn
  obtain ⟨KX, mean, mg, mb, T⟩ := W
  have N : News s.heap L h [] := News.nil
  walk_at "m begin"
  all_goals (refine ⟨_, _, rfl, Fr.keep (by assumption), ?_⟩; dsimp only; congr 1; simp [*])
end PartS6
local macro_rules | `(tactic| walk_at "m pad") => `(tactic| skip)
local macro_rules | `(tactic| walk_at "m pad") => `(tactic| skip)
section PartS7
open Builtin.Int (intBits)
local macro_rules | `(tactic| walk_at "call ref") => `(tactic| (k_here; (with_reducible show wpAny _ _ (call (Value.ref 44) _ _) _ _ _); (walk_at "m useF"); (case mhc => (refine norm_spec (by walk_at "m rdy") (by walk_at "m le") ?_ ?_ ?_ ?_ ?_ ?_ <;> first | assumption | decide | omega)); (intro D' t1' t2' t3' t4' h' tk' F' N'); (try k_sweep)))
abbrev Rnds (rnd : Str) : Prop := rnd = Str.ofString "n" ∨ rnd = Str.ofString "f" ∨ rnd = Str.ofString "c" ∨ rnd = Str.ofString "d" ∨ rnd = Str.ofString "u"
theorem neg_nz {w : World} {A : Around} {E : Value → Shared → Prop} {s : Shared} (W : Rdy w s.heap) (r : Le A 50) {a : Addr} {sg man ex bc : Int} {t1 t2 t3 t4 : Tok}
    (ha : IsTup s.heap a #[.int sg t1, .int man t2, .int ex t3, .int bc t4]) (hx : NzM (sg, man, ex, bc)) :
    wpAny (model PySem.Challenge.pw_ah5007_01 w) A (call (.ref 101) [.ref a]) (Back s (FreshM s.heap (1 - sg, man, ex, bc))) E s := by
  refine enterN (Ns101 w) [(Str.ofString "s", .ref a), (Str.ofString "prec", .int 0 343), (Str.ofString "rnd", .str (Str.ofString "d") 210)]
    W r (by decide) (by k_is) (by k_is) (BindsTo.of_defaults (T := 94) rfl (W.K _ _ (by k_is)) rfl rfl rfl) (by kernel_rfl!) (by walk_at "m names") ?_ rfl rfl rfl (by decide)
  intro cs L h tk0 Nn F
  obtain ⟨i1, i2, i3, i4, i5, i6, i7, g1, g2, g3⟩ := Nn
  obtain ⟨KX, mean, mg, mb, T⟩ := W
  have N : News s.heap L h [] := News.nil
  have o1 : man ≠ 0 := (nz_ne hx).2.2.2.2
  walk_at "m begin"
  walk_at "m fresh"
  rfl
theorem neg_nzp {w : World} {A : Around} {E : Value → Shared → Prop} {s : Shared} (W : Rdy w s.heap) (r : Le A 50) {a : Addr} {sg man ex bc prec : Int} {rnd : Str} {t1 t2 t3 t4 t5 t6 : Tok}
    (ha : IsTup s.heap a #[.int sg t1, .int man t2, .int ex t3, .int bc t4]) (hx : NzM (sg, man, ex, bc)) (hp : 1 ≤ prec) (hr : Rnds rnd) :
    wpAny (model PySem.Challenge.pw_ah5007_01 w) A (call (.ref 101) [.ref a, .int prec t5, .str rnd t6]) (Back s (FreshM s.heap (mk (1 - sg) (rq rnd (1 - sg) man (bc - prec).toNat) (ex + (bc - prec).toNat)))) E s := by
  refine enterN (Ns101 w) [(Str.ofString "s", .ref a), (Str.ofString "prec", .int prec t5), (Str.ofString "rnd", .str rnd t6)]
    W r (by decide) (by k_is) (by k_is) (BindsTo.of_defaults (T := 94) rfl (W.K _ _ (by k_is)) rfl rfl rfl) (by kernel_rfl!) (by walk_at "m names") ?_ rfl rfl rfl (by decide)
  intro cs L h tk0 Nn F
  obtain ⟨i1, i2, i3, i4, i5, i6, i7, g1, g2, g3⟩ := Nn
  obtain ⟨KX, mean, mg, mb, T⟩ := W
  have N : News s.heap L h [] := News.nil
  have o1 : man ≠ 0 := (nz_ne hx).2.2.2.2
  have o2 : prec ≠ 0 := by omega
  obtain ⟨hs, hm, ho, hc, hf, hl, hh⟩ := hx
  dsimp only at hs hm ho hc hf hl hh
  have hs1 : 1 - sg = 0 ∨ 1 - sg = 1 := by omega
  have hz : bc ≤ 100000 := by omega
  walk_at "m begin"
  walk_at "m fresh"
  rfl
theorem neg_sp {w : World} {A : Around} {E : Value → Shared → Prop} {s : Shared} (W : Rdy w s.heap) (r : Le A 50) {a : Addr} {sg ex bc prec : Int} {rnd : Str} {t1 t2 t3 t4 t5 t6 : Tok} {args : List Value}
    (ha : IsTup s.heap a #[.int sg t1, .int 0 t2, .int ex t3, .int bc t4]) (hargs : args = [.ref a] ∨ args = [.ref a, .int prec t5, .str rnd t6]) :
    wpAny (model PySem.Challenge.pw_ah5007_01 w) A (call (.ref 101) args) (Back s fun v _ => v = if ((sg, 0, ex, bc) : M) = mInf then .ref 25 else if ((sg, 0, ex, bc) : M) = mNinf then .ref 24 else .ref a) E s := by
  rcases hargs with rfl | rfl
  · refine enterN (Ns101 w) [(Str.ofString "s", .ref a), (Str.ofString "prec", .int 0 343), (Str.ofString "rnd", .str (Str.ofString "d") 210)]
      W r (by decide) (by k_is) (by k_is) (BindsTo.of_defaults (T := 94) rfl (W.K _ _ (by k_is)) rfl rfl rfl) (by kernel_rfl!) (by walk_at "m names") ?_ rfl rfl rfl (by decide)
    intro cs L h tk0 Nn F
    obtain ⟨i1, i2, i3, i4, i5, i6, i7, g1, g2, g3⟩ := Nn
    obtain ⟨KX, mean, mg, mb, T⟩ := W
    have N : News s.heap L h [] := News.nil
    walk_at "m begin"
    all_goals (refine ⟨_, _, rfl, Fr.keep (by assumption), ?_⟩; dsimp only; (repeat' split) <;> simp_all)
  · refine enterN (Ns101 w) [(Str.ofString "s", .ref a), (Str.ofString "prec", .int prec t5), (Str.ofString "rnd", .str rnd t6)]
      W r (by decide) (by k_is) (by k_is) (BindsTo.of_defaults (T := 94) rfl (W.K _ _ (by k_is)) rfl rfl rfl) (by kernel_rfl!) (by walk_at "m names") ?_ rfl rfl rfl (by decide)
    intro cs L h tk0 Nn F
    obtain ⟨i1, i2, i3, i4, i5, i6, i7, g1, g2, g3⟩ := Nn
    obtain ⟨KX, mean, mg, mb, T⟩ := W
    have N : News s.heap L h [] := News.nil
    walk_at "m begin"
    all_goals (refine ⟨_, _, rfl, Fr.keep (by assumption), ?_⟩; dsimp only; (repeat' split) <;> simp_all)
end PartS7
local macro_rules | `(tactic| walk_at "m pad") => `(tactic| skip)
local macro_rules | `(tactic| walk_at "m pad") => `(tactic| skip)
section PartS8
open Builtin.Int (intBits)
theorem nrm_zero {w : World} {A : Around} {E : Value → Shared → Prop} {s : Shared} (W : Rdy w s.heap) (r : Le A 58) {sg ex bc prec : Int} {rnd : Str} {t1 t2 t3 t4 t5 t6 : Tok} :
    wpAny (model PySem.Challenge.pw_ah5007_01 w) A (call (.ref 37) [.int sg t1, .int 0 t2, .int ex t3, .int bc t4, .int prec t5, .str rnd t6]) (Back s fun v _ => v = .ref 22) E s := by
  refine enterN (Ns37 w) [(Str.ofString "sign", .int sg t1), (Str.ofString "man", .int 0 t2), (Str.ofString "exp", .int ex t3), (Str.ofString "bc", .int bc t4), (Str.ofString "prec", .int prec t5), (Str.ofString "rnd", .str rnd t6)]
    W r (by decide) (by k_is) (by k_is) (BindsTo.of_eq (by rfl)) (by kernel_rfl!) (by walk_at "m names") ?_ rfl rfl rfl (by decide)
  intro cs L h tk0 Nn F
  obtain ⟨i1, i2, i3, i4, i5, i6, i7, i8, g1, g2, g3, g4, g5⟩ := Nn
  obtain ⟨KX, mean, mg, mb, T⟩ := W
  have N : News s.heap L h [] := News.nil
  walk_at "m begin"
  exact ⟨_, _, rfl, Fr.keep (by assumption), rfl⟩
local macro_rules | `(tactic| walk_at "call ref") => `(tactic| (k_here; (with_reducible show wpAny _ _ (call (Value.ref 37) _ _) _ _ _); (walk_at "m use"); (case mhc => (exact nrm_zero (by walk_at "m rdy") (by walk_at "m le"))); (intro v' h' tk' F' N' k' hv'); (subst hv'); (clear k'); (try k_sweep)))
theorem norm_zero {w : World} {A : Around} {E : Value → Shared → Prop} {s : Shared} (W : Rdy w s.heap) (r : Le A 56) {sg ex prec : Int} {rnd : Str} {t1 t2 t3 t4 t5 t6 : Tok} :
    wpAny (model PySem.Challenge.pw_ah5007_01 w) A (call (.ref 44) [.int sg t1, .int 0 t2, .int ex t3, .int 0 t4, .int prec t5, .str rnd t6]) (Back s fun v _ => v = .ref 22) E s := by
  refine enterN (Ns44 w) [(Str.ofString "sign", .int sg t1), (Str.ofString "man", .int 0 t2), (Str.ofString "exp", .int ex t3), (Str.ofString "bc", .int 0 t4), (Str.ofString "prec", .int prec t5), (Str.ofString "rnd", .str rnd t6)]
    W r (by decide) (by k_is) (by k_is) (BindsTo.of_eq (by rfl)) (by kernel_rfl!) (by walk_at "m names") ?_ rfl rfl rfl (by decide)
  intro cs L h tk0 Nn F
  obtain ⟨i1, i2, i3, i4, i5, i6, g1⟩ := Nn
  obtain ⟨KX, mean, mg, mb, T⟩ := W
  have N : News s.heap L h [] := News.nil
  walk_at "m begin"
  exact ⟨_, _, rfl, Fr.keep (by assumption), rfl⟩
local macro_rules | `(tactic| walk_at "call ref") => `(tactic| (k_here; (with_reducible show wpAny _ _ (call (Value.ref 44) [_, Value.int 0 _, _, _, _, _] _) _ _ _); (walk_at "m use"); (case mhc => (exact norm_zero (by walk_at "m rdy") (by walk_at "m le"))); (intro v' h' tk' F' N' k' hv'); (subst hv'); (clear k'); (try k_sweep)))
local macro_rules | `(tactic| walk_at "call ref") => `(tactic| (k_here; (with_reducible show wpAny _ _ (call (Value.ref 44) _ _) _ _ _); (walk_at "m useF"); (case mhc => (refine norm_spec (by walk_at "m rdy") (by walk_at "m le") ?_ ?_ ?_ ?_ ?_ ?_ <;> first | assumption | decide | omega)); (intro D' t1' t2' t3' t4' h' tk' F' N'); (try k_sweep)))
theorem abs_nz {w : World} {A : Around} {E : Value → Shared → Prop} {s : Shared} (W : Rdy w s.heap) (r : Le A 50) {a : Addr} {man ex bc : Int} {t1 t2 t3 t4 : Tok}
    (ha : IsTup s.heap a #[.int 1 t1, .int man t2, .int ex t3, .int bc t4]) (hx : NzM (1, man, ex, bc)) :
    wpAny (model PySem.Challenge.pw_ah5007_01 w) A (call (.ref 109) [.ref a]) (Back s (FreshM s.heap (0, man, ex, bc))) E s := by
  refine enterN (Ns109 w) [(Str.ofString "s", .ref a), (Str.ofString "prec", .int 0 357), (Str.ofString "rnd", .str (Str.ofString "d") 210)]
    W r (by decide) (by k_is) (by k_is) (BindsTo.of_defaults (T := 102) rfl (W.K _ _ (by k_is)) rfl rfl rfl) (by kernel_rfl!) (by walk_at "m names") ?_ rfl rfl rfl (by decide)
  intro cs L h tk0 Nn F
  obtain ⟨i1, i2, i3, i4, i5, i6, i7, g1, g2, g3⟩ := Nn
  obtain ⟨KX, mean, mg, mb, T⟩ := W
  have N : News s.heap L h [] := News.nil
  have o1 : man ≠ 0 := (nz_ne hx).2.2.2.2
  walk_at "m begin"
  walk_at "m fresh"
  rfl
theorem abs_pos {w : World} {A : Around} {E : Value → Shared → Prop} {s : Shared} (W : Rdy w s.heap) (r : Le A 50) {a : Addr} {man ex bc : Int} {t1 t2 t3 t4 : Tok}
    (ha : IsTup s.heap a #[.int 0 t1, .int man t2, .int ex t3, .int bc t4]) (hx : FinM (0, man, ex, bc)) :
    wpAny (model PySem.Challenge.pw_ah5007_01 w) A (call (.ref 109) [.ref a]) (Back s fun v _ => v = .ref a) E s := by
  refine enterN (Ns109 w) [(Str.ofString "s", .ref a), (Str.ofString "prec", .int 0 357), (Str.ofString "rnd", .str (Str.ofString "d") 210)]
    W r (by decide) (by k_is) (by k_is) (BindsTo.of_defaults (T := 102) rfl (W.K _ _ (by k_is)) rfl rfl rfl) (by kernel_rfl!) (by walk_at "m names") ?_ rfl rfl rfl (by decide)
  intro cs L h tk0 Nn F
  obtain ⟨i1, i2, i3, i4, i5, i6, i7, g1, g2, g3⟩ := Nn
  obtain ⟨KX, mean, mg, mb, T⟩ := W
  have N : News s.heap L h [] := News.nil
  rcases hx with e | hx
  · simp only [Prod.mk.injEq] at e
    obtain ⟨-, rfl, rfl, rfl⟩ := e
    walk_at "m begin"
    exact ⟨_, _, rfl, Fr.keep (by assumption), rfl⟩
  · have o1 : man ≠ 0 := (nz_ne hx).2.2.2.2
    walk_at "m begin"
    exact ⟨_, _, rfl, Fr.keep (by assumption), rfl⟩
theorem abs_sp {w : World} {A : Around} {E : Value → Shared → Prop} {s : Shared} (W : Rdy w s.heap) (r : Le A 50) {a : Addr} {sg ex bc : Int} {t1 t2 t3 t4 : Tok}
    (ha : IsTup s.heap a #[.int sg t1, .int 0 t2, .int ex t3, .int bc t4]) (he : ex ≠ 0) :
    wpAny (model PySem.Challenge.pw_ah5007_01 w) A (call (.ref 109) [.ref a]) (Back s fun v _ => v = if ((sg, 0, ex, bc) : M) = mNinf then .ref 24 else .ref a) E s := by
  refine enterN (Ns109 w) [(Str.ofString "s", .ref a), (Str.ofString "prec", .int 0 357), (Str.ofString "rnd", .str (Str.ofString "d") 210)]
    W r (by decide) (by k_is) (by k_is) (BindsTo.of_defaults (T := 102) rfl (W.K _ _ (by k_is)) rfl rfl rfl) (by kernel_rfl!) (by walk_at "m names") ?_ rfl rfl rfl (by decide)
  intro cs L h tk0 Nn F
  obtain ⟨i1, i2, i3, i4, i5, i6, i7, g1, g2, g3⟩ := Nn
  obtain ⟨KX, mean, mg, mb, T⟩ := W
  have N : News s.heap L h [] := News.nil
  walk_at "m begin"
  all_goals (refine ⟨_, _, rfl, Fr.keep (by assumption), ?_⟩; dsimp only; (repeat' split) <;> simp_all)
theorem abs_zp {w : World} {A : Around} {E : Value → Shared → Prop} {s : Shared} (W : Rdy w s.heap) (r : Le A 50) {a : Addr} {prec : Int} {rnd : Str} {t1 t2 t3 t4 t5 t6 : Tok}
    (ha : IsTup s.heap a #[.int 0 t1, .int 0 t2, .int 0 t3, .int 0 t4]) (hp : 1 ≤ prec) :
    wpAny (model PySem.Challenge.pw_ah5007_01 w) A (call (.ref 109) [.ref a, .int prec t5, .str rnd t6]) (Back s fun v _ => v = .ref 22) E s := by
  refine enterN (Ns109 w) [(Str.ofString "s", .ref a), (Str.ofString "prec", .int prec t5), (Str.ofString "rnd", .str rnd t6)]
    W r (by decide) (by k_is) (by k_is) (BindsTo.of_defaults (T := 102) rfl (W.K _ _ (by k_is)) rfl rfl rfl) (by kernel_rfl!) (by walk_at "m names") ?_ rfl rfl rfl (by decide)
  intro cs L h tk0 Nn F
  obtain ⟨i1, i2, i3, i4, i5, i6, i7, g1, g2, g3⟩ := Nn
  obtain ⟨KX, mean, mg, mb, T⟩ := W
  have N : News s.heap L h [] := News.nil
  have o2 : prec ≠ 0 := by omega
  walk_at "m begin"
  exact ⟨_, _, rfl, Fr.keep (by assumption), rfl⟩
theorem abs_nzp {w : World} {A : Around} {E : Value → Shared → Prop} {s : Shared} (W : Rdy w s.heap) (r : Le A 50) {a : Addr} {sg man ex bc prec : Int} {rnd : Str} {t1 t2 t3 t4 t5 t6 : Tok}
    (ha : IsTup s.heap a #[.int sg t1, .int man t2, .int ex t3, .int bc t4]) (hx : NzM (sg, man, ex, bc)) (hp : 1 ≤ prec) (hr : Rnds rnd) :
    wpAny (model PySem.Challenge.pw_ah5007_01 w) A (call (.ref 109) [.ref a, .int prec t5, .str rnd t6]) (Back s (FreshM s.heap (mk 0 (rq rnd 0 man (bc - prec).toNat) (ex + (bc - prec).toNat)))) E s := by
  refine enterN (Ns109 w) [(Str.ofString "s", .ref a), (Str.ofString "prec", .int prec t5), (Str.ofString "rnd", .str rnd t6)]
    W r (by decide) (by k_is) (by k_is) (BindsTo.of_defaults (T := 102) rfl (W.K _ _ (by k_is)) rfl rfl rfl) (by kernel_rfl!) (by walk_at "m names") ?_ rfl rfl rfl (by decide)
  intro cs L h tk0 Nn F
  obtain ⟨i1, i2, i3, i4, i5, i6, i7, g1, g2, g3⟩ := Nn
  obtain ⟨KX, mean, mg, mb, T⟩ := W
  have N : News s.heap L h [] := News.nil
  have o1 : man ≠ 0 := (nz_ne hx).2.2.2.2
  have o2 : prec ≠ 0 := by omega
  obtain ⟨hs, hm, ho, hc, hf, hl, hh⟩ := hx
  dsimp only at hs hm ho hc hf hl hh
  have hz : bc ≤ 100000 := by omega
  walk_at "m begin"
  walk_at "m fresh"
  rfl
end PartS8
local macro_rules | `(tactic| walk_at "m pad") => `(tactic| skip)
local macro_rules | `(tactic| walk_at "m pad") => `(tactic| skip)
local macro_rules | `(tactic| walk_at "m pad") => `(tactic| skip)
local macro_rules | `(tactic| walk_at "m pad") => `(tactic| skip)
section PartS9
open Builtin.Int (intBits)
theorem mixed_spec {w : World} {A : Around} {E : Value → Shared → Prop} {s : Shared} (W : Rdy w s.heap) (r : Le A 30) {l : Addr} {vs : List Value} {ns : List Int} {k : Int} {t1 : Tok}
    (hl : s.heap.IsList l vs.toArray) (hi : IntsAre vs ns) (hn : ns.length ≤ 63) (h0 : 0 ≤ k) (h1 : k ≤ 100) :
    wpAny (model PySem.Challenge.pw_ah5007_01 w) A (call (.ref 139) [.ref l, .int k t1]) (Back s fun v _ => ∃ (n : Int) (t : Tok), 0 ≤ n ∧ v = .int n t) E s := by
  refine enterN (Ns139 w) [(Str.ofString "script", .ref l), (Str.ofString "k", .int k t1)]
    W r (by decide) (by k_is) (by k_is) (BindsTo.of_eq (by rfl)) (by kernel_rfl!) (by walk_at "m names") ?_ rfl rfl rfl (by decide)
  intro cs L h tk0 Nn F
  obtain ⟨i1, i2, i3, g1⟩ := Nn
  obtain ⟨KX, mean, mg, mb, T⟩ := W
  have N : News s.heap L h [] := News.nil
  walk_at "m begin"
  all_goals (refine ⟨_, _, rfl, Fr.keep (by assumption), _, _, ?_, rfl⟩)
  · exact Int.le_trans (show (0 : Int) ≤ 2 ^ Int.toNat 64 by decide) (by assumption)
  · exact Int.fmod_nonneg_of_pos _ (by decide)
  · exact Int.fmod_nonneg_of_pos _ (by decide)

theorem p2lt {i j : Nat} (h : i < j) : (2 : Int) ^ i < 2 ^ j := by
  have h1 := p2le (i := i + 1) (j := j) (by omega)
  have h2 := p2pos i
  rw [Int.pow_succ] at h1
  omega
theorem raw_end {rich spread man : Int} (hs : 0 ≤ spread) (hs' : spread ≤ 900) (hm : 0 < man ∧ man % 2 = 1 ∧ man < 2 ^ 61) :
    FinM (rich.fmod 2, man, (rich.fdiv 16).fmod (2 * spread + 1) - spread, ((intBits man : Nat) : Int)) ∧ man < 2 ^ 61 ∧ -900 ≤ (rich.fdiv 16).fmod (2 * spread + 1) - spread ∧ (rich.fdiv 16).fmod (2 * spread + 1) - spread ≤ 900 := by
  have a1 := Int.fmod_nonneg_of_pos rich (show (0 : Int) < 2 by decide)
  have a2 := Int.fmod_lt_of_pos rich (show (0 : Int) < 2 by decide)
  have b1 := Int.fmod_nonneg_of_pos (rich.fdiv 16) (show 0 < 2 * spread + 1 by omega)
  have b2 := Int.fmod_lt_of_pos (rich.fdiv 16) (show 0 < 2 * spread + 1 by omega)
  obtain ⟨m1, m2, m3⟩ := hm
  have m4 := (bits_iff (m := 61) m1).mpr m3
  refine ⟨.inr ⟨?_, m1, m2, rfl, Nat.le_trans m4 (by decide), ?_, ?_⟩, m3, ?_, ?_⟩ <;> (try dsimp only) <;> omega
theorem raw_m1 : (0 : Int) < 1 ∧ (1 : Int) % 2 = 1 ∧ (1 : Int) < 2 ^ 61 := by decide
theorem raw_m2 {x : Int} (h0 : 0 ≤ x) (h1 : x < 60) : (0 : Int) < 2 ^ (1 + x).toNat - 1 ∧ ((2 : Int) ^ (1 + x).toNat - 1) % 2 = 1 ∧ (2 : Int) ^ (1 + x).toNat - 1 < 2 ^ 61 := by
  have e : (1 + x).toNat = x.toNat + 1 := by omega
  have h := p2lt (i := (1 + x).toNat) (j := 61) (by omega)
  have hp := p2pos x.toNat
  rw [e, Int.pow_succ] at h ⊢
  refine ⟨?_, ?_, ?_⟩ <;> omega
theorem raw_m3 {x : Int} (h0 : 0 ≤ x) (h1 : x < 59) : (0 : Int) < 2 ^ (1 + x).toNat + 1 ∧ ((2 : Int) ^ (1 + x).toNat + 1) % 2 = 1 ∧ (2 : Int) ^ (1 + x).toNat + 1 < 2 ^ 61 := by
  have e : (1 + x).toNat = x.toNat + 1 := by omega
  have h := p2lt (i := (1 + x).toNat) (j := 60) (by omega)
  have h60 : (2 : Int) ^ 61 = 2 ^ 60 * 2 := Int.pow_succ 2 60
  have hp := p2pos x.toNat
  rw [e, Int.pow_succ] at h ⊢
  refine ⟨?_, ?_, ?_⟩ <;> omega
theorem raw_m4 {y x : Int} (h0 : 0 ≤ x) (h1 : x < 60) : 0 < (y.fmod (2 ^ (1 + x).toNat)).fdiv 2 * 2 + 1 ∧ ((y.fmod (2 ^ (1 + x).toNat)).fdiv 2 * 2 + 1) % 2 = 1 ∧ (y.fmod (2 ^ (1 + x).toNat)).fdiv 2 * 2 + 1 < 2 ^ 61 := by
  have hp := p2pos (1 + x).toNat
  have h := p2le (i := (1 + x).toNat) (j := 60) (by omega)
  have h60 : (2 : Int) ^ 61 = 2 ^ 60 * 2 := Int.pow_succ 2 60
  have a1 := Int.fmod_nonneg_of_pos y hp
  have a2 := Int.fmod_lt_of_pos y hp
  rw [Int.fdiv_eq_ediv_of_nonneg _ (show (0 : Int) ≤ 2 by decide)]
  refine ⟨?_, ?_, ?_⟩ <;> omega
theorem raw_spec {w : World} {A : Around} {E : Value → Shared → Prop} {s : Shared} (W : Rdy w s.heap) (r : Le A 30) {rich spread : Int} {t1 t2 t3 : Tok}
    (h0 : 0 ≤ rich) (hs : 0 ≤ spread) (hs' : spread ≤ 900) :
    wpAny (model PySem.Challenge.pw_ah5007_01 w) A (call (.ref 146) [.int rich t1, .int 60 t2, .int spread t3]) (Back s fun v h => ∃ z : M, FreshM s.heap z v h ∧ FinM z ∧ z.2.1 < 2 ^ 61 ∧ -900 ≤ z.2.2.1 ∧ z.2.2.1 ≤ 900) E s := by
  refine enterN (Ns146 w) [(Str.ofString "rich", .int rich t1), (Str.ofString "bits", .int 60 t2), (Str.ofString "spread", .int spread t3)]
    W r (by decide) (by k_is) (by k_is) (BindsTo.of_eq (by rfl)) (by kernel_rfl!) (by walk_at "m names") ?_ rfl rfl rfl (by decide)
  intro cs L h tk0 Nn F
  obtain ⟨i1, i2, i3, i4, i5, i6, i7⟩ := Nn
  obtain ⟨KX, mean, mg, mb, T⟩ := W
  have N : News s.heap L h [] := News.nil
  walk_at "m begin"
  all_goals (refine ⟨_, _, rfl, Fr.keep (by assumption), _, fresh_of (by assumption) (by k_mem) rfl, ?_⟩)
  · exact ⟨.inl rfl, by decide, by decide, by decide⟩
  · exact raw_end hs hs' raw_m1
  · exact raw_end hs hs' (raw_m2 (by assumption) (by assumption))
  · exact raw_end hs hs' (raw_m3 (Int.fmod_nonneg_of_pos _ (by decide)) (Int.fmod_lt_of_pos _ (by decide)))
  · exact raw_end hs hs' (raw_m4 (by assumption) (by assumption))

/-- a new tuple of two ints -/
def Fresh2 (h₀ : Heap) (x y : Int) (v : Value) (h : Heap) : Prop :=
  ∃ (a : Addr) (t1 t2 : Tok), v = .ref a ∧ h.get? a = some { cls := .type "tuple", data := .seq #[.int x t1, .int y t2] } ∧ h₀.get? a = none
theorem fresh2_of {h₀ h : Heap} {L a : Addr} {news : List (Addr × Obj)} {x y a1 a2 : Int} {t1 t2 : Tok} (N : News h₀ L h news)
    (hm : (a, ({ cls := .type "tuple", data := .seq #[.int a1 t1, .int a2 t2] } : Obj)) ∈ news) (e1 : a1 = x) (e2 : a2 = y) : Fresh2 h₀ x y (.ref a) h := by
  subst e1 e2
  exact ⟨a, t1, t2, rfl, (N _ hm).1, (N _ hm).2.2⟩
theorem worth_spec {w : World} {A : Around} {E : Value → Shared → Prop} {s : Shared} (W : Rdy w s.heap) (r : Le A 40) {a : Addr} {sg man ex bc : Int} {t1 t2 t3 t4 : Tok}
    (ha : IsTup s.heap a #[.int sg t1, .int man t2, .int ex t3, .int bc t4]) (hl : -1000 ≤ ex) (hh : ex ≤ 1000) (hf : intBits man ≤ 70) :
    wpAny (model PySem.Challenge.pw_ah5007_01 w) A (call (.ref 153) [.ref a]) (Back s (Fresh2 s.heap (wA (sg, man, ex, bc)) (wB (sg, man, ex, bc)))) E s := by
  refine enterN (Ns153 w) [(Str.ofString "s", .ref a)]
    W r (by decide) (by k_is) (by k_is) (BindsTo.of_eq (by rfl)) (by kernel_rfl!) (by walk_at "m names") ?_ rfl rfl rfl (by decide)
  intro cs L h tk0 Nn F
  obtain ⟨i1, i2⟩ := Nn
  obtain ⟨KX, mean, mg, mb, T⟩ := W
  have N : News s.heap L h [] := News.nil
  have hb : intBits ((2 : Int) ^ ex.toNat) ≤ 1001 := by rw [bits_pow]; omega
  have k1 : IntMulOk man (2 ^ ex.toNat) := IntMulOk.of_le hf hb (by decide)
  have k2 : IntMulOk (-man) (2 ^ ex.toNat) := IntMulOk.of_le (intBits_neg_le hf) hb (by decide)
  walk_at "m begin"
  all_goals (refine ⟨_, _, rfl, Fr.keep (by assumption), fresh2_of (by assumption) (by k_mem) ?_ ?_⟩)
  all_goals (dsimp only [wA, wB, sm]; simp only [*, if_true, if_false, reduceIte]; try rfl)
end PartS9
local macro_rules | `(tactic| walk_at "m pad") => `(tactic| skip)
section PartS10
open Builtin.Int (intBits)
/-- numerator and denominator at the exponent e -/
abbrev nuF (S e : Int) : Int := if e < 0 then S * 2 ^ (-e).toNat else S
abbrev loF (B e : Int) : Int := if 0 < e then B * 2 ^ e.toNat else B
/-- the quotient f, rest r, of l, rounded -/
def qF (rnd : Str) (sg f r l : Int) : Int :=
  if rnd = Str.ofString "n" then (if l < 2 * r ∨ (2 * r = l ∧ f % 2 = 1) then f + 1 else f)
  else if (rnd = Str.ofString "u" ∨ (rnd = Str.ofString "c" ∧ sg = 0) ∨ (rnd = Str.ofString "f" ∧ sg = 1)) ∧ 0 < r then f + 1 else f
theorem qF_n {sg f r l : Int} : qF (Str.ofString "n") sg f r l = if l < 2 * r ∨ (2 * r = l ∧ f % 2 = 1) then f + 1 else f := if_pos rfl
theorem qF_dn {rnd : Str} {sg f r l : Int} (hn : rnd ≠ Str.ofString "n") (h : ¬ (rnd = Str.ofString "u" ∨ (rnd = Str.ofString "c" ∧ sg = 0) ∨ (rnd = Str.ofString "f" ∧ sg = 1))) : qF rnd sg f r l = f := by
  unfold qF; rw [if_neg hn, if_neg (fun q => h q.1)]
theorem qF_up {rnd : Str} {sg f r l : Int} (hn : rnd ≠ Str.ofString "n") (h : rnd = Str.ofString "u" ∨ (rnd = Str.ofString "c" ∧ sg = 0) ∨ (rnd = Str.ofString "f" ∧ sg = 1)) : qF rnd sg f r l = if 0 < r then f + 1 else f := by
  unfold qF; rw [if_neg hn]
  by_cases q : 0 < r
  · rw [if_pos ⟨h, q⟩, if_pos q]
  · rw [if_neg (fun z => q z.2), if_neg q]
theorem qF_pos {rnd : Str} {sg f r l : Int} (hf : 0 < f) : 0 < qF rnd sg f r l := by
  unfold qF
  (repeat' split) <;> omega
theorem rounded_walk {w : World} {A : Around} {E : Value → Shared → Prop} {s : Shared} (W : Rdy w s.heap) (r : Le A 40) {above B S prec sg X : Int} {rnd : Str} {t1 t2 t3 t4 : Tok}
    (ha : above ≠ 0) (hS : S = if above < 0 then -above else above) (hsg : sg = if above < 0 then 1 else 0) (hB : 0 < B) (hp : 1 ≤ prec) (hp' : prec ≤ 300) (hr : rnd = Str.ofString "n" ∨ rnd = Str.ofString "f" ∨ rnd = Str.ofString "c" ∨ rnd = Str.ofString "d" ∨ rnd = Str.ofString "u")
    (hs1 : intBits S ≤ 2000) (hb1 : intBits B ≤ 2000) (hX : X = (intBits S : Int) - (intBits B : Int) - prec + 1)
    (k1 : 2 ^ prec.toNat ≤ (nuF S (X - 1)).fdiv (loF B (X - 1))) (k2 : ¬ 2 ^ prec.toNat ≤ (nuF S X).fdiv (loF B X)) (hl : 0 < loF B X) (hf : 0 < (nuF S X).fdiv (loF B X)) :
    wpAny (model PySem.Challenge.pw_ah5007_01 w) A (call (.ref 160) [.int above t1, .int B t2, .int prec t3, .str rnd t4])
      (Back s (FreshM s.heap (mk sg (qF rnd sg ((nuF S X).fdiv (loF B X)) ((nuF S X).fmod (loF B X)) (loF B X)) X))) E s := by
  refine enterN (Ns160 w) [(Str.ofString "above", .int above t1), (Str.ofString "below", .int B t2), (Str.ofString "prec", .int prec t3), (Str.ofString "rnd", .str rnd t4)]
    W r (by decide) (by k_is) (by k_is) (BindsTo.of_eq (by rfl)) (by kernel_rfl!) (by walk_at "m names") ?_ rfl rfl rfl (by decide)
  intro cs L h tk0 Nn F
  obtain ⟨i1, i2, i3, i4, i5, i6, i7, i8, i9, i10, i11, g1⟩ := Nn
  obtain ⟨KX, mean, mg, mb, T⟩ := W
  have N : News s.heap L h [] := News.nil
  have hs5 : intBits S ≤ 5000 := by omega
  have hb5 : intBits B ≤ 5000 := by omega
  have hb25 : intBits B ≤ 2500 := by omega
  have hb80 : intBits B ≤ 8000 := by omega
  have hB0 : B ≠ 0 := by omega
  refine seq_at 4 (StT s cs L fun tab => HasI tab 1 B ∧ HasI tab 2 prec ∧ HasS tab 3 rnd ∧ HasI tab 4 sg ∧ HasI tab 5 S ∧ HasI tab 6 (X - 2) ∧ HasI tab 7 (2 ^ prec.toNat)) ?_ ?_
  · walk_at "m fold"
    walk_at "m steps"
    · have hS := hS.trans (if_pos (by assumption))
      have hsg := hsg.trans (if_pos (by assumption))
      exact ⟨_, _, _, _, rfl, by assumption, by assumption, hasI_of rfl rfl, hasI_of rfl rfl, hasS_of rfl, hasI_of rfl hsg.symm, hasI_of rfl hS.symm, hasI_of rfl (by rw [← hS]; omega), hasI_of rfl rfl⟩
    · have hS := hS.trans (if_neg (by assumption))
      have hsg := hsg.trans (if_neg (by assumption))
      exact ⟨_, _, _, _, rfl, by assumption, by assumption, hasI_of rfl rfl, hasI_of rfl rfl, hasS_of rfl, hasI_of rfl hsg.symm, hasI_of rfl hS.symm, hasI_of rfl (by rw [← hS]; omega), hasI_of rfl rfl⟩
  rintro s1 ⟨h1, tk1, tab1, news1, rfl, F1, N1, a1, a2, a3, a4, a5, a6, a7⟩
  have hs01 : sg = 0 ∨ sg = 1 := by rw [hsg]; split <;> simp
  clear hS hsg F N
  dsimp only [List.drop]
  refine seq_at 1 (StT s cs L fun tab => HasS tab 3 rnd ∧ HasI tab 4 sg ∧ HasI tab 6 X ∧ HasI tab 7 ((nuF S X).fdiv (loF B X)) ∧ HasI tab 8 ((nuF S X).fmod (loF B X)) ∧ HasI tab 9 (loF B X)) ?_ ?_
  · dsimp only [List.take]
    refine wpAny_execs_cons (While_inv (fun n m _ => ∃ tab : Nat → Option Value, m = (fun y => tab (idx cs y)) ∧ HasI tab 1 B ∧ HasI tab 2 prec ∧ HasS tab 3 rnd ∧ HasI tab 4 sg ∧ HasI tab 5 S ∧ ∃ e wh, HasI tab 6 e ∧ HasI tab 7 wh ∧ e = X - n ∧
      ((n = 2 ∧ wh = 2 ^ prec.toNat) ∨ (n < 2 ∧ wh = (nuF S e).fdiv (loF B e) ∧ HasI tab 8 ((nuF S e).fmod (loF B e)) ∧ HasI tab 9 (loF B e)))) (n₀ := 2) F1 N1
      ⟨tab1, rfl, a1, a2, a3, a4, a5, _, _, a6, a7, rfl, .inl ⟨rfl, rfl⟩⟩ ?_ PassesOwn.never)
    clear a1 a2 a3 a4 a5 a6 a7 F1 N1
    rintro n m₁ news₁ h₁ tk₁ F1 N1 ⟨tab, rfl, a1, a2, a3, a4, a5, e, wh, a6, a7, he, hc⟩
    have hn : n = 0 ∨ (2 ^ prec.toNat ≤ wh ∧ 1 ≤ n ∧ n ≤ 2) := by
      rcases hc with ⟨rfl, rfl⟩ | ⟨h2, hw, -⟩
      · exact .inr ⟨Int.le_refl _, by decide, by decide⟩
      · rcases (show n = 0 ∨ n = 1 by omega) with rfl | rfl
        · exact .inl rfl
        · obtain rfl : e = X - 1 := he
          exact .inr ⟨hw ▸ k1, by decide, by decide⟩
    rcases hn with rfl | ⟨hw, hn1, hn2⟩
    · obtain rfl : e = X := by omega
      obtain ⟨-, hw, b8, b9⟩ := hc.resolve_left (by rintro ⟨q, -⟩; cases q)
      have hw' : ¬ 2 ^ prec.toNat ≤ wh := by rw [hw]; exact k2
      obtain ⟨u2, a2'⟩ := a2
      obtain ⟨u7, a7'⟩ := a7
      walk_at "m fold"
      walk_at "m steps"
      exact ⟨_, _, _, _, rfl, by assumption, by assumption, a3, a4, a6, hasI_of a7' hw, b8, b9⟩
    · clear hc k1 k2
      have he1 : e + 1 ≤ 5000 := by omega
      have he2 : -(e + 1) ≤ 5000 := by omega
      obtain ⟨u1, a1'⟩ := a1
      obtain ⟨u2, a2'⟩ := a2
      obtain ⟨u3, a3'⟩ := a3
      obtain ⟨u4, a4'⟩ := a4
      obtain ⟨u5, a5'⟩ := a5
      obtain ⟨u6, a6'⟩ := a6
      obtain ⟨u7, a7'⟩ := a7
      walk_at "m fold"
      walk_at "m steps"
      · omega
      all_goals
        refine WhileStep.intro (n' := n - 1) (by assumption) (by assumption) (by omega) ⟨_, rfl, hasI_of (by walk_at "m look") rfl, hasI_of (by walk_at "m look") rfl, hasS_of (by walk_at "m look"), hasI_of (by walk_at "m look") rfl, hasI_of (by walk_at "m look") rfl,
          e + 1, _, hasI_of (by walk_at "m look") rfl, hasI_of (by walk_at "m look") rfl, by omega, .inr ⟨by omega, ?_, hasI_of (by walk_at "m look") ?_, hasI_of (by walk_at "m look") ?_⟩⟩
        all_goals (dsimp only [nuF, loF]; (repeat' split) <;> first | rfl | omega)
  rintro s2 ⟨h2, tk2, tab2, news2, rfl, F2, N2, b3, b4, b6, b7, b8, b9⟩
  clear a1 a2 a3 a4 a5 a6 a7 F1 N1 k1 k2
  generalize (nuF S X).fdiv (loF B X) = f at *
  generalize (nuF S X).fmod (loF B X) = e at *
  generalize loF B X = l at *
  obtain ⟨u3, b3'⟩ := b3
  obtain ⟨u4, b4'⟩ := b4
  obtain ⟨u6, b6'⟩ := b6
  obtain ⟨u7, b7'⟩ := b7
  obtain ⟨u8, b8'⟩ := b8
  obtain ⟨u9, b9'⟩ := b9
  dsimp only [List.drop]
  refine seq_at 3 (StT s cs L fun tab => HasI tab 4 sg ∧ HasI tab 6 X ∧ HasI tab 7 (qF rnd sg f e l)) ?_ ?_
  · have hfm : f.fmod 2 = f % 2 := Int.fmod_eq_emod_of_nonneg _ (by decide)
    rcases hr with rfl | rfl | rfl | rfl | rfl
    · walk_at "m fold"
      walk_at "m steps"
      all_goals refine ⟨_, _, _, _, rfl, by assumption, by assumption, hasI_of (by walk_at "m look") rfl, hasI_of (by walk_at "m look") rfl, hasI_of (by walk_at "m look") ?_⟩
      all_goals (rw [qF_n]; split <;> omega)
    all_goals
      rcases hs01 with rfl | rfl
      all_goals walk_at "m fold"
      all_goals walk_at "m steps"
      all_goals refine ⟨_, _, _, _, rfl, by assumption, by assumption, hasI_of (by walk_at "m look") rfl, hasI_of (by walk_at "m look") rfl, hasI_of (by walk_at "m look") ?_⟩
      all_goals first
        | (rw [qF_dn (by decide) (by decide)]; done)
        | (rw [qF_up (by decide) (by decide)]; split <;> omega)
  rintro s3 ⟨h3, tk3, tab3, news3, rfl, F3, N3, c4, c6, c7⟩
  clear b3' b4' b6' b7' b8' b9' F2 N2 hr
  have hq : 0 < qF rnd sg f e l := qF_pos hf
  generalize qF rnd sg f e l = q at *
  obtain ⟨k, a, hk, ha0⟩ := odd_split _ q hq (Nat.le_refl _)
  dsimp only [List.drop]
  refine seq_at 1 (StT s cs L fun tab => HasI tab 4 sg ∧ HasI tab 6 (X + k) ∧ HasI tab 7 (2 * a + 1)) ?_ ?_
  · dsimp only [List.take]
    refine wpAny_execs_cons (While_inv (fun n m _ => ∃ tab : Nat → Option Value, m = (fun y => tab (idx cs y)) ∧ HasI tab 4 sg ∧ HasI tab 6 (X + k - n) ∧ HasI tab 7 (2 ^ n * (2 * a + 1))) (n₀ := k) F3 N3
      ⟨tab3, rfl, c4, (by rw [show X + (k : Int) - (k : Int) = X by omega]; exact c6), hk ▸ c7⟩ ?_ PassesOwn.never)
    clear c4 c6 c7 F3 N3
    rintro n m₁ news₁ h₁ tk₁ F1 N1 ⟨tab, rfl, ⟨u4, c4⟩, ⟨u6, c6⟩, ⟨u7, c7⟩⟩
    rcases Nat.eq_zero_or_pos n with rfl | hn
    · have hc : (2 ^ 0 * (2 * a + 1)).fmod 2 ≠ 0 := by
        rw [Int.fmod_eq_emod_of_nonneg _ (by decide), Int.pow_zero]; omega
      walk_at "m fold"
      walk_at "m steps"
      exact ⟨_, _, _, _, rfl, by assumption, by assumption, ⟨_, c4⟩, hasI_of c6 (by omega), hasI_of c7 (by simp)⟩
    · obtain ⟨j, rfl⟩ : ∃ j, n = j + 1 := ⟨n - 1, by omega⟩
      have hc : (2 ^ (j + 1) * (2 * a + 1)).fmod 2 = 0 := by
        rw [Int.fmod_eq_emod_of_nonneg _ (by decide), Int.pow_succ, Int.mul_comm (2 ^ j) 2, Int.mul_assoc]; omega
      have hd : (2 ^ (j + 1) * (2 * a + 1)).fdiv 2 = 2 ^ j * (2 * a + 1) := by
        rw [Int.fdiv_eq_ediv_of_nonneg _ (by decide), Int.pow_succ, Int.mul_comm (2 ^ j) 2, Int.mul_assoc]; omega
      walk_at "m fold"
      walk_at "m steps"
      exact WhileStep.intro (n' := j) (by assumption) (by assumption) (by omega) ⟨_, rfl, hasI_of (by walk_at "m look") rfl, hasI_of (by walk_at "m look") (by omega), hasI_of (by walk_at "m look") hd⟩
  rintro s4 ⟨h4, tk4, tab4, news4, rfl, F4, N4, ⟨u4, d4⟩, ⟨u6, d6⟩, ⟨u7, d7⟩⟩
  clear F3 N3 c4 c6 c7
  dsimp only [List.drop]
  walk_at "m fold"
  walk_at "m steps"
  walk_at "m fresh"
  exact mk_eq ⟨k, a, hk, rfl⟩

theorem rounded_zero {w : World} {A : Around} {E : Value → Shared → Prop} {s : Shared} (W : Rdy w s.heap) (r : Le A 40) {B prec : Int} {rnd : Str} {t1 t2 t3 t4 : Tok} :
    wpAny (model PySem.Challenge.pw_ah5007_01 w) A (call (.ref 160) [.int 0 t1, .int B t2, .int prec t3, .str rnd t4]) (Back s (FreshM s.heap mZ)) E s := by
  refine enterN (Ns160 w) [(Str.ofString "above", .int 0 t1), (Str.ofString "below", .int B t2), (Str.ofString "prec", .int prec t3), (Str.ofString "rnd", .str rnd t4)]
    W r (by decide) (by k_is) (by k_is) (BindsTo.of_eq (by rfl)) (by kernel_rfl!) (by walk_at "m names") ?_ rfl rfl rfl (by decide)
  intro cs L h tk0 Nn F
  obtain ⟨i1, i2, i3, i4, i5, i6, i7, i8, i9, i10, i11, g1⟩ := Nn
  obtain ⟨KX, mean, mg, mb, T⟩ := W
  have N : News s.heap L h [] := News.nil
  walk_at "m begin"
  walk_at "m fresh"
  rfl
end PartS10
local macro_rules | `(tactic| walk_at "m pad") => `(tactic| skip)
section PartP2
open Builtin.Int (intBits)
theorem nu_lo (man ex Y : Int) : ∃ u v : Nat, nuF (man * 2 ^ ex.toNat) Y = man * 2 ^ u ∧ loF (2 ^ (-ex).toNat) Y = 2 ^ v ∧ (u : Int) - (v : Int) = ex - Y := by
  refine ⟨ex.toNat + (-Y).toNat, (-ex).toNat + Y.toNat, ?_, ?_, by omega⟩
  · unfold nuF
    split
    · rw [Int.mul_assoc, ← Int.pow_add]
    · rw [show (-Y).toNat = 0 by omega, Nat.add_zero]
  · unfold loF
    split
    · rw [← Int.pow_add]
    · rw [show Y.toNat = 0 by omega, Nat.add_zero]
theorem fdiv_up {man : Int} {u v n : Nat} (h : v = u + n) : (man * 2 ^ u).fdiv (2 ^ v) = man / 2 ^ n ∧ (man * 2 ^ u).fmod (2 ^ v) = man % 2 ^ n * 2 ^ u ∧ (2 : Int) ^ v = 2 ^ n * 2 ^ u := by
  have hu := p2pos u
  have hn := p2pos n
  have e : (2 : Int) ^ v = 2 ^ n * 2 ^ u := by rw [h, Int.pow_add, Int.mul_comm]
  refine ⟨?_, ?_, e⟩
  · rw [fdivp, e, Int.mul_comm man, Int.mul_comm (2 ^ n), Int.mul_ediv_mul_of_pos _ _ hu]
  · rw [Int.fmod_eq_emod_of_nonneg _ (Int.le_of_lt (p2pos v)), e, Int.mul_comm man, Int.mul_comm (2 ^ n), Int.mul_emod_mul_of_pos _ _ hu, Int.mul_comm]
theorem fdiv_dn {man : Int} {u v n : Nat} (h : u = v + n) : (man * 2 ^ u).fdiv (2 ^ v) = man * 2 ^ n ∧ (man * 2 ^ u).fmod (2 ^ v) = 0 := by
  have hv := p2pos v
  have e : man * 2 ^ u = 2 ^ v * (man * 2 ^ n) := by rw [h, Int.pow_add, Int.mul_left_comm]
  rw [e]
  refine ⟨?_, ?_⟩
  · rw [fdivp, Int.mul_ediv_cancel_left _ (Int.ne_of_gt hv)]
  · rw [Int.fmod_eq_emod_of_nonneg _ (Int.le_of_lt hv), Int.mul_emod_right]
theorem qF_scale {rnd : Str} {sg f r l c : Int} (hc : 0 < c) : qF rnd sg f (r * c) (l * c) = qF rnd sg f r l := by
  have h1 : (l * c < 2 * (r * c)) ↔ l < 2 * r := by
    rw [← Int.mul_assoc]
    exact ⟨fun h => Int.lt_of_mul_lt_mul_right h (Int.le_of_lt hc), fun h => Int.mul_lt_mul_of_pos_right h hc⟩
  have h2 : (2 * (r * c) = l * c) ↔ 2 * r = l := by
    rw [← Int.mul_assoc]
    exact ⟨fun h => Int.eq_of_mul_eq_mul_right (Int.ne_of_gt hc) h, fun h => by rw [h]⟩
  have h3 : 0 < r * c ↔ 0 < r := ⟨fun h => Int.lt_of_mul_lt_mul_right (a := c) (by rw [Int.zero_mul]; exact h) (Int.le_of_lt hc), fun h => Int.mul_pos h hc⟩
  unfold qF
  simp only [h1, h2, h3]
theorem qF_rest0 {rnd : Str} {sg f l : Int} (hl : 0 < l) : qF rnd sg f 0 l = f := by
  unfold qF
  split
  · rw [if_neg (by omega)]
  · rw [if_neg (by omega)]
theorem rq_qF (rnd : Str) (sg man : Int) (n : Nat) : rq rnd sg man n = qF rnd sg (man / 2 ^ n) (man % 2 ^ n) (2 ^ n) := rfl
theorem rounded_spec {w : World} {A : Around} {E : Value → Shared → Prop} {s : Shared} (W : Rdy w s.heap) (r : Le A 40) {above B sg man ex bc prec : Int} {rnd : Str} {t1 t2 t3 t4 : Tok}
    (hx : NzM (sg, man, ex, bc)) (ha : (sg = 0 ∧ above = man * 2 ^ ex.toNat) ∨ (sg = 1 ∧ above = -(man * 2 ^ ex.toNat))) (hB : B = 2 ^ (-ex).toNat) (hp : 1 ≤ prec) (hp' : prec ≤ 300)
    (hr : rnd = Str.ofString "n" ∨ rnd = Str.ofString "f" ∨ rnd = Str.ofString "c" ∨ rnd = Str.ofString "d" ∨ rnd = Str.ofString "u") :
    wpAny (model PySem.Challenge.pw_ah5007_01 w) A (call (.ref 160) [.int above t1, .int B t2, .int prec t3, .str rnd t4])
      (Back s (FreshM s.heap (mk sg (rq rnd sg man (bc - prec).toNat) (ex + (bc - prec).toNat)))) E s := by
  obtain ⟨hs, hm, ho, hc, hf, hl, hh⟩ := hx
  dsimp only at hs hm ho hc hf hl hh
  have hS0 : 0 < man * 2 ^ ex.toNat := Int.mul_pos hm (p2pos _)
  have b1 : intBits (man * 2 ^ ex.toNat) = intBits man + ex.toNat := by rw [Int.mul_comm]; exact bits_mul_pow hm _
  have b2 : intBits B = (-ex).toNat + 1 := by rw [hB]; exact bits_pow _
  have hbp := bits_pos hm
  have hX : ∃ X : Int, X = (intBits (man * 2 ^ ex.toNat) : Int) - (intBits B : Int) - prec + 1 ∧ X = (bc - prec) + ex := ⟨_, rfl, by rw [b1, b2, hc]; omega⟩
  obtain ⟨X, hX, hX'⟩ := hX
  -- at X
  obtain ⟨u, v, e1, e2, e3⟩ := nu_lo man ex X
  obtain ⟨u', v', g1, g2, g3⟩ := nu_lo man ex (X - 1)
  rw [← hB] at e2 g2
  have m1 := bits_ge hm
  have m2 := bits_lt hm
  have k1 : 2 ^ prec.toNat ≤ (nuF (man * 2 ^ ex.toNat) (X - 1)).fdiv (loF B (X - 1)) := by
    rw [g1, g2]
    by_cases q : u' ≤ v'
    · rw [(fdiv_up (n := v' - u') (by omega)).1]
      refine Int.le_ediv_of_mul_le (p2pos _) ?_
      rw [← Int.pow_add]
      exact Int.le_trans (p2le (by omega)) m1
    · rw [(fdiv_dn (n := u' - v') (by omega)).1]
      refine Int.le_trans ?_ (Int.mul_le_mul_of_nonneg_right m1 (Int.le_of_lt (p2pos _)))
      rw [← Int.pow_add]
      exact p2le (by omega)
  have k2 : ¬ 2 ^ prec.toNat ≤ (nuF (man * 2 ^ ex.toNat) X).fdiv (loF B X) := by
    rw [e1, e2, Int.not_le]
    by_cases q : u ≤ v
    · rw [(fdiv_up (n := v - u) (by omega)).1]
      refine Int.ediv_lt_of_lt_mul (p2pos _) ?_
      rw [← Int.pow_add]
      exact Int.lt_of_lt_of_le m2 (p2le (by omega))
    · rw [(fdiv_dn (n := u - v) (by omega)).1]
      refine Int.lt_of_lt_of_le (Int.mul_lt_mul_of_pos_right m2 (p2pos _)) ?_
      rw [← Int.pow_add]
      exact p2le (by omega)
  have hlo : 0 < loF B X := by rw [e2]; exact p2pos v
  have hfd : 0 < (nuF (man * 2 ^ ex.toNat) X).fdiv (loF B X) := by
    rw [e1, e2]
    by_cases q : u ≤ v
    · rw [(fdiv_up (n := v - u) (by omega)).1]
      have := Int.le_ediv_of_mul_le (p2pos (v - u)) (show 1 * 2 ^ (v - u) ≤ man by
        rw [Int.one_mul]; exact Int.le_trans (p2le (by omega)) m1)
      omega
    · rw [(fdiv_dn (n := u - v) (by omega)).1]
      exact Int.mul_pos hm (p2pos _)
  have key := rounded_walk (E := E) W r (above := above) (B := B) (S := man * 2 ^ ex.toNat) (prec := prec) (sg := sg) (X := X) (rnd := rnd) (t1 := t1) (t2 := t2) (t3 := t3) (t4 := t4)
    (by omega) (by split <;> omega) (by split <;> omega) (by rw [hB]; exact p2pos _) hp hp' hr (by omega) (by omega) hX k1 k2 hlo hfd
  have e : mk sg (qF rnd sg ((nuF (man * 2 ^ ex.toNat) X).fdiv (loF B X)) ((nuF (man * 2 ^ ex.toNat) X).fmod (loF B X)) (loF B X)) X = mk sg (rq rnd sg man (bc - prec).toNat) (ex + (bc - prec).toNat) := by
    rw [e1, e2]
    by_cases q : u ≤ v
    · have en : (bc - prec).toNat = v - u := by omega
      obtain ⟨c1, c2, c3⟩ := fdiv_up (man := man) (u := u) (v := v) (n := v - u) (by omega)
      rw [c1, c2, c3, qF_scale (p2pos u), en, rq_qF]
      congr 1; omega
    · have en : (bc - prec).toNat = 0 := by omega
      obtain ⟨c1, c2⟩ := fdiv_dn (man := man) (u := u) (v := v) (n := u - v) (by omega)
      rw [c1, c2, qF_rest0 (p2pos v), en, rq_zero, Int.mul_comm, mk_shift hm]
      congr 1; omega
  rw [e] at key
  exact key
end PartP2
local macro_rules | `(tactic| walk_at "m pad") => `(tactic| skip)
section PartS11
/-- a tuple of four ints, as an object -/
abbrev oT (x : M) (t1 t2 t3 t4 : Tok) : Obj := { cls := .type "tuple", data := .seq #[.int x.1 t1, .int x.2.1 t2, .int x.2.2.1 t3, .int x.2.2.2 t4] }
/-- objects that h holds and h₀ did not -/
def FreshL (h₀ : Heap) (l : List (Addr × Obj)) (h : Heap) : Prop := ∀ p ∈ l, h.get? p.1 = some p.2 ∧ h₀.get? p.1 = none
theorem FreshL.push {h₀ h h' : Heap} {L : Addr} {m : Str → Option Value} {news l : List (Addr × Obj)} (F : Fr h₀ L h m) (N : News h₀ L h' news) (f : FreshL h l h') : News h₀ L h' (l ++ news) := by
  intro p hp
  rcases List.mem_append.mp hp with hp | hp
  · obtain ⟨hg, hn⟩ := f p hp
    refine ⟨hg, fun e => ?_, ?_⟩
    · obtain ⟨oL, _, _, hL, _⟩ := F.ns
      rw [e, hL] at hn; cases hn
    · cases q : h₀.get? p.1 with
      | none => rfl
      | some o => rw [F.keep _ _ q] at hn; cases hn
  · exact N p hp
theorem freshL_of {h₀ h : Heap} {L : Addr} {news l : List (Addr × Obj)} (N : News h₀ L h news) (hl : ∀ p ∈ l, p ∈ news) : FreshL h₀ l h :=
  fun p hp => ⟨(N p (hl p hp)).1, (N p (hl p hp)).2.2⟩
/-- the list of the three others -/
def FreshO (h₀ : Heap) (v : Value) (h : Heap) : Prop :=
  ∃ (l a b c : Addr) (a1 a2 a3 a4 b1 b2 b3 b4 c1 c2 c3 c4 : Tok), v = .ref l ∧
    FreshL h₀ [(l, { cls := .type "list", data := .seq #[.ref a, .ref b, .ref c] }), (a, { cls := .type "tuple", data := .seq #[.int 0 a1, .int 0 a2, .int (-456) a3, .int (-2) a4] }), (b, { cls := .type "tuple", data := .seq #[.int 1 b1, .int 0 b2, .int (-789) b3, .int (-3) b4] }),
      (c, { cls := .type "tuple", data := .seq #[.int 0 c1, .int 0 c2, .int (-123) c3, .int (-1) c4] })] h
theorem freshO_of {h₀ h : Heap} {L : Addr} {news : List (Addr × Obj)} {l a b c : Addr} {a1 a2 a3 a4 b1 b2 b3 b4 c1 c2 c3 c4 : Tok} (N : News h₀ L h news)
    (m1 : (l, ({ cls := .type "list", data := .seq #[.ref a, .ref b, .ref c] } : Obj)) ∈ news) (m2 : (a, ({ cls := .type "tuple", data := .seq #[.int 0 a1, .int 0 a2, .int (-456) a3, .int (-2) a4] } : Obj)) ∈ news)
    (m3 : (b, ({ cls := .type "tuple", data := .seq #[.int 1 b1, .int 0 b2, .int (-789) b3, .int (-3) b4] } : Obj)) ∈ news) (m4 : (c, ({ cls := .type "tuple", data := .seq #[.int 0 c1, .int 0 c2, .int (-123) c3, .int (-1) c4] } : Obj)) ∈ news) : FreshO h₀ (.ref l) h := by
  refine ⟨l, a, b, c, a1, a2, a3, a4, b1, b2, b3, b4, c1, c2, c3, c4, rfl, freshL_of N fun p hp => ?_⟩
  simp only [List.mem_cons, List.not_mem_nil, or_false] at hp
  rcases hp with rfl | rfl | rfl | rfl <;> assumption
section
variable {Mo : Model} {A : Around} {E : Value → Shared → Prop} {s : Shared} {Q : Value → Shared → Prop} {h₀ : Heap} {L : Addr} {m : Str → Option Value} {news : List (Addr × Obj)} {t : Sem Value}
theorem useO (F : Fr h₀ L s.heap m) (N : News h₀ L s.heap news) (hc : wpAny Mo A t (Back s (FreshO s.heap)) E s)
    (h : ∀ (l a b c : Addr) (a1 a2 a3 a4 b1 b2 b3 b4 c1 c2 c3 c4 : Tok) h' tk, Fr h₀ L h' m → News h₀ L h' ((l, ({ cls := .type "list", data := .seq #[.ref a, .ref b, .ref c] } : Obj)) :: (a, ({ cls := .type "tuple", data := .seq #[.int 0 a1, .int 0 a2, .int (-456) a3, .int (-2) a4] } : Obj)) :: (b, ({ cls := .type "tuple", data := .seq #[.int 1 b1, .int 0 b2, .int (-789) b3, .int (-3) b4] } : Obj)) ::
      (c, ({ cls := .type "tuple", data := .seq #[.int 0 c1, .int 0 c2, .int (-123) c3, .int (-1) c4] } : Obj)) :: news) → Q (.ref l) { s with heap := h', toks := tk }) :
    wpAny Mo A t Q E s := by
  refine use F N hc fun v h' tk F' N' k hr => ?_
  obtain ⟨l, a, b, c, a1, a2, a3, a4, b1, b2, b3, b4, c1, c2, c3, c4, rfl, f⟩ := hr
  exact h l a b c a1 a2 a3 a4 b1 b2 b3 b4 c1 c2 c3 c4 h' tk F' (FreshL.push F N' f)
end
theorem others_spec {w : World} {A : Around} {E : Value → Shared → Prop} {s : Shared} (W : Rdy w s.heap) (r : Le A 40) :
    wpAny (model PySem.Challenge.pw_ah5007_01 w) A (call (.ref 167) []) (Back s (FreshO s.heap)) E s := by
  refine enterN (fun _ => True) [] W r (by decide) (by k_is) (by k_is) (BindsTo.of_eq (by rfl)) (by kernel_rfl!) trivial ?_ rfl rfl rfl (by decide)
  intro cs L h tk0 Nn F
  obtain ⟨KX, mean, mg, mb, T⟩ := W
  have N : News s.heap L h [] := News.nil
  walk_at "m begin"
  all_goals (refine ⟨_, _, rfl, Fr.keep (by assumption), freshO_of (by assumption) (by k_mem) (by k_mem) (by k_mem) (by k_mem)⟩)
end PartS11
local macro_rules | `(tactic| walk_at "m pad") => `(tactic| skip)
section PartS12
open Builtin.Int (intBits)
theorem sm_bits {x : M} (hf : intBits x.2.1 ≤ 70) : intBits (sm x) ≤ 70 := by unfold sm; split; exact intBits_neg_le hf; exact hf
theorem wA_bits {x : M} (hf : intBits x.2.1 ≤ 70) (hh : x.2.2.1 ≤ 1000) : intBits (wA x) ≤ 1071 := by
  have h := sm_bits hf
  unfold wA; split
  · exact intBits_mul_le h (by rw [bits_pow]; omega : intBits ((2 : Int) ^ x.2.2.1.toNat) ≤ 1001)
  · omega
theorem wB_bits {x : M} (hl : -1000 ≤ x.2.2.1) : intBits (wB x) ≤ 1001 := by
  unfold wB; split
  · decide
  · rw [bits_pow]; omega
theorem FinM.worthy {x : M} (h : FinM x) : -1000 ≤ x.2.2.1 ∧ x.2.2.1 ≤ 1000 ∧ intBits x.2.1 ≤ 70 := by
  rcases h with rfl | h
  · decide
  · exact ⟨h.lo, h.hi, h.few⟩
theorem wA_fin {x : M} (h : FinM x) : intBits (wA x) ≤ 1071 := wA_bits h.worthy.2.2 h.worthy.2.1
theorem wB_fin {x : M} (h : FinM x) : intBits (wB x) ≤ 1001 := wB_bits h.worthy.1
theorem worth_fin {w : World} {A : Around} {E : Value → Shared → Prop} {s : Shared} (W : Rdy w s.heap) (r : Le A 40) {a : Addr} {sg man ex bc : Int} {t1 t2 t3 t4 : Tok}
    (ha : IsTup s.heap a #[.int sg t1, .int man t2, .int ex t3, .int bc t4]) (hx : FinM (sg, man, ex, bc)) :
    wpAny (model PySem.Challenge.pw_ah5007_01 w) A (call (.ref 153) [.ref a]) (Back s (Fresh2 s.heap (wA (sg, man, ex, bc)) (wB (sg, man, ex, bc)))) E s :=
  worth_spec W r ha hx.worthy.1 hx.worthy.2.1 hx.worthy.2.2
theorem NumM.fin {x : M} (h : NumM x) (a : ¬ x = mInf) (b : ¬ x = mNinf) : FinM x := by
  rcases h with h | h | h
  · exact h
  · exact (a h).elim
  · exact (b h).elim
section
variable {Mo : Model} {A : Around} {E : Value → Shared → Prop} {s : Shared} {Q : Value → Shared → Prop} {h₀ : Heap} {L : Addr} {m : Str → Option Value} {news : List (Addr × Obj)} {t : Sem Value}
theorem use2 {x y : Int} (F : Fr h₀ L s.heap m) (N : News h₀ L s.heap news) (hc : wpAny Mo A t (Back s (Fresh2 s.heap x y)) E s)
    (h : ∀ (a : Addr) (t1 t2 : Tok) h' tk, Fr h₀ L h' m → News h₀ L h' ((a, ({ cls := .type "tuple", data := .seq #[.int x t1, .int y t2] } : Obj)) :: news) → Q (.ref a) { s with heap := h', toks := tk }) :
    wpAny Mo A t Q E s := by
  refine use F N hc fun v h' tk F' N' k hr => ?_
  obtain ⟨a, t1, t2, rfl, hg, hn⟩ := hr
  refine h a t1 t2 h' tk F' fun p hp => ?_
  rcases List.mem_cons.mp hp with rfl | hp
  · refine ⟨hg, fun e => ?_, ?_⟩
    · obtain ⟨oL, _, _, hL, _⟩ := F.ns
      rw [show a = L from e, hL] at hn; cases hn
    · cases q : h₀.get? a with
      | none => rfl
      | some o => rw [F.keep _ _ q] at hn; cases hn
  · exact N' p hp
end
local macro_rules | `(tactic| walk_at "m worth") => `(tactic| ((walk_at "m use2"); (case mhc => exact worth_fin (by walk_at "m rdy") (by walk_at "m le") (by walk_at "m tup") (by walk_at "m small")); (intro D' t1' t2' h' tk' F' N'); (try k_sweep)))
local macro_rules | `(tactic| walk_at "m use2") => `(tactic| ((rename Fr _ _ _ _ => mF'); (rename News _ _ _ _ => mN'); (refine' use2 mF' mN' ?mhc ?_)))
local macro_rules | `(tactic| walk_at "call ref") => `(tactic| (k_here; first
  | ((with_reducible show wpAny _ _ (call (Value.ref 153) _ _) _ _ _); walk_at "m worth")
  | ((with_reducible show wpAny _ _ (call (Value.ref 167) _ _) _ _ _); (rename Fr _ _ _ _ => mF'); (rename News _ _ _ _ => mN'); (refine' useO mF' mN' ?mhc ?_); (case mhc => exact others_spec (by walk_at "m rdy") (by walk_at "m le")); (intro l' a' b' c' p1' p2' p3' p4' p5' p6' p7' p8' p9' q1' q2' q3' h' tk' F' N'); (try k_sweep))))
local macro_rules | `(tactic| walk_at "m small") => `(tactic| first
  | with_reducible assumption
  | exact NumM.fin (Or.resolve_right (by assumption) (by assumption)) (by assumption) (by assumption))
local macro_rules | `(tactic| walk_at "binaryOp Mult int int") => `(tactic| (k_here; (with_reducible refine i_mul ?kb1 ?_); (case kb1 => exact IntMulOk.of_le (wA_fin (by walk_at "m small")) (wB_fin (by walk_at "m small")) (by decide))))
/-- the law's order of two -/
def OrdV (x y : M) (v : Value) : Prop := (x = mNan ∨ y = mNan → v = .none) ∧ (¬ x = mNan → ¬ y = mNan → ∃ t, v = .int (ordF x y) t)
theorem OrdV.n1 {x y : M} (h : x = (0, 0, -123, -1)) : OrdV x y .none := ⟨fun _ => rfl, fun a => (a h).elim⟩
theorem OrdV.n2 {x y : M} (h : y = (0, 0, -123, -1)) : OrdV x y .none := ⟨fun _ => rfl, fun _ a => (a h).elim⟩
theorem OrdV.i {x y : M} {z : Int} {t : Tok} (a : ¬ x = (0, 0, -123, -1)) (b : ¬ y = (0, 0, -123, -1)) (h : z = ordF x y) : OrdV x y (.int z t) :=
  ⟨fun q => q.elim (fun q => (a q).elim) (fun q => (b q).elim), fun _ _ => ⟨t, by rw [h]⟩⟩
theorem o7 {X Y : M} (n : ¬ X = Y) (c : ¬ X = (0, 0, -456, -2)) (d : ¬ Y = (1, 0, -789, -3)) (h : X = (1, 0, -789, -3) ∨ Y = (0, 0, -456, -2)) : -1 = ordF X Y := by
  unfold ordF
  rw [if_neg n, if_neg (fun q => q.elim c d), if_pos h]
theorem o8 {X Y : M} (n : ¬ X = Y) (c : ¬ X = (0, 0, -456, -2)) (d : ¬ Y = (1, 0, -789, -3)) (e : ¬ X = (1, 0, -789, -3)) (f : ¬ Y = (0, 0, -456, -2)) : ordF X Y = sgnZ (gapF X Y) := by
  unfold ordF
  rw [if_neg n, if_neg (fun q => q.elim c d), if_neg (fun q => q.elim e f)]
theorem o9 {z : Int} (h : z = 0) : 0 = sgnZ z := by unfold sgnZ; rw [if_pos h]
theorem o10 {z : Int} (h : z ≠ 0) (h' : 0 < z) : 1 = sgnZ z := by unfold sgnZ; rw [if_neg h, if_pos h']
theorem o11 {z : Int} (h : z ≠ 0) (h' : ¬ 0 < z) : -1 = sgnZ z := by unfold sgnZ; rw [if_neg h, if_neg h']
theorem order_spec {w : World} {A : Around} {E : Value → Shared → Prop} {s : Shared} (W : Rdy w s.heap) (r : Le A 35) {a b : Addr} {sg man ex bc sg' man' ex' bc' : Int} {t1 t2 t3 t4 u1 u2 u3 u4 : Tok}
    (ha : IsTup s.heap a #[.int sg t1, .int man t2, .int ex t3, .int bc t4]) (hb : IsTup s.heap b #[.int sg' u1, .int man' u2, .int ex' u3, .int bc' u4])
    (hx : NumM (sg, man, ex, bc) ∨ ((sg, man, ex, bc) : M) = (0, 0, -123, -1)) (hy : NumM (sg', man', ex', bc') ∨ ((sg', man', ex', bc') : M) = (0, 0, -123, -1)) :
    wpAny (model PySem.Challenge.pw_ah5007_01 w) A (call (.ref 174) [.ref a, .ref b]) (Back s fun v _ => OrdV (sg, man, ex, bc) (sg', man', ex', bc') v) E s := by
  refine enterN (Ns174 w) [(Str.ofString "s", .ref a), (Str.ofString "t", .ref b)]
    W r (by decide) (by k_is) (by k_is) (BindsTo.of_eq (by rfl)) (by kernel_rfl!) (by walk_at "m names") ?_ rfl rfl rfl (by decide)
  intro cs L h tk0 Nn F
  obtain ⟨i1, i2, i3, i4, i5, i6, i7, i8, g1, g2⟩ := Nn
  obtain ⟨KX, mean, mg, mb, T⟩ := W
  have N : News s.heap L h [] := News.nil
  walk_at "m begin"
  all_goals (refine ⟨_, _, rfl, Fr.keep (by assumption), ?_⟩; dsimp only)
  all_goals first
    | exact OrdV.n1 (by assumption)
    | exact OrdV.n2 (by assumption)
    | refine OrdV.i (by assumption) (by assumption) ?_
  all_goals first
    | exact sp3 (by assumption)
    | exact sp5 (by assumption) (by assumption)
    | exact sp6 (by assumption) (by assumption)
    | exact o7 (by assumption) (by assumption) (by assumption) (.inl (by assumption))
    | exact o7 (by assumption) (by assumption) (by assumption) (.inr (by assumption))
    | rw [o8 (by assumption) (by assumption) (by assumption) (by assumption) (by assumption)]
  all_goals first
    | exact o9 (by assumption)
    | exact o10 (by assumption) (by assumption)
    | exact o11 (by assumption) (by assumption)
end PartS12
local macro_rules | `(tactic| walk_at "m pad") => `(tactic| skip)
local macro_rules | `(tactic| walk_at "m pad") => `(tactic| skip)
local macro_rules | `(tactic| walk_at "m pad") => `(tactic| skip)
local macro_rules | `(tactic| walk_at "m pad") => `(tactic| skip)
local macro_rules | `(tactic| walk_at "m pad") => `(tactic| skip)
local macro_rules | `(tactic| walk_at "m pad") => `(tactic| skip)
section PartS13
theorem News.got {h₀ h : Heap} {L a : Addr} {o : Obj} {news : List (Addr × Obj)} (N : News h₀ L h news) (hm : (a, o) ∈ news) : h.get? a = some o := (N _ hm).1
section
variable {prog : Program} {w : World} {A : Around} {E : Value → Shared → Prop} {s : Shared} {Q : Value → Shared → Prop} {a b : Addr} {x1 x2 x3 x4 x5 y1 y2 y3 y4 y5 : Bool}
theorem reads_b5 {h : Heap} {a : Addr} (e : h.get? a = some { cls := .type "list", data := .seq #[.bool x1, .bool x2, .bool x3, .bool x4, .bool x5] }) :
    Reads h (.ref a) (.list [.bool x1, .bool x2, .bool x3, .bool x4, .bool x5]) [a] :=
  reads_list_at e rfl rfl (.cons (.bool _) (.cons (.bool _) (.cons (.bool _) (.cons (.bool _) (.cons (.bool _) .nil)))))
theorem eq_b5 (ha : s.heap.get? a = some { cls := .type "list", data := .seq #[.bool x1, .bool x2, .bool x3, .bool x4, .bool x5] })
    (hb : s.heap.get? b = some { cls := .type "list", data := .seq #[.bool y1, .bool y2, .bool y3, .bool y4, .bool y5] }) (hu : A.units + 64 < cLine)
    (e1 : x1 = y1) (e2 : x2 = y2) (e3 : x3 = y3) (e4 : x4 = y4) (e5 : x5 = y5) (h : Q (.bool true) s) : wpAny (model prog w) A (compareOp .Eq (.ref a) (.ref b)) Q E s := by
  subst e1 e2 e3 e4 e5
  refine eq_dataH (reads_b5 ha) (reads_b5 hb) (by rfl) (by rfl) hu ?_
  have e : PyData.eqv (.list [.bool x1, .bool x2, .bool x3, .bool x4, .bool x5]) (.list [.bool x1, .bool x2, .bool x3, .bool x4, .bool x5]) = true := by
    cases x1 <;> cases x2 <;> cases x3 <;> cases x4 <;> cases x5 <;> rfl
  rw [e]; exact h
end
theorem ord_ne_z {y : M} (h : NzM y) : ordF mZ y ≠ 0 := by
  rw [ord_z_l (.inl (.inr h)), sign_nz h]
  split <;> decide
theorem ord_ne {x y : M} (hx : NumM x) (hy : NumM y) (n : ¬ x = y) : ordF x y ≠ 0 := by
  by_cases c : x = mInf ∨ y = mNinf
  · unfold ordF; rw [if_neg n, if_pos c]; decide
  · by_cases d : x = mNinf ∨ y = mInf
    · unfold ordF; rw [if_neg n, if_neg c, if_pos d]; decide
    · rcases hx with (rfl | hx) | rfl | rfl
      · rcases hy with (rfl | hy) | rfl | rfl
        · exact (n rfl).elim
        · exact ord_ne_z hy
        · exact (d (.inr rfl)).elim
        · exact (c (.inr rfl)).elim
      · rcases hy with (rfl | hy) | rfl | rfl
        · rw [ord_neg (.inl (.inl rfl)) (.inl (.inr hx))]
          have := ord_ne_z hx
          omega
        · by_cases q : x.1 = y.1
          · obtain ⟨sg, man, ex, bc⟩ := x
            obtain ⟨sg', man', ex', bc'⟩ := y
            dsimp only at q
            subst q
            rcases Int.lt_trichotomy ex ex' with e | e | e
            · rw [ord_addD hx hy e]; (repeat' split) <;> decide
            · subst e
              rw [ord_ex hx hy]
              by_cases m : man = man'
              · subst m
                have h1 := hx.bc
                have h2 := hy.bc
                dsimp only at h1 h2
                exact (n (by rw [h1, h2])).elim
              · rw [if_neg m]; (repeat' split) <;> decide
            · rw [ord_addU hx hy e]; (repeat' split) <;> decide
          · rw [ord_signs hx hy q]; split <;> decide
        · exact (d (.inr rfl)).elim
        · exact (c (.inr rfl)).elim
      · exact (c (.inl rfl)).elim
      · exact (d (.inl rfl)).elim
theorem ord_eq0 {x y : M} (hx : NumM x) (hy : NumM y) : ordF x y = 0 ↔ x = y := by
  constructor
  · intro h
    by_cases n : x = y
    · exact n
    · exact (ord_ne hx hy n h).elim
  · intro h
    rw [h]; unfold ordF; rw [if_pos rfl]
theorem td_nan {X Y : M} {p : Prop} [Decidable p] (hn : X = mNan ∨ Y = mNan) : decide (X ≠ mNan ∧ Y ≠ mNan ∧ p) = false :=
  decide_eq_false fun h => hn.elim h.1 h.2.1
theorem td_nan0 {X Y : M} (hn : X = mNan ∨ Y = mNan) : decide (X = Y ∧ X ≠ mNan) = false :=
  decide_eq_false fun h => hn.elim h.2 fun e => h.2 (h.1.trans e)
theorem td_num {X Y : M} {p q : Prop} [Decidable p] [Decidable q] (a : ¬ X = mNan) (b : ¬ Y = mNan) (h : p ↔ q) : decide (X ≠ mNan ∧ Y ≠ mNan ∧ p) = decide q :=
  decide_eq_decide.mpr ⟨fun x => h.mp x.2.2, fun x => ⟨a, b, h.mpr x⟩⟩
theorem td_num0 {X Y : M} (hx : NumM X ∨ X = mNan) (hy : NumM Y ∨ Y = mNan) (a : ¬ X = mNan) (b : ¬ Y = mNan) : decide (X = Y ∧ X ≠ mNan) = (ordF X Y == 0) := by
  have h := ord_eq0 (hx.resolve_right a) (hy.resolve_right b)
  by_cases q : X = Y
  · rw [h.mpr q, decide_eq_true ⟨q, a⟩]; rfl
  · rw [decide_eq_false (fun x => q x.1)]
    exact (beq_false_of_ne fun x => q (h.mp x)).symm
local macro_rules | `(tactic| walk_at "m boo") => `(tactic| ((walk_at "m use"); (case mhc => first
  | exact eq_spec (by walk_at "m rdy") (by walk_at "m le") (by walk_at "m tup") (by walk_at "m tup")
  | exact lt_spec (by walk_at "m rdy") (by walk_at "m le") (by walk_at "m tup") (by walk_at "m tup") (by assumption) (by assumption)
  | exact le_spec (by walk_at "m rdy") (by walk_at "m le") (by walk_at "m tup") (by walk_at "m tup") (by assumption) (by assumption)
  | exact gt_spec (by walk_at "m rdy") (by walk_at "m le") (by walk_at "m tup") (by walk_at "m tup") (by assumption) (by assumption)
  | exact ge_spec (by walk_at "m rdy") (by walk_at "m le") (by walk_at "m tup") (by walk_at "m tup") (by assumption) (by assumption)); (intro v' h' tk' F' N' k' hR'); (subst hR'); (clear k'); (try k_sweep)))
local macro_rules | `(tactic| walk_at "call ref") => `(tactic| (k_here; first
  | ((with_reducible show wpAny _ _ (call (Value.ref 174) _ _) _ _ _); (walk_at "m use"); (case mhc => exact order_spec (by walk_at "m rdy") (by walk_at "m le") (by walk_at "m tup") (by walk_at "m tup") (by assumption) (by assumption)); (intro v' h' tk' F' N' k' hR');
      (first | (have hv' := hR'.1 (by assumption); subst hv'; clear k' hR') | (obtain ⟨tt', hv'⟩ := hR'.2 (by assumption) (by assumption); subst hv'; clear k' hR')); (try k_sweep))
  | ((with_reducible show wpAny _ _ (call (Value.ref 58) _ _) _ _ _); (walk_at "m use"); (case mhc => (refine cmp_spec (by walk_at "m rdy") (by walk_at "m le") (by walk_at "m tup") (by walk_at "m tup") ?_ ?_ <;> exact Or.resolve_right (by assumption) (by assumption))); (intro v' h' tk' F' N' k' hR'); (obtain ⟨tt', hv'⟩ := hR'); (subst hv'); (clear k'); (try k_sweep))
  | walk_at "m boo"))
local macro_rules | `(tactic| walk_at "m got") => `(tactic| exact News.got (by with_reducible assumption) (by k_mem))
local macro_rules | `(tactic| walk_at "compareOp Eq ref ref") => `(tactic| (k_here; (with_reducible show wpAny _ _ (compareOp CmpOp.Eq (Value.ref _) (Value.ref _)) _ _ _); k_dflt (refine' eq_b5 ?ka ?kb ?ku ?e1 ?e2 ?e3 ?e4 ?e5 ?_; (case ka => walk_at "m got"); (case kb => walk_at "m got"); (case ku => walk_at "m units"); (case e1 => walk_at "m told"); (case e2 => walk_at "m told"); (case e3 => walk_at "m told"); (case e4 => walk_at "m told"); (case e5 => walk_at "m told"))))
local macro_rules | `(tactic| walk_at "m told") => `(tactic| first
  | exact td_nan (by assumption)
  | exact td_nan0 (by assumption)
  | exact td_num0 (by assumption) (by assumption) (by assumption) (by assumption)
  | exact td_num (by assumption) (by assumption) Iff.rfl)
theorem pair_nan {w : World} {A : Around} {E : Value → Shared → Prop} {s : Shared} (W : Rdy w s.heap) (r : Le A 33) {a b : Addr} {sg man ex bc sg' man' ex' bc' : Int} {t1 t2 t3 t4 u1 u2 u3 u4 : Tok}
    (ha : IsTup s.heap a #[.int sg t1, .int man t2, .int ex t3, .int bc t4]) (hb : IsTup s.heap b #[.int sg' u1, .int man' u2, .int ex' u3, .int bc' u4])
    (hx : NumM (sg, man, ex, bc) ∨ ((sg, man, ex, bc) : M) = (0, 0, -123, -1)) (hy : NumM (sg', man', ex', bc') ∨ ((sg', man', ex', bc') : M) = (0, 0, -123, -1))
    (hn : ((sg, man, ex, bc) : M) = mNan ∨ ((sg', man', ex', bc') : M) = mNan) :
    wpAny (model PySem.Challenge.pw_ah5007_01 w) A (call (.ref 181) [.ref a, .ref b]) (Back s fun v _ => v = .bool true) E s := by
  refine enterN (Ns181 w) [(Str.ofString "s", .ref a), (Str.ofString "t", .ref b)]
    W r (by decide) (by k_is) (by k_is) (BindsTo.of_eq (by rfl)) (by kernel_rfl!) (by walk_at "m names") ?_ rfl rfl rfl (by decide)
  intro cs L h tk0 Nn F
  obtain ⟨i1, i2, i3, i4, g1, g2, g3, g4, g5, g6, g7⟩ := Nn
  obtain ⟨KX, mean, mg, mb, T⟩ := W
  have N : News s.heap L h [] := News.nil
  walk_at "m begin"
  exact ⟨_, _, rfl, Fr.keep (by assumption), rfl⟩
theorem pair_num {w : World} {A : Around} {E : Value → Shared → Prop} {s : Shared} (W : Rdy w s.heap) (r : Le A 33) {a b : Addr} {sg man ex bc sg' man' ex' bc' : Int} {t1 t2 t3 t4 u1 u2 u3 u4 : Tok}
    (ha : IsTup s.heap a #[.int sg t1, .int man t2, .int ex t3, .int bc t4]) (hb : IsTup s.heap b #[.int sg' u1, .int man' u2, .int ex' u3, .int bc' u4])
    (hx : NumM (sg, man, ex, bc) ∨ ((sg, man, ex, bc) : M) = (0, 0, -123, -1)) (hy : NumM (sg', man', ex', bc') ∨ ((sg', man', ex', bc') : M) = (0, 0, -123, -1))
    (hn : ¬ ((sg, man, ex, bc) : M) = mNan) (hn' : ¬ ((sg', man', ex', bc') : M) = mNan) :
    wpAny (model PySem.Challenge.pw_ah5007_01 w) A (call (.ref 181) [.ref a, .ref b]) (Back s fun v _ => v = .bool true) E s := by
  refine enterN (Ns181 w) [(Str.ofString "s", .ref a), (Str.ofString "t", .ref b)]
    W r (by decide) (by k_is) (by k_is) (BindsTo.of_eq (by rfl)) (by kernel_rfl!) (by walk_at "m names") ?_ rfl rfl rfl (by decide)
  intro cs L h tk0 Nn F
  obtain ⟨i1, i2, i3, i4, g1, g2, g3, g4, g5, g6, g7⟩ := Nn
  obtain ⟨KX, mean, mg, mb, T⟩ := W
  have N : News s.heap L h [] := News.nil
  walk_at "m begin"
  exact ⟨_, _, rfl, Fr.keep (by assumption), by dsimp only; rw [beq_self_eq_true]⟩
theorem pair_spec {w : World} {A : Around} {E : Value → Shared → Prop} {s : Shared} (W : Rdy w s.heap) (r : Le A 33) {a b : Addr} {sg man ex bc sg' man' ex' bc' : Int} {t1 t2 t3 t4 u1 u2 u3 u4 : Tok}
    (ha : IsTup s.heap a #[.int sg t1, .int man t2, .int ex t3, .int bc t4]) (hb : IsTup s.heap b #[.int sg' u1, .int man' u2, .int ex' u3, .int bc' u4])
    (hx : NumM (sg, man, ex, bc) ∨ ((sg, man, ex, bc) : M) = (0, 0, -123, -1)) (hy : NumM (sg', man', ex', bc') ∨ ((sg', man', ex', bc') : M) = (0, 0, -123, -1)) :
    wpAny (model PySem.Challenge.pw_ah5007_01 w) A (call (.ref 181) [.ref a, .ref b]) (Back s fun v _ => v = .bool true) E s := by
  by_cases n : ((sg, man, ex, bc) : M) = mNan ∨ ((sg', man', ex', bc') : M) = mNan
  · exact pair_nan W r ha hb hx hy n
  · exact pair_num W r ha hb hx hy (fun q => n (.inl q)) fun q => n (.inr q)
end PartS13
local macro_rules | `(tactic| walk_at "m pad") => `(tactic| skip)
local macro_rules | `(tactic| walk_at "m pad") => `(tactic| skip)
local macro_rules | `(tactic| walk_at "m pad") => `(tactic| skip)
local macro_rules | `(tactic| walk_at "m pad") => `(tactic| skip)
local macro_rules | `(tactic| walk_at "m pad") => `(tactic| skip)
local macro_rules | `(tactic| walk_at "m pad") => `(tactic| skip)
section PartS14
open Builtin.Int (intBits)
theorem ifp {α : Type} {P : Prop} [Decidable P] {v : α} {a b : α} (h : v = if P then a else b) (p : P) : v = a := h.trans (if_pos p)
theorem ifn {α : Type} {P : Prop} [Decidable P] {v : α} {a b : α} (h : v = if P then a else b) (p : ¬ P) : v = b := h.trans (if_neg p)
local macro_rules | `(tactic| walk_at "m got") => `(tactic| exact News.got (by with_reducible assumption) (by k_mem))
local macro_rules | `(tactic| walk_at "m ref") => `(tactic| ((walk_at "m use"); (case mhc => first
  | exact neg_sp (prec := 0) (rnd := Str.ofString "") (t5 := 0) (t6 := 0) (by walk_at "m rdy") (by walk_at "m le") (by walk_at "m tup") (.inl rfl)
  | exact neg_sp (by walk_at "m rdy") (by walk_at "m le") (by walk_at "m tup") (.inr rfl)
  | exact abs_sp (by walk_at "m rdy") (by walk_at "m le") (by walk_at "m tup") (by decide)); (intro v' h' tk' F' N' k' hR'); (first | (have hv' := ifp hR' (by decide); subst hv') | (have hv' := ifp (ifn hR' (by decide)) (by decide); subst hv') | (have hv' := ifn (ifn hR' (by decide)) (by decide); subst hv') | (have hv' := ifn hR' (by decide); subst hv')); (clear k' hR'); (try k_sweep)))
local macro_rules | `(tactic| walk_at "call ref") => `(tactic| (k_here; first
  | ((with_reducible show wpAny _ _ (call (Value.ref 167) _ _) _ _ _); (rename Fr _ _ _ _ => mF'); (rename News _ _ _ _ => mN'); (refine' useO mF' mN' ?mhc ?_); (case mhc => exact others_spec (by walk_at "m rdy") (by walk_at "m le")); (intro l' a' b' c' p1' p2' p3' p4' p5' p6' p7' p8' p9' q1' q2' q3' h' tk' F' N'); (try k_sweep))
  | ((with_reducible show wpAny _ _ (call (Value.ref 116) _ _) _ _ _); (walk_at "m use"); (case mhc => (refine sign_spec (by walk_at "m rdy") (by walk_at "m le") (by walk_at "m tup") ?_ ?_ <;> first | assumption | omega)); (intro v' h' tk' F' N' k' hR'); (obtain ⟨tt', hv'⟩ := hR'); (subst hv'); (clear k'); (try k_sweep))
  | walk_at "m ref"))
local macro_rules | `(tactic| walk_at "compareOp In ref ref") => `(tactic| (k_here; (with_reducible show wpAny _ _ (compareOp CmpOp.In (Value.ref _) (Value.ref _)) _ _ _); k_dflt (refine' in3 (r := true) ?kl ?ka ?kb ?kc ?kx ?ku ?kr ?_; (case kl => walk_at "m got"); (case ka => walk_at "m tup"); (case kb => walk_at "m tup"); (case kc => walk_at "m tup"); (case kx => walk_at "m tup"); (case ku => walk_at "m units"); (case kr => walk_at "m in"))))
local macro_rules | `(tactic| walk_at "m in") => `(tactic| decide)
local macro_rules | `(tactic| walk_at "eval Dict") => `(tactic| (k_here; k_dflt (refine' Dict_made ?F ?N ?a ?b ?c ?d ?_; (case F => with_reducible assumption); (case N => with_reducible assumption); (case a => rfl); (case b => rfl); (case c => exact List.cons_ne_nil _ _); (case d => exact Nat.le_of_ble_eq_true rfl)); (intro d' h' o' F' N' hd'); (try k_sweep)))
local macro_rules | `(tactic| walk_at "TupStores") => `(tactic| (k_here; k_dflt (refine' stores3i ?F ?N ?hd ?hu ?hc ?h1 ?h2 ?h3 ?n1 ?n2 ?n3 ?_; (case F => with_reducible assumption); (case N => with_reducible assumption); (case hd => with_reducible assumption); (case hu => walk_at "m units"); (case hc => rfl); (case h1 => walk_at "m tup"); (case h2 => walk_at "m tup"); (case h3 => walk_at "m tup"); (case n1 => decide); (case n2 => decide); (case n3 => decide)); (intro h' tk' F' N' hD'); (try k_sweep)))
local macro_rules | `(tactic| walk_at "subscriptTail") => `(tactic| (k_here; (with_reducible show wpAny _ _ (subscriptTail _ _ (Value.ref _) (Value.ref _)) _ _ _); k_dflt (refine' item3i ?D ?ha ?hu ?hp ?_; (case D => with_reducible assumption); (case ha => walk_at "m tup"); (case hu => walk_at "m units"); (case hp => rfl)); (intro tk')))
local macro_rules | `(tactic| walk_at "compareOp Eq ref ref") => `(tactic| (k_here; (with_reducible show wpAny _ _ (compareOp CmpOp.Eq (Value.ref _) (Value.ref _)) _ _ _); k_dflt (refine' eq_tup3 ?ka ?kp ?kq ?kb ?kr ?ks ?ku ?e1 ?e2 ?e3 ?_; (case ka => walk_at "m tup"); (case kp => walk_at "m tup"); (case kq => walk_at "m tup"); (case kb => walk_at "m tup"); (case kr => walk_at "m tup"); (case ks => walk_at "m tup"); (case ku => walk_at "m units"); (case e1 => rfl); (case e2 => rfl); (case e3 => rfl))))
theorem one_inf {w : World} {A : Around} {E : Value → Shared → Prop} {s : Shared} (W : Rdy w s.heap) (r : Le A 33) {a : Addr} {prec : Int} {rnd : Str} {t1 t2 t3 t4 t5 t6 : Tok}
    (ha : IsTup s.heap a #[.int 0 t1, .int 0 t2, .int (-456) t3, .int (-2) t4]) (hp : 1 ≤ prec) (hp' : prec ≤ 60) (hr : Rnds rnd) :
    wpAny (model PySem.Challenge.pw_ah5007_01 w) A (call (.ref 188) [.ref a, .int prec t5, .str rnd t6]) (Back s fun v _ => v = .bool true) E s := by
  refine enterN (Ns188 w) [(Str.ofString "s", .ref a), (Str.ofString "prec", .int prec t5), (Str.ofString "rnd", .str rnd t6)]
    W r (by decide) (by k_is) (by k_is) (BindsTo.of_eq (by rfl)) (by kernel_rfl!) (by walk_at "m names") ?_ rfl rfl rfl (by decide)
  intro cs L h tk0 Nn F
  obtain ⟨i1, i2, i3, i4, i5, i6, i7, i8, i9, i10, g1, g2, g3, g4, g5, g6, g7⟩ := Nn
  obtain ⟨KX, mean, mg, mb, T⟩ := W
  have N : News s.heap L h [] := News.nil
  walk_at "m begin"
  exact ⟨_, _, rfl, Fr.keep (by assumption), rfl⟩
theorem one_ninf {w : World} {A : Around} {E : Value → Shared → Prop} {s : Shared} (W : Rdy w s.heap) (r : Le A 33) {a : Addr} {prec : Int} {rnd : Str} {t1 t2 t3 t4 t5 t6 : Tok}
    (ha : IsTup s.heap a #[.int 1 t1, .int 0 t2, .int (-789) t3, .int (-3) t4]) (hp : 1 ≤ prec) (hp' : prec ≤ 60) (hr : Rnds rnd) :
    wpAny (model PySem.Challenge.pw_ah5007_01 w) A (call (.ref 188) [.ref a, .int prec t5, .str rnd t6]) (Back s fun v _ => v = .bool true) E s := by
  refine enterN (Ns188 w) [(Str.ofString "s", .ref a), (Str.ofString "prec", .int prec t5), (Str.ofString "rnd", .str rnd t6)]
    W r (by decide) (by k_is) (by k_is) (BindsTo.of_eq (by rfl)) (by kernel_rfl!) (by walk_at "m names") ?_ rfl rfl rfl (by decide)
  intro cs L h tk0 Nn F
  obtain ⟨i1, i2, i3, i4, i5, i6, i7, i8, i9, i10, g1, g2, g3, g4, g5, g6, g7⟩ := Nn
  obtain ⟨KX, mean, mg, mb, T⟩ := W
  have N : News s.heap L h [] := News.nil
  walk_at "m begin"
  exact ⟨_, _, rfl, Fr.keep (by assumption), rfl⟩
theorem one_nan {w : World} {A : Around} {E : Value → Shared → Prop} {s : Shared} (W : Rdy w s.heap) (r : Le A 33) {a : Addr} {prec : Int} {rnd : Str} {t1 t2 t3 t4 t5 t6 : Tok}
    (ha : IsTup s.heap a #[.int 0 t1, .int 0 t2, .int (-123) t3, .int (-1) t4]) (hp : 1 ≤ prec) (hp' : prec ≤ 60) (hr : Rnds rnd) :
    wpAny (model PySem.Challenge.pw_ah5007_01 w) A (call (.ref 188) [.ref a, .int prec t5, .str rnd t6]) (Back s fun v _ => v = .bool true) E s := by
  refine enterN (Ns188 w) [(Str.ofString "s", .ref a), (Str.ofString "prec", .int prec t5), (Str.ofString "rnd", .str rnd t6)]
    W r (by decide) (by k_is) (by k_is) (BindsTo.of_eq (by rfl)) (by kernel_rfl!) (by walk_at "m names") ?_ rfl rfl rfl (by decide)
  intro cs L h tk0 Nn F
  obtain ⟨i1, i2, i3, i4, i5, i6, i7, i8, i9, i10, g1, g2, g3, g4, g5, g6, g7⟩ := Nn
  obtain ⟨KX, mean, mg, mb, T⟩ := W
  have N : News s.heap L h [] := News.nil
  walk_at "m begin"
  exact ⟨_, _, rfl, Fr.keep (by assumption), rfl⟩
end PartS14
local macro_rules | `(tactic| walk_at "m pad") => `(tactic| skip)
local macro_rules | `(tactic| walk_at "m pad") => `(tactic| skip)
local macro_rules | `(tactic| walk_at "m pad") => `(tactic| skip)
local macro_rules | `(tactic| walk_at "m pad") => `(tactic| skip)
local macro_rules | `(tactic| walk_at "m pad") => `(tactic| skip)
local macro_rules | `(tactic| walk_at "m pad") => `(tactic| skip)
local macro_rules | `(tactic| walk_at "m pad") => `(tactic| skip)
local macro_rules | `(tactic| walk_at "m pad") => `(tactic| skip)
local macro_rules | `(tactic| walk_at "m pad") => `(tactic| skip)
local macro_rules | `(tactic| walk_at "m pad") => `(tactic| skip)
section PartS17
open Builtin.Int (intBits)
theorem wA_eq (x : M) : wA x = sm x * 2 ^ x.2.2.1.toNat := by
  unfold wA
  split
  · rfl
  · rw [show x.2.2.1.toNat = 0 by omega, Int.pow_zero, Int.mul_one]
theorem wB_eq (x : M) : wB x = 2 ^ (-x.2.2.1).toNat := by
  unfold wB
  split
  · rw [show (-x.2.2.1).toNat = 0 by omega, Int.pow_zero]
  · rfl
theorem nz_flip {sg man ex bc : Int} (sg' : Int) (h : NzM (sg, man, ex, bc)) (h' : sg' = 0 ∨ sg' = 1) : NzM (sg', man, ex, bc) := ⟨h', h.pos, h.odd, h.bc, h.few, h.lo, h.hi⟩
section
variable {w : World} {A : Around} {E : Value → Shared → Prop} {s : Shared} {a : Addr} {man ex bc S B : Int} {t1 t2 t3 t4 : Tok}
theorem worth_p (W : Rdy w s.heap) (r : Le A 40) (ha : IsTup s.heap a #[.int 0 t1, .int man t2, .int ex t3, .int bc t4]) (hx : NzM (0, man, ex, bc)) (hS : S = man * 2 ^ ex.toNat) (hB : B = 2 ^ (-ex).toNat) :
    wpAny (model PySem.Challenge.pw_ah5007_01 w) A (call (.ref 153) [.ref a]) (Back s (Fresh2 s.heap S B)) E s := by
  have h := worth_fin (E := E) W r ha (.inr hx)
  rw [wA_eq, wB_eq] at h
  rw [hS, hB]; exact h
theorem worth_n (W : Rdy w s.heap) (r : Le A 40) (ha : IsTup s.heap a #[.int 1 t1, .int man t2, .int ex t3, .int bc t4]) (hx : NzM (1, man, ex, bc)) (hS : S = man * 2 ^ ex.toNat) (hB : B = 2 ^ (-ex).toNat) :
    wpAny (model PySem.Challenge.pw_ah5007_01 w) A (call (.ref 153) [.ref a]) (Back s (Fresh2 s.heap (-S) B)) E s := by
  have h := worth_fin (E := E) W r ha (.inr hx)
  rw [wA_eq, wB_eq] at h
  have e : sm (1, man, ex, bc) * 2 ^ ((1, man, ex, bc) : M).2.2.1.toNat = -S := by rw [hS, ← Int.neg_mul]; rfl
  rw [e] at h
  rw [hB]; exact h
theorem worth_z (W : Rdy w s.heap) (r : Le A 40) (ha : IsTup s.heap a #[.int 0 t1, .int 0 t2, .int 0 t3, .int 0 t4]) :
    wpAny (model PySem.Challenge.pw_ah5007_01 w) A (call (.ref 153) [.ref a]) (Back s (Fresh2 s.heap 0 1)) E s :=
  worth_fin (E := E) W r ha (.inl rfl)
variable {above prec : Int} {rnd : Str}
theorem zneg_a (W : Rdy w s.heap) (r : Le A 50) (ha : IsTup s.heap a #[.int 0 t1, .int 0 t2, .int 0 t3, .int 0 t4]) :
    wpAny (model PySem.Challenge.pw_ah5007_01 w) A (call (.ref 101) [.ref a]) (Back s fun v _ => v = .ref a) E s :=
  neg_sp (prec := 0) (rnd := Str.ofString "") (t5 := 0) (t6 := 0) W r ha (.inl rfl)
theorem zneg_b {t5 t6 : Tok} (W : Rdy w s.heap) (r : Le A 50) (ha : IsTup s.heap a #[.int 0 t1, .int 0 t2, .int 0 t3, .int 0 t4]) :
    wpAny (model PySem.Challenge.pw_ah5007_01 w) A (call (.ref 101) [.ref a, .int prec t5, .str rnd t6]) (Back s fun v _ => v = .ref a) E s :=
  neg_sp W r ha (.inr rfl)
theorem rnd_p {sg : Int} (W : Rdy w s.heap) (r : Le A 40) (hx : NzM (sg, man, ex, bc)) (hS : S = man * 2 ^ ex.toNat) (hB : B = 2 ^ (-ex).toNat) (ha : above = S) (hp : 1 ≤ prec) (hp' : prec ≤ 300) (hr : Rnds rnd) :
    wpAny (model PySem.Challenge.pw_ah5007_01 w) A (call (.ref 160) [.int above t1, .int B t2, .int prec t3, .str rnd t4]) (Back s (FreshM s.heap (mk 0 (rq rnd 0 man (bc - prec).toNat) (ex + (bc - prec).toNat)))) E s :=
  rounded_spec W r (nz_flip 0 hx (.inl rfl)) (.inl ⟨rfl, ha.trans hS⟩) hB hp hp' hr
theorem rnd_n {sg : Int} (W : Rdy w s.heap) (r : Le A 40) (hx : NzM (sg, man, ex, bc)) (hS : S = man * 2 ^ ex.toNat) (hB : B = 2 ^ (-ex).toNat) (ha : above = -S) (hp : 1 ≤ prec) (hp' : prec ≤ 300) (hr : Rnds rnd) :
    wpAny (model PySem.Challenge.pw_ah5007_01 w) A (call (.ref 160) [.int above t1, .int B t2, .int prec t3, .str rnd t4]) (Back s (FreshM s.heap (mk 1 (rq rnd 1 man (bc - prec).toNat) (ex + (bc - prec).toNat)))) E s :=
  rounded_spec W r (nz_flip 1 hx (.inr rfl)) (.inr ⟨rfl, by rw [ha, hS]⟩) hB hp hp' hr
theorem mk_300 {sg sg' : Int} (hx : NzM (sg', man, ex, bc)) : mk sg (rq (Str.ofString "n") sg man (bc - 300).toNat) (ex + ((bc - 300).toNat : Int)) = (sg, man, ex, bc) := by
  have hf := hx.few
  have hb := hx.bc
  have ho := hx.odd
  dsimp only at hf hb ho
  have e : (bc - 300).toNat = 0 := by omega
  rw [e, rq_zero, mk_odd ho, ← hb]
  simp
theorem rnd_p300 {sg : Int} (W : Rdy w s.heap) (r : Le A 40) (hx : NzM (sg, man, ex, bc)) (hS : S = man * 2 ^ ex.toNat) (hB : B = 2 ^ (-ex).toNat) (ha : above = S) :
    wpAny (model PySem.Challenge.pw_ah5007_01 w) A (call (.ref 160) [.int above t1, .int B t2, .int 300 t3, .str (Str.ofString "n") t4]) (Back s (FreshM s.heap (0, man, ex, bc))) E s := by
  have h := rnd_p (E := E) (prec := 300) (rnd := Str.ofString "n") (t1 := t1) (t2 := t2) (t3 := t3) (t4 := t4) W r hx hS hB ha (by decide) (by decide) (.inl rfl)
  rw [mk_300 hx] at h; exact h
theorem rnd_n300 {sg : Int} (W : Rdy w s.heap) (r : Le A 40) (hx : NzM (sg, man, ex, bc)) (hS : S = man * 2 ^ ex.toNat) (hB : B = 2 ^ (-ex).toNat) (ha : above = -S) :
    wpAny (model PySem.Challenge.pw_ah5007_01 w) A (call (.ref 160) [.int above t1, .int B t2, .int 300 t3, .str (Str.ofString "n") t4]) (Back s (FreshM s.heap (1, man, ex, bc))) E s := by
  have h := rnd_n (E := E) (prec := 300) (rnd := Str.ofString "n") (t1 := t1) (t2 := t2) (t3 := t3) (t4 := t4) W r hx hS hB ha (by decide) (by decide) (.inl rfl)
  rw [mk_300 hx] at h; exact h
theorem rnd_z (W : Rdy w s.heap) (r : Le A 40) (ha : above = 0) :
    wpAny (model PySem.Challenge.pw_ah5007_01 w) A (call (.ref 160) [.int above t1, .int B t2, .int prec t3, .str rnd t4]) (Back s (FreshM s.heap mZ)) E s := by
  subst ha; exact rounded_zero W r
variable {Q : Value → Shared → Prop} {h : Heap} {g : Array GenState} {d : Drawn} {tk : Nat} {o : OsState} {t : Tok} {prog : Program}
theorem abs_p {a : Int} (n : ¬ a < 0) (q : ∀ u tk, Q (.int a u) ⟨h, g, d, tk, o⟩) : wpAny (model prog w) A (call (.builtin "abs") [.int a t]) Q E ⟨h, g, d, tk, o⟩ :=
  call_abs_int (s := ⟨h, g, d, tk, o⟩) fun u tk => by rw [if_neg n]; exact q u tk
theorem abs_n {a : Int} (n : a < 0) (q : ∀ u tk, Q (.int (-a) u) ⟨h, g, d, tk, o⟩) : wpAny (model prog w) A (call (.builtin "abs") [.int a t]) Q E ⟨h, g, d, tk, o⟩ :=
  call_abs_int (s := ⟨h, g, d, tk, o⟩) fun u tk => by rw [if_pos n]; exact q u tk
end
theorem ite_nd {P A B : Prop} [Decidable P] (h : P) (b : B) : if (!decide P) = true then A else B := by rw [if_neg (by simpa using h)]; exact b
local macro_rules | `(tactic| walk_at "ite") => `(tactic| (k_here; first
  | with_reducible refine ite_nd rfl ?_
  | with_reducible refine ite_dp rfl ?_))
local macro_rules | `(tactic| walk_at "m got") => `(tactic| exact News.got (by with_reducible assumption) (by k_mem))
local macro_rules | `(tactic| walk_at "m mF") => `(tactic| ((walk_at "m useF"); (case mhc => first
  | exact neg_nz (by walk_at "m rdy") (by walk_at "m le") (by walk_at "m tup") (by assumption)
  | exact abs_nz (by walk_at "m rdy") (by walk_at "m le") (by walk_at "m tup") (by assumption)
  | exact rnd_p300 (by walk_at "m rdy") (by walk_at "m le") (by assumption) (by assumption) (by assumption) (by omega)
  | exact rnd_n300 (by walk_at "m rdy") (by walk_at "m le") (by assumption) (by assumption) (by assumption) (by omega)
  | exact rnd_z (by walk_at "m rdy") (by walk_at "m le") (by omega)
  | exact neg_nzp (by walk_at "m rdy") (by walk_at "m le") (by walk_at "m tup") (by assumption) (by assumption) (by assumption)
  | exact abs_nzp (by walk_at "m rdy") (by walk_at "m le") (by walk_at "m tup") (by assumption) (by assumption) (by assumption)
  | exact rnd_p (by walk_at "m rdy") (by walk_at "m le") (by assumption) (by assumption) (by assumption) (by omega) (by assumption) (by omega) (by assumption)
  | exact rnd_n (by walk_at "m rdy") (by walk_at "m le") (by assumption) (by assumption) (by assumption) (by omega) (by assumption) (by omega) (by assumption)); (intro D' t1' t2' t3' t4' h' tk' F' N'); (try k_sweep)))
local macro_rules | `(tactic| walk_at "m ref") => `(tactic| ((walk_at "m use"); (case mhc => first
  | exact abs_pos (by walk_at "m rdy") (by walk_at "m le") (by walk_at "m tup") (by first | assumption | exact Or.inr (by assumption))
  | exact zneg_a (by walk_at "m rdy") (by walk_at "m le") (by walk_at "m tup")
  | exact zneg_b (by walk_at "m rdy") (by walk_at "m le") (by walk_at "m tup")
  | exact abs_zp (by walk_at "m rdy") (by walk_at "m le") (by walk_at "m tup") (by assumption)); (intro v' h' tk' F' N' k' hR'); (have hv' := hR'); (subst hv'); (clear k' hR'); (try k_sweep)))
local macro_rules | `(tactic| walk_at "call ref") => `(tactic| (k_here; first
  | ((with_reducible show wpAny _ _ (call (Value.ref 167) _ _) _ _ _); (rename Fr _ _ _ _ => mF'); (rename News _ _ _ _ => mN'); (refine' useO mF' mN' ?mhc ?_); (case mhc => exact others_spec (by walk_at "m rdy") (by walk_at "m le")); (intro l' a' b' c' p1' p2' p3' p4' p5' p6' p7' p8' p9' q1' q2' q3' h' tk' F' N'); (try k_sweep))
  | ((with_reducible show wpAny _ _ (call (Value.ref 116) _ _) _ _ _); (walk_at "m use"); (case mhc => (refine sign_spec (by walk_at "m rdy") (by walk_at "m le") (by walk_at "m tup") ?_ ?_ <;> first | assumption | omega)); (intro v' h' tk' F' N' k' hR'); (obtain ⟨tt', hv'⟩ := hR'); (subst hv'); (clear k'); (try k_sweep))
  | ((with_reducible show wpAny _ _ (call (Value.ref 153) _ _) _ _ _); (rename Fr _ _ _ _ => mF'); (rename News _ _ _ _ => mN'); (refine' use2 mF' mN' ?mhc ?_); (case mhc => first
      | exact worth_p (by walk_at "m rdy") (by walk_at "m le") (by walk_at "m tup") (by assumption) (by assumption) (by assumption)
      | exact worth_n (by walk_at "m rdy") (by walk_at "m le") (by walk_at "m tup") (by assumption) (by assumption) (by assumption)
      | exact worth_z (by walk_at "m rdy") (by walk_at "m le") (by walk_at "m tup")); (intro D' t1' t2' h' tk' F' N'); (try k_sweep))
  | walk_at "m mF"
  | walk_at "m ref"))
local macro_rules | `(tactic| walk_at "compareOp In ref ref") => `(tactic| (k_here; (with_reducible show wpAny _ _ (compareOp CmpOp.In (Value.ref _) (Value.ref _)) _ _ _); k_dflt (refine' in3 (r := false) ?kl ?ka ?kb ?kc ?kx ?ku ?kr ?_; (case kl => walk_at "m got"); (case ka => walk_at "m tup"); (case kb => walk_at "m tup"); (case kc => walk_at "m tup"); (case kx => walk_at "m tup"); (case ku => walk_at "m units"); (case kr => first | assumption | decide))))
local macro_rules | `(tactic| walk_at "call builtin:abs") => `(tactic| (k_here; first
  | (refine' abs_p ?kn ?_; (case kn => first | assumption | decide); (intro u' tk'))
  | (refine' abs_n ?kn ?_; (case kn => assumption); (intro u' tk'))))
theorem one_p {w : World} {A : Around} {E : Value → Shared → Prop} {s : Shared} (W : Rdy w s.heap) (r : Le A 33) {a : Addr} {man ex bc prec : Int} {rnd : Str} {t1 t2 t3 t4 t5 t6 : Tok}
    (ha : IsTup s.heap a #[.int 0 t1, .int man t2, .int ex t3, .int bc t4]) (hx : NzM (0, man, ex, bc)) (hp : 1 ≤ prec) (hp' : prec ≤ 60) (hr : Rnds rnd) :
    wpAny (model PySem.Challenge.pw_ah5007_01 w) A (call (.ref 188) [.ref a, .int prec t5, .str rnd t6]) (Back s fun v _ => v = .bool true) E s := by
  have hn := nz_ne hx
  have hin : (decide (((0, man, ex, bc) : M) = (0, 0, -456, -2)) || (decide (((0, man, ex, bc) : M) = (1, 0, -789, -3)) || decide (((0, man, ex, bc) : M) = (0, 0, -123, -1)))) = false := by
    rw [decide_eq_false hn.2.1, decide_eq_false hn.2.2.1, decide_eq_false hn.2.2.2.1]; rfl
  clear hn
  have hsig : signF (0, man, ex, bc) = 1 := sign_nz hx
  obtain ⟨S, hS⟩ : ∃ S, S = man * 2 ^ ex.toNat := ⟨_, rfl⟩
  obtain ⟨B, hB⟩ : ∃ B : Int, B = 2 ^ (-ex).toNat := ⟨_, rfl⟩
  have S0 : 0 < S := by rw [hS]; exact Int.mul_pos hx.pos (p2pos _)
  have S1 : S ≠ 0 := by omega
  have S2 : ¬ S < 0 := by omega
  refine enterN (Ns188 w) [(Str.ofString "s", .ref a), (Str.ofString "prec", .int prec t5), (Str.ofString "rnd", .str rnd t6)]
    W r (by decide) (by k_is) (by k_is) (BindsTo.of_eq (by rfl)) (by kernel_rfl!) (by walk_at "m names") ?_ rfl rfl rfl (by decide)
  intro cs L h tk0 Nn F
  obtain ⟨i1, i2, i3, i4, i5, i6, i7, i8, i9, i10, g1, g2, g3, g4, g5, g6, g7⟩ := Nn
  obtain ⟨KX, mean, mg, mb, T⟩ := W
  have N : News s.heap L h [] := News.nil
  walk_at "m begin"
  exact ⟨_, _, rfl, Fr.keep (by assumption), by dsimp only; exact congrArg _ (decide_eq_true rfl)⟩
theorem one_n {w : World} {A : Around} {E : Value → Shared → Prop} {s : Shared} (W : Rdy w s.heap) (r : Le A 33) {a : Addr} {man ex bc prec : Int} {rnd : Str} {t1 t2 t3 t4 t5 t6 : Tok}
    (ha : IsTup s.heap a #[.int 1 t1, .int man t2, .int ex t3, .int bc t4]) (hx : NzM (1, man, ex, bc)) (hp : 1 ≤ prec) (hp' : prec ≤ 60) (hr : Rnds rnd) :
    wpAny (model PySem.Challenge.pw_ah5007_01 w) A (call (.ref 188) [.ref a, .int prec t5, .str rnd t6]) (Back s fun v _ => v = .bool true) E s := by
  have hn := nz_ne hx
  have hin : (decide (((1, man, ex, bc) : M) = (0, 0, -456, -2)) || (decide (((1, man, ex, bc) : M) = (1, 0, -789, -3)) || decide (((1, man, ex, bc) : M) = (0, 0, -123, -1)))) = false := by
    rw [decide_eq_false hn.2.1, decide_eq_false hn.2.2.1, decide_eq_false hn.2.2.2.1]; rfl
  clear hn
  have hsig : signF (1, man, ex, bc) = -1 := sign_nz hx
  obtain ⟨S, hS⟩ : ∃ S, S = man * 2 ^ ex.toNat := ⟨_, rfl⟩
  obtain ⟨B, hB⟩ : ∃ B : Int, B = 2 ^ (-ex).toNat := ⟨_, rfl⟩
  have S0 : 0 < S := by rw [hS]; exact Int.mul_pos hx.pos (p2pos _)
  have S1 : -S ≠ 0 := by omega
  have S2 : -S < 0 := by omega
  have S3 : ¬ 0 < -S := by omega
  refine enterN (Ns188 w) [(Str.ofString "s", .ref a), (Str.ofString "prec", .int prec t5), (Str.ofString "rnd", .str rnd t6)]
    W r (by decide) (by k_is) (by k_is) (BindsTo.of_eq (by rfl)) (by kernel_rfl!) (by walk_at "m names") ?_ rfl rfl rfl (by decide)
  intro cs L h tk0 Nn F
  obtain ⟨i1, i2, i3, i4, i5, i6, i7, i8, i9, i10, g1, g2, g3, g4, g5, g6, g7⟩ := Nn
  obtain ⟨KX, mean, mg, mb, T⟩ := W
  have N : News s.heap L h [] := News.nil
  walk_at "m begin"
  exact ⟨_, _, rfl, Fr.keep (by assumption), by dsimp only; exact congrArg _ (decide_eq_true rfl)⟩
theorem one_z {w : World} {A : Around} {E : Value → Shared → Prop} {s : Shared} (W : Rdy w s.heap) (r : Le A 33) {a : Addr} {prec : Int} {rnd : Str} {t1 t2 t3 t4 t5 t6 : Tok}
    (ha : IsTup s.heap a #[.int 0 t1, .int 0 t2, .int 0 t3, .int 0 t4]) (hp : 1 ≤ prec) (hp' : prec ≤ 60) (hr : Rnds rnd) :
    wpAny (model PySem.Challenge.pw_ah5007_01 w) A (call (.ref 188) [.ref a, .int prec t5, .str rnd t6]) (Back s fun v _ => v = .bool true) E s := by
  have hx : FinM (0, 0, 0, 0) := .inl rfl
  have hsig : signF (0, 0, 0, 0) = 0 := rfl
  refine enterN (Ns188 w) [(Str.ofString "s", .ref a), (Str.ofString "prec", .int prec t5), (Str.ofString "rnd", .str rnd t6)]
    W r (by decide) (by k_is) (by k_is) (BindsTo.of_eq (by rfl)) (by kernel_rfl!) (by walk_at "m names") ?_ rfl rfl rfl (by decide)
  intro cs L h tk0 Nn F
  obtain ⟨i1, i2, i3, i4, i5, i6, i7, i8, i9, i10, g1, g2, g3, g4, g5, g6, g7⟩ := Nn
  obtain ⟨KX, mean, mg, mb, T⟩ := W
  have N : News s.heap L h [] := News.nil
  walk_at "m begin"
  exact ⟨_, _, rfl, Fr.keep (by assumption), by dsimp only; exact congrArg _ (decide_eq_true rfl)⟩
end PartS17
local macro_rules | `(tactic| walk_at "m pad") => `(tactic| skip)
local macro_rules | `(tactic| walk_at "m pad") => `(tactic| skip)
local macro_rules | `(tactic| walk_at "m pad") => `(tactic| skip)
local macro_rules | `(tactic| walk_at "m pad") => `(tactic| skip)
local macro_rules | `(tactic| walk_at "m pad") => `(tactic| skip)
local macro_rules | `(tactic| walk_at "m pad") => `(tactic| skip)
local macro_rules | `(tactic| walk_at "m pad") => `(tactic| skip)
local macro_rules | `(tactic| walk_at "m pad") => `(tactic| skip)
section PartS15
open Builtin.Int (intBits)
def TupAt (h : Heap) (a : Addr) (x : M) : Prop := ∃ t1 t2 t3 t4, IsTup h a #[.int x.1 t1, .int x.2.1 t2, .int x.2.2.1 t3, .int x.2.2.2 t4]
/-- the same, with what else is said of it -/
def TupG (G : Addr → M → Prop) (h : Heap) (a : Addr) (x : M) : Prop := TupAt h a x ∧ G a x
def Tups (G : Addr → M → Prop) (h : Heap) (vs : List Value) (xs : List M) : Prop := vs.length = xs.length ∧ ∀ (i : Nat) (v : Value) (x : M), vs[i]? = some v → xs[i]? = some x → ∃ a : Addr, v = Value.ref a ∧ TupG G h a x
theorem Tups.at {G : Addr → M → Prop} {h : Heap} {vs : List Value} {xs : List M} (t : Tups G h vs xs) {i : Nat} {v : Value} (hv : vs[i]? = some v) : ∃ a x, v = .ref a ∧ xs[i]? = some x ∧ TupG G h a x := by
  have hi : i < xs.length := by rw [← t.1]; exact (List.getElem?_eq_some_iff.mp hv).1
  obtain ⟨a, e, ta⟩ := t.2 i v xs[i] hv (List.getElem?_eq_getElem hi)
  exact ⟨a, xs[i], e, List.getElem?_eq_getElem hi, ta⟩
noncomputable def mnF (m y : M) : M := if ordF y m < 0 then y else m
noncomputable def mxF (m y : M) : M := if ordF y m > 0 then y else m
theorem fold_num {f : M → M → M} (hf : ∀ m y, NumM m → NumM y → NumM (f m y)) : ∀ {xs : List M} {x : M}, NumM x → (∀ y ∈ xs, NumM y) → NumM (xs.foldl f x)
  | [], _, h, _ => h
  | y :: r, _, h, hr => by
    rw [List.foldl_cons]
    exact fold_num hf (hf _ y h (hr y (List.mem_cons_self ..))) fun z hz => hr z (List.mem_cons_of_mem _ hz)
theorem mn_t {m y : M} (h : y ≠ mNan ∧ m ≠ mNan ∧ ordF y m < 0) : mnF m y = y := if_pos h.2.2
theorem mn_f {m y : M} (hm : NumM m) (hy : NumM y) (h : ¬ (y ≠ mNan ∧ m ≠ mNan ∧ ordF y m < 0)) : mnF m y = m := if_neg fun q => h ⟨num_nan hy, num_nan hm, q⟩
theorem mx_t {m y : M} (h : y ≠ mNan ∧ m ≠ mNan ∧ ordF y m > 0) : mxF m y = y := if_pos h.2.2
theorem mx_f {m y : M} (hm : NumM m) (hy : NumM y) (h : ¬ (y ≠ mNan ∧ m ≠ mNan ∧ ordF y m > 0)) : mxF m y = m := if_neg fun q => h ⟨num_nan hy, num_nan hm, q⟩
theorem mn_num {m y : M} (h : NumM m) (h' : NumM y) : NumM (mnF m y) := by unfold mnF; split <;> assumption
theorem mx_num {m y : M} (h : NumM m) (h' : NumM y) : NumM (mxF m y) := by unfold mxF; split <;> assumption
theorem fold_take {f : M → M → M} {xs : List M} {x y : M} {i : Nat} (h : xs[i]? = some y) : (xs.take (i + 1)).foldl f x = f ((xs.take i).foldl f x) y := by
  rw [List.take_add_one, h, List.foldl_append]; rfl
local macro_rules | `(tactic| walk_at "call ref") => `(tactic| (k_here; ((walk_at "m use"); (case mhc => first
  | exact lt_spec (by walk_at "m rdy") (by walk_at "m le") (by walk_at "m tup") (by walk_at "m tup") (by assumption) (by assumption)
  | exact gt_spec (by walk_at "m rdy") (by walk_at "m le") (by walk_at "m tup") (by walk_at "m tup") (by assumption) (by assumption)); (intro v' h' tk' F' N' k' hR'); (subst hR'); (clear k'); (try k_sweep))))
local macro_rules | `(tactic| walk_at "m turn") => `(tactic| exact TurnT.intro (by assumption) (by assumption) (fun p hp => hp) (by assumption))
theorem minmax_spec {w : World} {A : Around} {E : Value → Shared → Prop} {s : Shared} (W : Rdy w s.heap) (r : Le A 33) {G : Addr → M → Prop} {l a0 : Addr} {vs : List Value} {x : M} {xs : List M} 
    (hl : s.heap.IsList l (Value.ref a0 :: vs).toArray) (hs : vs.length ≤ 10) (ht : Tups G s.heap vs xs) (h0 : TupG G s.heap a0 x) (hx : NumM x) (hxs : ∀ y ∈ xs, NumM y) :
    wpAny (model PySem.Challenge.pw_ah5007_01 w) A (call (.ref 93) [.ref l]) (Back s fun v h => ∃ D p q, v = .ref D ∧ h.get? D = some { cls := .type "tuple", data := .seq #[.ref p, .ref q] } ∧ s.heap.get? D = none ∧ TupG G s.heap p (xs.foldl mnF x) ∧ TupG G s.heap q (xs.foldl mxF x)) E s := by
  refine enterN (Ns93 w) [(Str.ofString "seq", .ref l)]
    W r (by decide) (by k_is) (by k_is) (BindsTo.of_eq (by rfl)) (by kernel_rfl!) (by walk_at "m names") ?_ rfl rfl rfl (by decide)
  intro cs L h tk0 Nn F
  obtain ⟨i1, i2, i3, i4, g1, g2⟩ := Nn
  obtain ⟨KX, mean, mg, mb, T⟩ := W
  have N : News s.heap L h [] := News.nil
  refine seq_at 1 (StT s cs L fun tab => tab 0 = some (.ref l) ∧ tab 1 = some (.ref a0) ∧ tab 2 = some (.ref a0)) ?_ ?_
  · walk_at "m fold"
    walk_at "m steps"
    exact ⟨_, _, _, _, rfl, by assumption, by assumption, rfl, rfl, rfl⟩
  rintro s1 ⟨h1, tk1, tab1, news1, rfl, F1, N1, a1, a2, a3⟩
  clear F N
  dsimp only [List.drop]
  refine seq_at 1 (StT s cs L fun tab => ∃ p q, tab 1 = some (.ref p) ∧ tab 2 = some (.ref q) ∧ TupG G s.heap p (xs.foldl mnF x) ∧ TupG G s.heap q (xs.foldl mxF x)) ?_ ?_
  · dsimp only [List.take]
    refine wpAny_execs_cons (forL i4 F1 rfl ?_ (by intro _; rfl) PassesOwn.never)
    walk_at "m fold"
    walk_at "m steps"
    refine ⟨_, vs, _, _, fun i tab => ∃ p q, tab 1 = some (.ref p) ∧ tab 2 = some (.ref q) ∧ TupG G s.heap p ((xs.take i).foldl mnF x) ∧ TupG G s.heap q ((xs.take i).foldl mxF x), rfl, ?_, by assumption, by assumption, ⟨a0, a0, a2, a3, h0, h0⟩, ?_, ?_⟩
    · have e := slicePick_from' (Value.ref a0 :: vs).toArray 1
      have hl' := News.isList (by assumption : News s.heap L _ _) (List.Mem.head _)
      rw [show (some (1 : Int)) = some ((1 : Nat) : Int) from rfl, e] at hl'
      exact hl'
    · rintro i v tab₁ h g d tk o own hv ⟨p, q, b1, b2, hp, hq⟩ F₁ N₁
      obtain ⟨a, y, rfl, hy, ta⟩ := ht.at hv
      have hpn : NumM ((xs.take i).foldl mnF x) := fold_num (fun _ _ => mn_num) hx fun z hz => hxs z (List.mem_of_mem_take hz)
      have hqn : NumM ((xs.take i).foldl mxF x) := fold_num (fun _ _ => mx_num) hx fun z hz => hxs z (List.mem_of_mem_take hz)
      have hyn : NumM y := hxs y (List.mem_of_getElem? hy)
      dsimp only
      rw [fold_take hy, fold_take hy]
      generalize (xs.take i).foldl mnF x = P at *
      generalize (xs.take i).foldl mxF x = R at *
      generalize own ++ _ = news₁ at *
      obtain ⟨p1, p2, p3, p4⟩ := P
      obtain ⟨q1, q2, q3, q4⟩ := R
      obtain ⟨y1, y2, y3, y4⟩ := y
      obtain ⟨u1, u2, u3, u4, tp⟩ := hp.1
      obtain ⟨v1, v2, v3, v4, tq⟩ := hq.1
      obtain ⟨w1, w2, w3, w4, ty⟩ := ta.1
      dsimp only at tp tq ty
      have hpo := Or.inl (b := ((p1, p2, p3, p4) : M) = (0, 0, -123, -1)) hpn
      have hqo := Or.inl (b := ((q1, q2, q3, q4) : M) = (0, 0, -123, -1)) hqn
      have hyo := Or.inl (b := ((y1, y2, y3, y4) : M) = (0, 0, -123, -1)) hyn
      walk_at "m fold"
      walk_at "m steps"
      all_goals (refine TurnT.intro (by assumption) (by assumption) (fun p hp => hp) ⟨_, _, by walk_at "m look", by walk_at "m look", ?_, ?_⟩)
      all_goals first
        | (rw [mn_t (by assumption)]; exact ta)
        | (rw [mn_f hpn hyn (by assumption)]; exact hp)
        | (rw [mx_t (by assumption)]; exact ta)
        | (rw [mx_f hqn hyn (by assumption)]; exact hq)
    · rintro h tk tab' F' N' ⟨p, q, b1, b2, hp, hq⟩
      rw [ht.1, List.take_length] at hp hq
      refine wpAny_execs_nil ⟨rfl, _, _, _, _, rfl, F', N', p, q, b1, b2, hp, hq⟩
  rintro s2 ⟨h2, tk2, tab2, news2, rfl, F2, N2, p, q, b1, b2, hp, hq⟩
  dsimp only [List.drop]
  walk_at "m begin"
  exact ⟨_, _, rfl, Fr.keep (by assumption), _, _, _, rfl, News.got (by assumption) (by k_mem), News.fresh (by assumption) (by k_mem), hp, hq⟩
end PartS15
local macro_rules | `(tactic| walk_at "m pad") => `(tactic| skip)
local macro_rules | `(tactic| walk_at "m pad") => `(tactic| skip)
local macro_rules | `(tactic| walk_at "m pad") => `(tactic| skip)
section PartR6
open Builtin.Int (intBits)
abbrev Ns193 (w : World) (cs : Scope) : Prop := Loc cs (Str.ofString "script") 0 ∧ Loc cs (Str.ofString "first") 1 ∧ Loc cs (Str.ofString "prec") 2 ∧ Loc cs (Str.ofString "rnd") 3 ∧ Loc cs (Str.ofString "rows") 4 ∧ Loc cs (Str.ofString "k") 5 ∧ Loc cs (Str.ofString "rich") 6 ∧ Loc cs (Str.ofString "old") 7 ∧ Loc cs (Str.ofString "kind") 8 ∧ Loc cs (Str.ofString "man") 9 ∧ Loc cs (Str.ofString "both") 10 ∧ Loc cs (Str.ofString "least") 12 ∧ Loc cs (Str.ofString "most") 13 ∧
  Glo (hd.heap_39 w.params) cs (Str.ofString "_law_mixed") (.ref 139) ∧ Glo (hd.heap_39 w.params) cs (Str.ofString "_law_raw") (.ref 146) ∧ Glo (hd.heap_39 w.params) cs (Str.ofString "_law_others") (.ref 167) ∧ Glo (hd.heap_39 w.params) cs (Str.ofString "_law_one_right") (.ref 188) ∧ Glo (hd.heap_39 w.params) cs (Str.ofString "_law_order") (.ref 174) ∧ Glo (hd.heap_39 w.params) cs (Str.ofString "mpf_min_max") (.ref 93) ∧
  Bui (hd.heap_39 w.params) cs (Str.ofString "range") (.type "range") ∧ Bui (hd.heap_39 w.params) cs (Str.ofString "all") (.builtin "all")
/-- between two statements of the law -/
def StL (s : Shared) (cs : Scope) (L C : Addr) (P : (Nat → Option Value) → List (Addr × Obj) → Prop) (s' : Shared) : Prop :=
  ∃ h tk tab oC v₀ news, s' = ⟨h, s.gens, s.drawn, tk, s.os⟩ ∧ Fr s.heap L h (fun y => tab (idx cs y)) ∧ News s.heap L h ((C, oC) :: news) ∧ oC.data = .cell v₀ ∧ (∀ p ∈ news, okS p.2 = true) ∧ P tab news
theorem News.sub {h₀ h : Heap} {L : Addr} {l l' : List (Addr × Obj)} (N : News h₀ L h l) (hs : ∀ p ∈ l', p ∈ l) : News h₀ L h l' := fun p hp => N p (hs p hp)
theorem StL.intro {s : Shared} {cs : Scope} {L C : Addr} {P : (Nat → Option Value) → List (Addr × Obj) → Prop} {h : Heap} {tk : Nat} {tab : Nat → Option Value} {oC : Obj} {v₀ : Option Value} {l : List (Addr × Obj)} (news : List (Addr × Obj))
    (F : Fr s.heap L h (fun y => tab (idx cs y))) (N : News s.heap L h l) (hC : oC.data = .cell v₀) (hs : ∀ p ∈ (C, oC) :: news, p ∈ l) (ho : ∀ p ∈ news, okS p.2 = true) (hP : P tab news) : StL s cs L C P ⟨h, s.gens, s.drawn, tk, s.os⟩ :=
  ⟨h, tk, tab, oC, v₀, news, rfl, F, News.sub N hs, hC, ho, hP⟩
section
variable {prog : Program} {w : World} {A : Around} {E : Value → Shared → Prop} {s : Shared} {Q : Value → Shared → Prop}
/-- an item of a list, which one is not known -/
theorem idxAny {value slice : Expr} {l : Addr} {vs : List Value} {k : Int} {t : Tok} (hl : s.heap.IsList l vs.toArray) (h0 : 0 ≤ k) (h1 : k < vs.length) (hsz : vs.length ≤ 100) (h : ∀ v, v ∈ vs → Q v s)
    (hs : subscripted slice false (.ref l) (.int k t) = operate [.ref l, .int k t] (getItem (.ref l) (.int k t)) := by with_unfolding_all rfl) :
    wpAny (model prog w) A (subscriptTail value slice (.ref l) (.int k t)) Q E s := by
  have hk : k.toNat < vs.length := by omega
  refine kba_turn (value' := PySem.Expr.Name (PySem.Str.ofString "_") ⟨0, 0, 0, 0⟩) (fun _ => rfl) ?_
  exact subscriptTail_builtin hl.typeIs slot_list_getitem.lookup (wpAny_getItem_list hl h0 (by omega) (x := vs[k.toNat]) (by simp [hk]) (h _ (List.getElem_mem hk))) hs fun _ => rfl
theorem idxLast {value slice : Expr} {l : Addr} {vs : List Value} {v : Value} {t : Tok} (hl : s.heap.IsList l (vs ++ [v]).toArray) (hsz : vs.length ≤ 100) (h : Q v s)
    (hs : subscripted slice false (.ref l) (.int (-1) t) = operate [.ref l, .int (-1) t] (getItem (.ref l) (.int (-1) t)) := by with_unfolding_all rfl) (hg : ∀ r, letTemporaryGo value (.ref l) r = pure () := by intro _; with_unfolding_all rfl) :
    wpAny (model prog w) A (subscriptTail value slice (.ref l) (.int (-1) t)) Q E s := by
  refine subscriptTail_builtin hl.typeIs slot_list_getitem.lookup (wpAny_getItem_list_neg hl (by decide) (by simp; omega) (by decide) (x := v) ?_ h) hs hg
  have e : ((-1 : Int) + ((vs ++ [v]).toArray.size : Int)).toNat = vs.length := by simp; omega
  rw [e]; simp
end
theorem of5 {v : Value} {t1 t2 t3 t4 t5 : Tok} (h : v ∈ [Value.str (Str.ofString "n") t1, .str (Str.ofString "f") t2, .str (Str.ofString "c") t3, .str (Str.ofString "d") t4, .str (Str.ofString "u") t5]) : ∃ r t, Rnds r ∧ v = .str r t := by
  simp only [List.mem_cons, List.not_mem_nil, or_false] at h
  rcases h with rfl | rfl | rfl | rfl | rfl
  · exact ⟨_, _, .inl rfl, rfl⟩
  · exact ⟨_, _, .inr (.inl rfl), rfl⟩
  · exact ⟨_, _, .inr (.inr (.inl rfl)), rfl⟩
  · exact ⟨_, _, .inr (.inr (.inr (.inl rfl))), rfl⟩
  · exact ⟨_, _, .inr (.inr (.inr (.inr rfl))), rfl⟩
theorem of2 {v : Value} {a b : Int} {t1 t2 : Tok} (h : v ∈ [Value.int a t1, .int b t2]) : ∃ z t, (z = a ∨ z = b) ∧ v = .int z t := by
  simp only [List.mem_cons, List.not_mem_nil, or_false] at h
  rcases h with rfl | rfl
  · exact ⟨_, _, .inl rfl, rfl⟩
  · exact ⟨_, _, .inr rfl, rfl⟩
theorem of3 {v : Value} {a b c : Int} {t1 t2 t3 : Tok} (h : v ∈ [Value.int a t1, .int b t2, .int c t3]) : ∃ z t, (z = a ∨ z = b ∨ z = c) ∧ v = .int z t := by
  simp only [List.mem_cons, List.not_mem_nil, or_false] at h
  rcases h with rfl | rfl | rfl
  · exact ⟨_, _, .inl rfl, rfl⟩
  · exact ⟨_, _, .inr (.inl rfl), rfl⟩
  · exact ⟨_, _, .inr (.inr rfl), rfl⟩
/-- a row of the law, after i turns -/
def FinB (i : Nat) (x : M) : Prop := x = mZ ∨ (NzM x ∧ intBits x.2.1 ≤ 61 + 3 * i ∧ -(900 + 2 * (i : Int)) ≤ x.2.2.1 ∧ x.2.2.1 ≤ 900 + 2 * (i : Int))
theorem FinB.fin {i : Nat} {x : M} (h : FinB i x) : FinM x := h.elim .inl fun h => .inr h.1
theorem FinB.up {i j : Nat} {x : M} (h : FinB i x) (hij : i ≤ j) : FinB j x := h.elim .inl fun h => .inr ⟨h.1, by omega, by omega, by omega⟩
theorem FinB.raw {x : M} {i : Nat} (h : FinM x) (h1 : x.2.1 < 2 ^ 61) (h2 : -900 ≤ x.2.2.1) (h3 : x.2.2.1 ≤ 900) : FinB i x := by
  rcases h with h | h
  · exact .inl h
  · have := (bits_iff (m := 61) h.pos).mpr h1
    exact .inr ⟨h, by omega, by omega, by omega⟩
end PartR6
local macro_rules | `(tactic| walk_at "m pad") => `(tactic| skip)
section PartR7
open Builtin.Int (intBits)
abbrev oL (vs : List Value) (k : Nat) : Obj := { cls := .type "list", data := .seq vs.toArray k }
abbrev oM (x : M) (t1 t2 t3 t4 : Tok) : Obj := { cls := .type "tuple", data := .seq #[.int x.1 t1, .int x.2.1 t2, .int x.2.2.1 t3, .int x.2.2.2 t4] }
/-- the values are tuples of the ledger -/
inductive TupsIn (news : List (Addr × Obj)) : List Value → List M → Prop
  | nil : TupsIn news [] []
  | cons {a : Addr} {x : M} {t1 t2 t3 t4 : Tok} {vs : List Value} {xs : List M} : (a, oM x t1 t2 t3 t4) ∈ news → TupsIn news vs xs → TupsIn news (.ref a :: vs) (x :: xs)
theorem TupsIn.mono {news news' : List (Addr × Obj)} {vs : List Value} {xs : List M} (T : TupsIn news vs xs) (h : ∀ a x t1 t2 t3 t4, (a, oM x t1 t2 t3 t4) ∈ news → (a, oM x t1 t2 t3 t4) ∈ news') : TupsIn news' vs xs := by
  induction T with
  | nil => exact .nil
  | cons hm _ ih => exact .cons (h _ _ _ _ _ _ hm) ih
theorem TupsIn.append {news : List (Addr × Obj)} {vs vs' : List Value} {xs xs' : List M} (T : TupsIn news vs xs) (T' : TupsIn news vs' xs') : TupsIn news (vs ++ vs') (xs ++ xs') := by
  induction T with
  | nil => exact T'
  | cons hm _ ih => exact .cons hm ih
theorem TupsIn.one {news : List (Addr × Obj)} {a : Addr} {x : M} {t1 t2 t3 t4 : Tok} (h : (a, oM x t1 t2 t3 t4) ∈ news) : TupsIn news [.ref a] [x] := .cons h .nil
theorem TupsIn.length {news : List (Addr × Obj)} {vs : List Value} {xs : List M} (T : TupsIn news vs xs) : vs.length = xs.length := by
  induction T with
  | nil => rfl
  | cons _ _ ih => simp [ih]
theorem TupsIn.last {news : List (Addr × Obj)} {vs : List Value} {xs : List M} (T : TupsIn news vs xs) (hne : vs ≠ []) : ∃ vi a x t1 t2 t3 t4, vs = vi ++ [.ref a] ∧ x ∈ xs ∧ (a, oM x t1 t2 t3 t4) ∈ news := by
  induction T with
  | nil => exact (hne rfl).elim
  | @cons a x t1 t2 t3 t4 vs xs hm T ih =>
    cases T with
    | nil => exact ⟨[], a, x, t1, t2, t3, t4, rfl, .head _, hm⟩
    | @cons a' x' _ _ _ _ vs xs hm' T =>
      obtain ⟨vi, a2, x2, u1, u2, u3, u4, e, hx, h2⟩ := ih (by simp)
      exact ⟨.ref a :: vi, a2, x2, u1, u2, u3, u4, by rw [e]; rfl, .tail _ hx, h2⟩
theorem TupsIn.mem {news : List (Addr × Obj)} {vs : List Value} {xs : List M} (T : TupsIn news vs xs) {v : Value} (h : v ∈ vs) : ∃ a x t1 t2 t3 t4, v = .ref a ∧ x ∈ xs ∧ (a, oM x t1 t2 t3 t4) ∈ news := by
  induction T with
  | nil => cases h
  | @cons a x t1 t2 t3 t4 vs xs hm T ih =>
    rcases List.mem_cons.mp h with rfl | h
    · exact ⟨a, x, t1, t2, t3, t4, rfl, .head _, hm⟩
    · obtain ⟨a, x, t1, t2, t3, t4, e, hx, hm⟩ := ih h
      exact ⟨a, x, t1, t2, t3, t4, e, .tail _ hx, hm⟩
theorem TupsIn.at' {news : List (Addr × Obj)} {vs : List Value} {xs : List M} (T : TupsIn news vs xs) : ∀ {i : Nat} {v : Value}, vs[i]? = some v → ∃ a x t1 t2 t3 t4, v = .ref a ∧ xs[i]? = some x ∧ (a, oM x t1 t2 t3 t4) ∈ news := by
  induction T with
  | nil => intro i v h; simp at h
  | @cons a x t1 t2 t3 t4 vs xs hm T ih =>
    intro i v h
    cases i with
    | zero =>
      simp only [List.getElem?_cons_zero, Option.some.injEq] at h
      exact ⟨a, x, t1, t2, t3, t4, h.symm, rfl, hm⟩
    | succ i => exact ih (by simpa using h)
/-- the rows after i turns -/
def Rows (i : Nat) (tab : Nat → Option Value) (news : List (Addr × Obj)) : Prop :=
  ∃ R vs k xs, tab 4 = some (.ref R) ∧ (R, oL vs k) ∈ news ∧ TupsIn news vs xs ∧ vs ≠ [] ∧ vs.length ≤ i + 1 ∧ ∀ x ∈ xs, FinB i x
/-- what the first line gave -/
def Menu (l : Addr) (tab : Nat → Option Value) : Prop :=
  tab 0 = some (.ref l) ∧ (∃ p t, tab 2 = some (.int p t) ∧ 1 ≤ p ∧ p ≤ 60) ∧ ∃ r t, tab 3 = some (.str r t) ∧ Rnds r
section
variable {prog : Program} {w : World} {A : Around} {E : Value → Shared → Prop} {h₀ h : Heap} {L C : Addr} {m : Str → Option Value} {led news : List (Addr × Obj)} {g : Array GenState} {d : Drawn} {tk : Nat} {o : OsState}
theorem appendL {Q : Value → Shared → Prop} {R : Addr} {vs : List Value} {k : Nat} {v : Value} (F : Fr h₀ L h m) (N : News h₀ L h led) (hm : (R, oL vs k) ∈ led) (hsz : vs.length ≤ 100)
    (q : ∀ h' k', Fr h₀ L h' m → News h₀ L h' ((R, oL (vs ++ [v]) k') :: led.filter (fun p => p.1 != R)) → (∀ p ∈ led, p.1 = R → p.2 = oL vs k) → Q .none ⟨h', g, d, tk, o⟩) :
    wpAny (model prog w) A (call (.builtin "list.append") [.ref R, v]) Q E ⟨h, g, d, tk, o⟩ := by
  have hR := N _ hm
  refine wpAny_list_append_plain (s := ⟨h, g, d, tk, o⟩) (hsz := by simp; exact Nat.le_trans hsz (by decide)) ⟨k, hR.1⟩ fun h' hpl hs => ?_
  obtain ⟨k', hk'⟩ := hpl
  have e : vs.toArray.push v = (vs ++ [v]).toArray := by simp
  rw [e] at hk'
  refine q h' k' (F.change hs hR.2.1 hR.2.2) (fun p hp => ?_) fun p hp e => ?_
  · rcases List.mem_cons.mp hp with rfl | hp
    · exact ⟨hk', hR.2⟩
    · obtain ⟨hp, hne⟩ := List.mem_filter.mp hp
      have hne : p.1 ≠ R := by simpa using hne
      exact ⟨(hs.2 p.1 hne).trans (N p hp).1, (N p hp).2⟩
  · have h1 := (N p hp).1
    rw [e, hR.1] at h1
    exact (Option.some.inj h1).symm
theorem getM {Q : Value × List Value → Shared → Prop} {R : Addr} {vs : List Value} {k : Nat} {pl : Sem Bool} {s : Shared} (N : News h₀ L s.heap led) (hm : (R, oL vs k) ∈ led) (q : Q (.builtin "list.append", [.ref R]) s) : wpAny (model prog w) A (getMethod (.ref R) "append" pl) Q E s :=
  Calls.getMethod_list_append (N.get hm) rfl rfl q
theorem rows_end {cs : Scope} {I R l : Addr} {oI oC : Obj} {tab : Nat → Option Value} {v₀ : Option Value} {vs : List Value} {k k' i : Nat} {a : Addr} {x : M} {t1 t2 t3 t4 : Tok} {xs : List M} {g' : Array GenState} {d' : Drawn} {tk' : Nat} {o' : OsState}
    (F : Fr h₀ L h (fun y => tab (idx cs y))) (N : News h₀ L h ((R, oL (vs ++ [.ref a]) k') :: led.filter (fun p => p.1 != R))) (hne : ∀ p ∈ led, p.1 = R → p.2 = oL vs k)
    (hI : (I, oI) ∈ led) (hI' : ∃ xs, oI.data = .fields xs) (hC : (C, oC) ∈ led) (hC' : oC.data = .cell v₀) (hM : Menu l tab) (h4 : tab 4 = some (.ref R)) (hs : ∀ p ∈ news, p ∈ led) (T : TupsIn news vs xs) (hl : vs.length ≤ i + 1) (hx : ∀ x ∈ xs, FinB i x)
    (ha : (a, oM x t1 t2 t3 t4) ∈ led) (hb : FinB (i + 1) x) :
    TurnI h₀ cs L C I oI (fun tab news => Menu l tab ∧ Rows (i + 1) tab news) ⟨h, g, d, tk', o⟩ .next ⟨h, g, d, tk, o⟩ := by
  have keep : ∀ b ob, (b, ob) ∈ led → (∀ w k, ob ≠ oL w k) → (b, ob) ∈ led.filter (fun p => p.1 != R) := by
    intro b ob hb ho
    refine List.mem_filter.mpr ⟨hb, ?_⟩
    have : b ≠ R := fun e => ho _ _ (hne _ hb e)
    simpa using this
  have tup : ∀ a x t1 t2 t3 t4, (a, oM x t1 t2 t3 t4) ∈ led → (a, oM x t1 t2 t3 t4) ∈ (R, oL (vs ++ [.ref a]) k') :: (led.filter (fun p => p.1 != R)).filter (fun p => okS p.2) := fun a x t1 t2 t3 t4 hb =>
    .tail _ (List.mem_filter.mpr ⟨keep _ _ hb (fun w k e => by injection e with e1; injection e1 with e2; exact absurd e2 (by decide)), rfl⟩)
  refine ⟨rfl, h, tk, tab, oC, v₀, (R, oL (vs ++ [.ref a]) k') :: (led.filter (fun p => p.1 != R)).filter (fun p => okS p.2), rfl, F, fun p hp => ?_, hC', fun p hp => ?_, hM, R, vs ++ [.ref a], k', xs ++ [x], h4, .head _, ?_, by simp, by simp; omega, ?_⟩
  · rcases List.mem_cons.mp hp with rfl | hp
    · obtain ⟨ys, hy⟩ := hI'
      exact N _ (.tail _ (keep _ _ hI fun w k e => by rw [e] at hy; cases hy))
    · rcases List.mem_cons.mp hp with rfl | hp
      · exact N _ (.tail _ (keep _ _ hC fun w k e => by rw [e] at hC'; cases hC'))
      · rcases List.mem_cons.mp hp with rfl | hp
        · exact N _ (.head _)
        · exact N _ (.tail _ (List.mem_filter.mp hp).1)
  · rcases List.mem_cons.mp hp with rfl | hp
    · rfl
    · exact (List.mem_filter.mp hp).2
  · refine TupsIn.append (T.mono fun a x t1 t2 t3 t4 hb => ?_) (TupsIn.one (t1 := t1) (t2 := t2) (t3 := t3) (t4 := t4) ?_)
    · have := tup a x t1 t2 t3 t4 (hs _ hb)
      rcases List.mem_cons.mp this with e | h
      · injection e with e1 e2
        injection e2 with e3; injection e3 with e4
        exact absurd e4 (by decide)
      · exact .tail _ h
    · exact tup a x t1 t2 t3 t4 ha
  · intro y hy
    rcases List.mem_append.mp hy with hy | hy
    · exact (hx y hy).up (by omega)
    · rw [List.mem_singleton.mp hy]; exact hb
end
theorem fin_flip {i : Nat} {sg man ex bc : Int} (h : FinB i (sg, man, ex, bc)) (hp : 0 < man) : FinB (i + 1) (1 - sg, man, ex, bc) := by
  rcases h with h | ⟨h, h1, h2, h3⟩
  · injection h with _ h; injection h with h _; omega
  · dsimp only at h1 h2 h3
    exact .inr ⟨⟨by have := h.sg; dsimp only at this ⊢; omega, h.pos, h.odd, h.bc, h.few, h.lo, h.hi⟩, by dsimp only; omega, by dsimp only; omega, by dsimp only; omega⟩
theorem fin_beside {i : Nat} {sg man ex bc z : Int} (hi : i < 3) (h : FinB i (sg, man, ex, bc)) (hp : 0 < man) (hz : z = 1 ∨ z = -1) : FinB (i + 1) (sg, 4 * man + z, ex - 2, ((intBits (4 * man + z) : Nat) : Int)) := by
  rcases h with h | ⟨h, h1, h2, h3⟩
  · injection h with _ h; injection h with h _; omega
  · dsimp only at h1 h2 h3
    have h4 : man < 2 ^ intBits man := bits_lt hp
    have h5 : 4 * man + z < 2 ^ (61 + 3 * (i + 1)) := by
      have h6 : (2 : Int) ^ intBits man ≤ 2 ^ (61 + 3 * i) := p2le h1
      have h7 : (2 : Int) ^ (61 + 3 * (i + 1)) = 2 ^ (61 + 3 * i) * 8 := by rw [show 61 + 3 * (i + 1) = 61 + 3 * i + 3 by omega, Int.pow_add]; rfl
      omega
    have hq : 0 < 4 * man + z := by omega
    have h8 := (bits_iff (m := 61 + 3 * (i + 1)) hq).mpr h5
    have hs := h.sg
    have ho := h.odd
    dsimp only at hs ho
    exact .inr ⟨⟨hs, hq, by dsimp only; omega, rfl, by dsimp only; omega, by dsimp only; omega, by dsimp only; omega⟩, by dsimp only; omega, by dsimp only; omega, by dsimp only; omega⟩
abbrev okLs (led : List (Addr × Obj)) : List (Addr × Obj) := led.filter fun p => okS p.2
theorem memf {led : List (Addr × Obj)} {p : Addr × Obj} (h : p ∈ led) (ho : okS p.2 = true) : p ∈ okLs led := List.mem_filter.mpr ⟨h, ho⟩
theorem StL.led {s : Shared} {cs : Scope} {L C : Addr} {P : (Nat → Option Value) → List (Addr × Obj) → Prop} {h : Heap} {tk : Nat} {tab : Nat → Option Value} {oC : Obj} {v₀ : Option Value} {l : List (Addr × Obj)}
    (F : Fr s.heap L h (fun y => tab (idx cs y))) (N : News s.heap L h l) (hC : oC.data = .cell v₀) (hm : (C, oC) ∈ l) (hP : P tab (okLs l)) : StL s cs L C P ⟨h, s.gens, s.drawn, tk, s.os⟩ :=
  ⟨h, tk, tab, oC, v₀, okLs l, rfl, F, fun p hp => (List.mem_cons.mp hp).elim (fun e => e ▸ N _ hm) (fun hp => N p (List.mem_filter.mp hp).1), hC, fun p hp => (List.mem_filter.mp hp).2, hP⟩
theorem rows0 {tab : Nat → Option Value} {led : List (Addr × Obj)} {R D : Addr} {k : Nat} {z : M} {t1 t2 t3 t4 : Tok} (h4 : tab 4 = some (.ref R)) (hR : (R, oL [.ref D] k) ∈ led) (hD : (D, oM z t1 t2 t3 t4) ∈ led) (hz : FinB 0 z) : Rows 0 tab (okLs led) :=
  ⟨R, [.ref D], k, [z], h4, memf hR rfl, TupsIn.one (memf hD rfl), by simp, by simp, fun x hx => by rw [List.mem_singleton.mp hx]; exact hz⟩
theorem menu0 {l : Addr} {tab : Nat → Option Value} {p : Int} {r : Str} {t t' : Tok} (h0 : tab 0 = some (.ref l)) (h2 : tab 2 = some (.int p t)) (h3 : tab 3 = some (.str r t')) (hr : Rnds r) (hp : 1 ≤ p) (hp' : p ≤ 60) : Menu l tab :=
  ⟨h0, ⟨p, t, h2, hp, hp'⟩, r, t', h3, hr⟩
theorem menu_num {f : Int} : 1 ≤ 1 + (f.fdiv 5).fmod 60 ∧ 1 + (f.fdiv 5).fmod 60 ≤ 60 := by
  have h1 := Int.fmod_nonneg_of_pos (f.fdiv 5) (show (0 : Int) < 60 by decide)
  have h2 := Int.fmod_lt_of_pos (f.fdiv 5) (show (0 : Int) < 60 by decide)
  omega
theorem rows_end4 {h₀ h : Heap} {L C : Addr} {led news : List (Addr × Obj)} {g : Array GenState} {d : Drawn} {tk : Nat} {o : OsState} {cs : Scope} {I R l : Addr} {oI oC : Obj} {tab : Nat → Option Value} {v₀ : Option Value} {vs : List Value} {k k' i : Nat} {a : Addr} {a1 a2 a3 a4 : Int} {t1 t2 t3 t4 : Tok} {xs : List M} {tk' : Nat}
    (F : Fr h₀ L h (fun y => tab (idx cs y))) (N : News h₀ L h ((R, oL (vs ++ [.ref a]) k') :: led.filter (fun p => p.1 != R))) (hne : ∀ p ∈ led, p.1 = R → p.2 = oL vs k)
    (hI : (I, oI) ∈ led) (hI' : ∃ xs, oI.data = .fields xs) (hC : (C, oC) ∈ led) (hC' : oC.data = .cell v₀) (hM : Menu l tab) (h4 : tab 4 = some (.ref R)) (hs : ∀ p ∈ news, p ∈ led) (T : TupsIn news vs xs) (hl : vs.length ≤ i + 1) (hx : ∀ x ∈ xs, FinB i x)
    (ha : (a, ({ cls := .type "tuple", data := .seq #[.int a1 t1, .int a2 t2, .int a3 t3, .int a4 t4] } : Obj)) ∈ led) (hb : FinB (i + 1) (a1, a2, a3, a4)) :
    TurnI h₀ cs L C I oI (fun tab news => Menu l tab ∧ Rows (i + 1) tab news) ⟨h, g, d, tk', o⟩ .next ⟨h, g, d, tk, o⟩ :=
  rows_end (g' := g) (d' := d) (o' := o) (x := (a1, a2, a3, a4)) (tk := tk) (tk' := tk') F N hne hI hI' hC hC' hM h4 hs T hl hx ha hb
section
variable {prog : Program} {w : World} {A : Around} {E : Value → Shared → Prop} {h₀ h : Heap} {L : Addr} {m : Str → Option Value} {led : List (Addr × Obj)} {g : Array GenState} {d : Drawn} {tk : Nat} {o : OsState} {Q : Value → Shared → Prop} {R l2 : Addr} {vs ws : List Value}
theorem addG (F : Fr h₀ L h m) (N : News h₀ L h led) (hR : h.IsList R vs.toArray) (h2 : h.IsList l2 ws.toArray) (hsz : vs.length + ws.length ≤ 100)
    (q : ∀ D h', Fr h₀ L h' m → News h₀ L h' ((D, oL (vs ++ ws) 0) :: led) → Q (.ref D) ⟨h', g, d, tk, o⟩) : wpAny (model prog w) A (binaryOp .Add (.ref R) (.ref l2)) Q E ⟨h, g, d, tk, o⟩ :=
  add_lists (s := ⟨h, g, d, tk, o⟩) (hsz := Nat.le_trans hsz (by decide)) F N hR h2 fun h' F' N' => q _ h' F' N'
end
/-- the rows and both infinities -/
def Both (R : Addr) (vs : List Value) (k : Nat) (xs : List M) (tab : Nat → Option Value) (news : List (Addr × Obj)) : Prop :=
  tab 4 = some (.ref R) ∧ (R, oL vs k) ∈ news ∧ ∃ B vi k2, tab 10 = some (.ref B) ∧ (B, oL (vs ++ vi) k2) ∈ news ∧ TupsIn news vs xs ∧ TupsIn news vi [mInf, mNinf]
theorem both_of {R : Addr} {vs : List Value} {k k2 : Nat} {xs : List M} {tab : Nat → Option Value} {led news : List (Addr × Obj)} {B a b : Addr} {t1 t2 t3 t4 u1 u2 u3 u4 : Tok} (h4 : tab 4 = some (.ref R)) (hR : (R, oL vs k) ∈ news) (h10 : tab 10 = some (.ref B))
    (hB : (B, oL (vs ++ [.ref a, .ref b]) k2) ∈ led) (hT : TupsIn news vs xs) (ha : (a, oM mInf t1 t2 t3 t4) ∈ led) (hb : (b, oM mNinf u1 u2 u3 u4) ∈ led) (hs : ∀ p ∈ news, p ∈ led) : Both R vs k xs tab (okLs led) :=
  ⟨h4, memf (hs _ hR) rfl, B, _, k2, h10, memf hB rfl, hT.mono (fun a x t1 t2 t3 t4 h => memf (hs _ h) rfl), .cons (memf ha rfl) (.cons (memf hb rfl) .nil)⟩
end PartR7
local macro_rules | `(tactic| walk_at "m pad") => `(tactic| skip)
section PartR8
theorem one_spec {w : World} {A : Around} {E : Value → Shared → Prop} {s : Shared} (W : Rdy w s.heap) (r : Le A 33) {a : Addr} {sg man ex bc prec : Int} {rnd : Str} {t1 t2 t3 t4 t5 t6 : Tok}
    (ha : IsTup s.heap a #[.int sg t1, .int man t2, .int ex t3, .int bc t4]) (hx : NumM (sg, man, ex, bc) ∨ ((sg, man, ex, bc) : M) = (0, 0, -123, -1)) (hp : 1 ≤ prec) (hp' : prec ≤ 60) (hr : Rnds rnd) :
    wpAny (model PySem.Challenge.pw_ah5007_01 w) A (call (.ref 188) [.ref a, .int prec t5, .str rnd t6]) (Back s fun v _ => v = .bool true) E s := by
  rcases hx with ((h | h) | h | h) | h
  · injection h with e1 h; injection h with e2 h; injection h with e3 e4
    subst e1 e2 e3 e4
    exact one_z W r ha hp hp' hr
  · rcases h.sg with q | q
    · dsimp only at q; subst q; exact one_p W r ha h hp hp' hr
    · dsimp only at q; subst q; exact one_n W r ha h hp hp' hr
  · injection h with e1 h; injection h with e2 h; injection h with e3 e4
    subst e1 e2 e3 e4
    exact one_inf W r ha hp hp' hr
  · injection h with e1 h; injection h with e2 h; injection h with e3 e4
    subst e1 e2 e3 e4
    exact one_ninf W r ha hp hp' hr
  · injection h with e1 h; injection h with e2 h; injection h with e3 e4
    subst e1 e2 e3 e4
    exact one_nan W r ha hp hp' hr
theorem elem {w : World} {A : Around} {E' : Value → Shared → Prop} {h₀ : Heap} {s₂ : Shared} {L fa C C' a b : Addr} {m₂ : Str → Option Value} {cn : Str} {cs scope : Scope} {ccd : Value} {o : Obj} {fd : FuncData} {sg man ex bc sg' man' ex' bc' : Int} {t1 t2 t3 t4 u1 u2 u3 u4 : Tok} {p0 p1 p2 pos : Pos}
    {mean : ExcName → Option Value} {mg mb : Str → Option Value} (KX : (hd.heap_39 w.params).In h₀) (T : Top hd.view_39 loo mean mg mb h₀) (keep : ∀ b o, h₀.get? b = some o → s₂.heap.get? b = some o) (cel : Cel cs [(Str.ofString "s", C)] (Str.ofString "s") C) (hcell : s₂.heap.IsCell C (some (.ref a)))
    (n1 : scope.names.lookup (Str.ofString "s") = some .free) (n2 : scope.names.lookup (Str.ofString "t") = some .local) (n3 : scope.names.lookup (Str.ofString "_law_pair_right") = some .globalImplicit) (hk : scope.kind = .function) (hns : s₂.heap.Ns C' m₂) (hv : m₂ (Str.ofString "t") = some (.ref b))
    (hg : nsIn (hd.heap_39 w.params) mainGlobals (Str.ofString "_law_pair_right") = some (some (.ref 181))) (ho : (hd.heap_39 w.params).lookup 181 = some o) (hd' : o.data = .func fd)
    (ha : IsTup s₂.heap a #[.int sg t1, .int man t2, .int ex t3, .int bc t4]) (hb : IsTup s₂.heap b #[.int sg' u1, .int man' u2, .int ex' u3, .int bc' u4])
    (hx : NumM (sg, man, ex, bc) ∨ ((sg, man, ex, bc) : M) = (0, 0, -123, -1)) (hy : NumM (sg', man', ex', bc') ∨ ((sg', man', ex', bc') : M) = (0, 0, -123, -1)) (r : Le A 33) :
    wpAny (model PySem.Challenge.pw_ah5007_01 w) A (eval (.Call (.Name (Str.ofString "_law_pair_right") p0) [.Name (Str.ofString "s") p1, .Name (Str.ofString "t") p2] [] pos) (compEnvC scope [(Str.ofString "s", C)] C' (envX cn cs L fa ccd [(Str.ofString "s", C)])))
      (fun y s₃ => y = .bool true ∧ Keeps s₂ s₃) E' s₂ := by
  have R : Rdy w s₂.heap := Rdy.keeps ⟨KX, mean, mg, mb, T⟩ keep
  refine call2 (ni_glob hg n3 hk rfl keep KX T) (ni_cell cel n1 hk rfl hcell) (ni_local n2 hk rfl hns hv) (R.K _ _ ho) hd' ?_
  refine wpAny_mono (pair_spec R r ha hb hx hy) (fun v s' hb => ?_) fun _ _ x => x
  obtain ⟨h, tk, rfl, kp, hv⟩ := hb
  exact ⟨hv, h, tk, rfl, kp⟩
/-- what stands through a loop over a list of the ledger -/
def Run (l R D : Addr) (vs : List Value) (k : Nat) (xs : List M) (us : List Value) (kd : Nat) (ys : List M) (tab : Nat → Option Value) (news : List (Addr × Obj)) : Prop :=
  Menu l tab ∧ Both R vs k xs tab news ∧ (D, oL us kd) ∈ news ∧ TupsIn news us ys
theorem Both.okLs {R : Addr} {vs : List Value} {k : Nat} {xs : List M} {tab : Nat → Option Value} {news led : List (Addr × Obj)} (hB : Both R vs k xs tab news) (hs : ∀ p ∈ news, p ∈ led) : Both R vs k xs tab (okLs led) := by
  obtain ⟨h4, hR, B, vi, k2, h10, hBm, hT, hT2⟩ := hB
  exact ⟨h4, memf (hs _ hR) rfl, B, vi, k2, h10, memf (hs _ hBm) rfl, hT.mono (fun a x t1 t2 t3 t4 h => memf (hs _ h) rfl), hT2.mono fun a x t1 t2 t3 t4 h => memf (hs _ h) rfl⟩
theorem main_loop {prog : Program} {w : World} {A : Around} {E : Value → Shared → Prop} {h₀ h : Heap} {cs : Scope} {L C : Addr} {x : Str} {px : Pos} {body : List Stmt} {env : Env} {Q : Flow → Shared → Prop} {l R D : Addr} {vs us : List Value} {k kd : Nat} {xs ys : List M} {tab : Nat → Option Value} {news led : List (Addr × Obj)} {oC : Obj} {v₀ : Option Value}
    {g : Array GenState} {d : Drawn} {tk : Nat} {o : OsState} (F : Fr h₀ L h (fun y => tab (idx cs y))) (N : News h₀ L h led) (hC : oC.data = .cell v₀) (hCm : (C, oC) ∈ led) (hh : A.handled = none) (hM : Menu l tab) (hB : Both R vs k xs tab news) (hs : ∀ p ∈ news, p ∈ led) (hD : (D, oL us kd) ∈ led) (hT : TupsIn led us ys)
    (step : ∀ a x' t1 t2 t3 t4 I oI tab oC v₀ news h g d tk o, x' ∈ ys → (a, oM x' t1 t2 t3 t4) ∈ news → Run l R D vs k xs us kd ys tab news → (∃ xs, oI.data = .fields xs) → oC.data = .cell v₀ → (∀ p ∈ news, okS p.2 = true) → Fr h₀ L h (fun y => tab (idx cs y)) → News h₀ L h ((I, oI) :: (C, oC) :: news) →
      wpAny (model prog w) A (assign (.Name x px) env (.ref a)) (fun _ s₂ => wpAny (model prog w) A (execs body env) (TurnI h₀ cs L C I oI (Run l R D vs k xs us kd ys) ⟨h, g, d, tk, o⟩) E s₂) E ⟨h, g, d, tk, o⟩)
    (done : ∀ h tk tab oC v₀ news, Fr h₀ L h (fun y => tab (idx cs y)) → News h₀ L h ((C, oC) :: news) → oC.data = .cell v₀ → (∀ p ∈ news, okS p.2 = true) → Run l R D vs k xs us kd ys tab news → Q .next ⟨h, g, d, tk, o⟩) :
    wpAny (model prog w) A (pyIter (.ref D)) (LoopK prog w A E h₀ cs L C x px body env Q) E ⟨h, g, d, tk, o⟩ := by
  refine listK (s := ⟨h, g, d, tk, o⟩) (l := D) (vs := us) (k := kd) (news := okLs led) (fun _ tab news => Run l R D vs k xs us kd ys tab news) F (fun p hp => (List.mem_cons.mp hp).elim (fun e => e ▸ N _ hCm) (fun hp => N p (List.mem_filter.mp hp).1)) hC (fun p hp => (List.mem_filter.mp hp).2) hh (memf hD rfl)
    ⟨hM, hB.okLs hs, memf hD rfl, hT.mono fun a x t1 t2 t3 t4 h => memf h rfl⟩ (fun _ _ _ hj => hj.2.2.1) ?_ done
  intro i v I oI tab oC v₀ news h g d tk o hv hj hI hC hok F N
  obtain ⟨a, x', t1, t2, t3, t4, rfl, hx, hm⟩ := hj.2.2.2.mem (List.mem_of_getElem? hv)
  exact step a x' t1 t2 t3 t4 I oI tab oC v₀ news h g d tk o hx hm hj hI hC hok F N
end PartR8
local macro_rules | `(tactic| walk_at "m pad") => `(tactic| skip)
section PartLB
open Builtin.Int (intBits)
theorem IsList.keeps {h h' : Heap} {a : Addr} {items : Array Value} (x : h.IsList a items) (hk : ∀ b o, h.get? b = some o → h'.get? b = some o) : h'.IsList a items := let ⟨o, ho, r⟩ := x; ⟨o, hk a o ho, r⟩
theorem exprX {prog : Program} {w : World} {A : Around} {E : Value → Shared → Prop} {s : Shared} {cn : Str} {cs : Scope} {L a : Addr} {ccd : Value} {cl cl' : List (Str × Addr)} {x : Str} {c : Addr} {e : Expr} {pos : Pos} {Q : Flow → Shared → Prop} (hc : Cel cs cl' x c)
    (h : wpAny (model prog w) A (eval e (envX cn cs L a ccd cl)) (fun _ => Q .next) E s) (hs : swapsWith e none pos.line (envX cn cs L a ccd cl) = pure false := by rfl) : wpAny (model prog w) A (exec (.Expr e pos) (envX cn cs L a ccd cl)) Q E s :=
  wpAny_Expr_any h (by show (cs.kind == .module && _) = false; rw [hc.fn]; rfl) hs
def bodyOf (o : Option Obj) : List Stmt := match o with
  | some ⟨_, _, .func f, _⟩ => (match f.body with
    | .stmts b => b
    | _ => [])
  | _ => []
def forBody (b : List Stmt) (i : Nat) : List Stmt := match b.drop i with
  | .For _ _ bd _ _ :: _ => bd
  | _ => []
end PartLB
local macro_rules | `(tactic| walk_at "m pad") => `(tactic| skip)
section Law
open Builtin.Int (intBits)
local macro_rules | `(tactic| walk_at "eval Name") => `(tactic| (k_here; k_dflt (first
  | (refine' nmX_T ?b ?F ?v ?_; (case b => with_reducible assumption); (case F => with_reducible assumption); (case v => walk_at "m look"))
  | (refine' nmX_G ?b ?F ?X ?T ?_; (case b => with_reducible assumption); (case F => with_reducible assumption); (case X => with_reducible assumption); (case T => with_reducible assumption))
  | (refine' nmX_B ?b ?F ?X ?T ?_; (case b => with_reducible assumption); (case F => with_reducible assumption); (case X => with_reducible assumption); (case T => with_reducible assumption))
  | (refine' nmX_C ?b rfl ?N ?m ?d ?_; (case b => with_reducible assumption); (case N => with_reducible assumption); (case m => walk_at "m mem"); (case d => with_reducible assumption)))))
local macro_rules | `(tactic| walk_at "loadName") => `(tactic| (k_here; k_dflt (refine' ldnX_T ?b ?F ?v ?_; (case b => with_reducible assumption); (case F => with_reducible assumption); (case v => walk_at "m look"))))
local macro_rules | `(tactic| walk_at "storeName") => `(tactic| (k_here; k_dflt (refine' stX_T ?b ?F ?N ?_; (case b => with_reducible assumption); (case F => with_reducible assumption); (case N => with_reducible assumption)); (intro h' F' N'); (try k_sweep)))
local macro_rules | `(tactic| walk_at "exec Assign") => `(tactic| (k_here; (with_reducible show wpAny _ _ (exec (Stmt.Assign [Expr.Tuple _ _ _] (Expr.Tuple _ _ _) _) _) _ _ _); ((with_reducible refine' asgX2 ?k1 ?k2 ?kc ?_); (case k1 => assumption); (case k2 => assumption); (case kc => kernel_rfl!))))
local macro_rules | `(tactic| walk_at "m mem") => `(tactic| first | exact List.Mem.head _ | with_reducible assumption | (refine List.mem_cons_of_mem _ ?_; walk_at "m mem"))
local macro_rules | `(tactic| walk_at "m sub") => `(tactic| first
  | exact List.forall_mem_nil _
  | (refine List.forall_mem_cons.mpr ⟨by walk_at "m mem", ?_⟩; walk_at "m sub")
  | (intro p hp; repeat (first | exact hp | apply List.mem_cons_of_mem)))
local macro_rules | `(tactic| walk_at "m ok") => `(tactic| first
  | exact List.forall_mem_nil _
  | with_reducible assumption
  | (refine List.forall_mem_cons.mpr ⟨rfl, ?_⟩; walk_at "m ok"))
local macro_rules | `(tactic| walk_at "m tup") => `(tactic| first
  | with_reducible assumption
  | exact IsTup.keeps (by with_reducible assumption) (Fr.keep (by with_reducible assumption))
  | exact News.isTup (by with_reducible assumption) (by walk_at "m mem")
  | exact kun_topT (by with_reducible assumption) (by with_reducible assumption) (by k_is))
local macro_rules | `(tactic| walk_at "m lst") => `(tactic| first
  | with_reducible assumption
  | exact IsList.keeps (by with_reducible assumption) (Fr.keep (by with_reducible assumption))
  | exact News.isList (by with_reducible assumption) (by walk_at "m mem"))
local macro_rules | `(tactic| walk_at "call ref") => `(tactic| (k_here; first
  | ((with_reducible show wpAny _ _ (call (Value.ref 139) _ _) _ _ _); (walk_at "m use"); (case mhc => exact mixed_spec (by walk_at "m rdy") (by walk_at "m le") (by walk_at "m lst") (by with_reducible assumption) (by omega) (by omega) (by omega)); (intro v' h' tk' F' N' k' hR'); (obtain ⟨nn', tt', hn', hv'⟩ := hR'); (subst hv'); (clear k'); (try k_sweep))
  | ((with_reducible show wpAny _ _ (call (Value.ref 146) _ _) _ _ _); (walk_at "m useP"); (case mhc => exact raw_spec (by walk_at "m rdy") (by walk_at "m le") (by omega) (by omega) (by omega)); (intro z' D' t1' t2' t3' t4' h' tk' hP' F' N'); (try k_sweep))))
local macro_rules | `(tactic| walk_at "exec Expr") => `(tactic| (k_here; k_dflt (refine exprX (by with_reducible assumption) ?_)))
local macro_rules | `(tactic| walk_at "getMethod ref") => `(tactic| (k_here; k_dflt (refine getM (by with_reducible assumption) (by walk_at "m mem") ?_)))
local macro_rules | `(tactic| walk_at "call builtin:list.append") => `(tactic| (k_here; k_dflt (refine appendL (by with_reducible assumption) (by with_reducible assumption) (by walk_at "m mem") (by simp; omega) ?_); (intro h' k' F' N' hne'); (try k_sweep)))
local macro_rules | `(tactic| walk_at "subscriptTail") => `(tactic| (k_here; first
  | ((with_reducible show wpAny _ _ (subscriptTail _ _ (Value.ref _) (Value.int (-1) _)) _ _ _); k_dflt (refine idxLast (by walk_at "m lst") (by omega) ?_))
  | ((with_reducible show wpAny _ _ (subscriptTail _ _ (Value.ref _) (Value.int _ _)) _ _ _); k_dflt ((refine idxAny (by walk_at "m lst") (by first | omega | exact Int.fmod_nonneg_of_pos _ (by decide)) (by exact Int.fmod_lt_of_pos _ (by decide)) (by exact Nat.le_of_ble_eq_true rfl) ?_); (intro v' hv'); first
      | (obtain ⟨r', t', hr', e'⟩ := of5 hv'; subst e'; clear hv')
      | (obtain ⟨r', t', hr', e'⟩ := of2 hv'; subst e'; clear hv')
      | (obtain ⟨r', t', hr', e'⟩ := of3 hv'; subst e'; clear hv')))))
local macro_rules | `(tactic| walk_at "call ref") => `(tactic| (k_here; ((with_reducible show wpAny _ _ (call (Value.ref 167) _ _) _ _ _); (rename Fr _ _ _ _ => mF'); (rename News _ _ _ _ => mN'); (refine' useO mF' mN' ?mhc ?_); (case mhc => exact others_spec (by walk_at "m rdy") (by walk_at "m le")); (intro l' a' b' c' p1' p2' p3' p4' p5' p6' p7' p8' p9' q1' q2' q3' h' tk' F' N'); (try k_sweep))))
local macro_rules | `(tactic| walk_at "binaryOp Add ref ref") => `(tactic| (k_here; k_dflt (refine addG (by with_reducible assumption) (by with_reducible assumption) (by walk_at "m lst") (by walk_at "m lst") (by simp; omega) ?_); (intro D' h' F' N'); (try k_sweep)))
local macro_rules | `(tactic| walk_at "storeName") => `(tactic| (k_here; k_dflt (refine stX_C (by with_reducible assumption) (by with_reducible assumption) (by with_reducible assumption) (by with_reducible assumption) (by with_reducible assumption) (by with_reducible assumption) ?_); (intro h' o' F' N' hc'); (try k_sweep)))
local macro_rules | `(tactic| walk_at "call ref") => `(tactic| (k_here; ((with_reducible show wpAny _ _ (call (Value.ref 188) _ _) _ _ _); (walk_at "m use"); (case mhc => exact one_spec (by walk_at "m rdy") (by walk_at "m le") (by walk_at "m tup") (by assumption) (by assumption) (by assumption) (by assumption)); (intro v' h' tk' F' N' k' hR'); (subst hR'); (clear k'); (try k_sweep))))
local macro_rules | `(tactic| walk_at "eval ListComp") => `(tactic| (k_here; k_dflt (refine compT (by with_reducible assumption) (by with_unfolding_all rfl) (by decide) rfl (by decide) rfl rfl ?_ (by intro _; rfl))))
local macro_rules | `(tactic| walk_at "m pad") => `(tactic| skip)
section PartT1
def Stop (P : Prop) : Prop := P
theorem stop_here {P : Prop} (h : Stop P) : P := h
theorem num3 {xs : List M} (hfin : ∀ y ∈ xs, FinM y) {y : M} (h : y ∈ xs ++ [mInf, mNinf] ++ [mNan]) : NumM y ∨ y = mNan := by
  rcases List.mem_append.mp h with h | h
  · rcases List.mem_append.mp h with h | h
    · exact .inl (.inl (hfin _ h))
    · simp only [List.mem_cons, List.not_mem_nil, or_false] at h
      rcases h with h | h
      · exact .inl (.inr (.inl h))
      · exact .inl (.inr (.inr h))
  · exact .inr (List.mem_singleton.mp h)
theorem tups3 {news led : List (Addr × Obj)} {vs vi : List Value} {xs : List M} {c : Addr} {t1 t2 t3 t4 : Tok} (hT : TupsIn news vs xs) (hT2 : TupsIn news vi [mInf, mNinf]) (hs : ∀ p ∈ news, p ∈ led) (hc : (c, oM mNan t1 t2 t3 t4) ∈ led) :
    TupsIn led (vs ++ vi ++ [.ref c]) (xs ++ [mInf, mNinf] ++ [mNan]) :=
  TupsIn.append (TupsIn.append (hT.mono fun a x t1 t2 t3 t4 h => hs _ h) (hT2.mono fun a x t1 t2 t3 t4 h => hs _ h)) (TupsIn.one hc)
theorem mem3 {h₀ h : Heap} {L : Addr} {news led : List (Addr × Obj)} {vs vi : List Value} {xs : List M} {c : Addr} {t1 t2 t3 t4 : Tok} {v : Value} (N : News h₀ L h led) (hT : TupsIn news vs xs) (hT2 : TupsIn news vi [mInf, mNinf]) (hfin : ∀ y ∈ xs, FinM y) (hv : v ∈ vs ++ vi ++ [.ref c])
    (hs : ∀ p ∈ news, p ∈ led) (hc : (c, oM mNan t1 t2 t3 t4) ∈ led) :
    ∃ (b : Addr) (sg man ex bc : Int) (u1 u2 u3 u4 : Tok), v = .ref b ∧ (NumM (sg, man, ex, bc) ∨ ((sg, man, ex, bc) : M) = (0, 0, -123, -1)) ∧ IsTup h b #[.int sg u1, .int man u2, .int ex u3, .int bc u4] := by
  obtain ⟨b, ⟨sg, man, ex, bc⟩, u1, u2, u3, u4, e, hy, hm⟩ := (tups3 hT hT2 hs hc).mem hv
  exact ⟨b, sg, man, ex, bc, u1, u2, u3, u4, e, num3 hfin hy, News.isTup N hm⟩
structure CompS (prog : Program) (w : World) (A : Around) (h₀ : Heap) (L : Addr) (x : Str) (elt : Expr) (scope : Scope) (cl : List (Str × Addr)) (env : Env) (Q : Value → Shared → Prop) (xv : Value) (s₁ : Shared) : Prop where
  out : ∃ (l : Addr) (vs : List Value) (m : Str → Option Value) (news : List (Addr × Obj)), xv = .ref l ∧ s₁.heap.IsList l vs.toArray ∧ vs.length ≤ 100 ∧ Fr h₀ L s₁.heap m ∧ News h₀ L s₁.heap news ∧
      (∀ C' v s₂ m₂ E', v ∈ vs → s₂.heap.Ns C' m₂ → m₂ x = some v → (∀ b o, s₁.heap.get? b = some o → s₂.heap.get? b = some o) → wpAny (model prog w) A (eval elt (compEnvC scope cl C' env)) (fun y s₃ => y = .bool true ∧ Keeps s₂ s₃) E' s₂) ∧
      (∀ D k h' tk, Fr h₀ L h' m → News h₀ L h' ((D, { cls := .type "list", data := .seq (List.replicate vs.length (Value.bool true)).toArray k }) :: news) → Q (.ref D) { s₁ with heap := h', toks := tk })
theorem compS {prog : Program} {w : World} {A : Around} {E : Value → Shared → Prop} {s : Shared} {h₀ : Heap} {L : Addr} {x : Str} {px pos : Pos} {iter elt : Expr} {env : Env} {Q : Value → Shared → Prop} {scope : Scope} {cl : List (Str × Addr)} {m₀ : Str → Option Value} (F₀ : Fr h₀ L s.heap m₀) (hclos : closureFor scope env = pure cl) (hcell : ∀ y ∈ scope.names, y.2 ≠ .cell) (hkind : scope.kind = .function)
    (hnames : ∀ y ∈ scope.names, y.2 = .local → scope.names.lookup y.1 = some .local) (hx : scope.names.lookup x = some .local) (hh : A.handled = none)
    (h : wpAny (model prog w) A (eval iter env) (CompS prog w A h₀ L x elt scope cl env Q) E s)
    (hs : ∀ v, foldedSetIterable iter env v = pure v) :
    wpAny (model prog w) A (eval (.ListComp elt [⟨.Name x px, iter, [], 0⟩] scope pos) env) Q E s :=
  compT F₀ hclos hcell hkind hnames hx hh (wpAny_mono h (fun _ _ c => c.out) fun _ _ e => e) hs
local macro_rules | `(tactic| walk_at "eval ListComp") => `(tactic| (k_here; refine stop_here ?_))
local macro_rules | `(tactic| walk_at "call builtin:all") => `(tactic| (k_here; k_dflt (refine allT (by with_reducible assumption) (by with_reducible assumption) (List.Mem.head _) rfl ?_); (intro h' tk' F' N'); (try k_sweep)))
theorem turn {w : World} {s : Shared} {l : Addr} (W : Rdy w s.heap) {body : List Stmt} {name : Str} {fa : Addr} {cd : Value} (hb : body = forBody (bodyOf ((hd.heap_39 w.params).lookup 193)) 5) :
    ∀ cs L C I oI R D vs k xs us kd ys a sg man ex bc t1 t2 t3 t4 h g d tk o tab oC v₀ news px, Ns193 w cs → Cel cs [(Str.ofString "s", C)] (Str.ofString "s") C →
      (a, ({ cls := .type "tuple", data := .seq #[.int sg t1, .int man t2, .int ex t3, .int bc t4] } : Obj)) ∈ news → NumM (sg, man, ex, bc) ∨ ((sg, man, ex, bc) : M) = (0, 0, -123, -1) → (∀ y ∈ xs, FinM y) → vs.length ≤ 50 →
      Run l R D vs k xs us kd ys tab news → (∃ xs, oI.data = .fields xs) → oC.data = .cell v₀ → (∀ p ∈ news, okS p.2 = true) → Fr s.heap L h (fun y => tab (idx cs y)) → News s.heap L h ((I, oI) :: (C, oC) :: news) →
      wpAny (model PySem.Challenge.pw_ah5007_01 w) (At 4) (assign (.Name (Str.ofString "s") px) (envX name cs L fa cd [(Str.ofString "s", C)]) (.ref a)) (fun _ s₂ => wpAny (model PySem.Challenge.pw_ah5007_01 w) (At 4) (execs body (envX name cs L fa cd [(Str.ofString "s", C)])) (TurnI s.heap cs L C I oI (Run l R D vs k xs us kd ys) ⟨h, g, d, tk, o⟩) (fun _ _ => False) s₂) (fun _ _ => False) ⟨h, g, d, tk, o⟩ := by
  rw [show (hd.heap_39 w.params).lookup 193 = some _ from by k_is] at hb
  dsimp only [bodyOf, fnOf, forBody, List.drop] at hb
  subst hb
  intro cs L C I oI R D vs k xs us kd ys a sg man ex bc t1 t2 t3 t4 h g d tk o tab oC v₀ news px Nn cel ha hnum hfin hvl hR hI hC hok F N
  obtain ⟨i0, i1, i2, i3, i4, i5, i6, i7, i8, i9, i10, i12, i13, g1, g2, g3, g4, g5, g6, b1, b2⟩ := Nn
  obtain ⟨KX, mean, mg, mb, T⟩ := W
  obtain ⟨⟨m0, ⟨p, tp, m2, hp, hp'⟩, rr, tr, m3, hrr⟩, ⟨m4, hRm, B, vi, kb, m10, hBm, hT, hT2⟩, hDm, hTD⟩ := id hR
  have hvi : vi.length = 2 := hT2.length
  have hIc : ∀ v, oI.data ≠ .cell v := fun v e => by obtain ⟨ys, hy⟩ := hI; rw [hy] at e; cases e
  walk_at "m fold"
  walk_at "m steps"
  unfold Stop
  refine compS (cl := [(Str.ofString "s", C)]) (by with_reducible assumption) ?a1 ?a2 ?a3 ?a4 ?a5 ?a6 ?a7 ?a8
  case a1 => with_unfolding_all rfl
  case a2 => decide
  case a3 => rfl
  case a4 => decide
  case a5 => rfl
  case a6 => rfl
  case a8 => intro _; rfl
  walk_at "m steps"
  rename ∃ xs, Obj.data _ = Data.fields xs => hI
  refine ⟨_, _, _, _, rfl, by walk_at "m lst", by simp; omega, by with_reducible assumption, by with_reducible assumption, ?_, ?_⟩
  · intro C' v s₂ m₂ E' hv hns hm hup
    rename Fr _ _ _ _ => FF
    rename News _ _ _ _ => NN
    rename _ = Data.cell (some _) => hcc
    obtain ⟨b, sg', man', ex', bc', u1, u2, u3, u4, rfl, hy, hb⟩ := mem3 NN hT hT2 hfin hv (by walk_at "m sub") (by walk_at "m mem")
    exact elem KX T (fun b o e => hup b o (FF.keep b o e)) cel ⟨_, hup _ _ (NN.get (by walk_at "m mem")), hcc⟩ rfl rfl rfl rfl hns hm (by kernel_rfl!) (by k_is) rfl
      (IsTup.keeps (News.isTup NN (by walk_at "m mem")) hup) (IsTup.keeps hb hup) hnum hy (by walk_at "m le")
  · intro D' k' h' tk' F' N'
    walk_at "m steps"
    rename _ = Data.cell (some _) => hcc
    rename Fr _ _ _ _ => FF
    rename News _ _ _ _ => NN
    refine ⟨rfl, _, _, tab, _, _, news, rfl, FF, News.sub NN ?_, hcc, hok, hR⟩
    walk_at "m sub"
end PartT1
local macro_rules | `(tactic| walk_at "m pad") => `(tactic| skip)
local macro_rules | `(tactic| walk_at "m pad") => `(tactic| skip)
local macro_rules | `(tactic| walk_at "m pad") => `(tactic| skip)
section PartT2
theorem OrdV.num {x y : M} {v : Value} (h : OrdV x y v) (hx : NumM x) (hy : NumM y) : ∃ t, v = .int (ordF x y) t := h.2 (num_nan hx) (num_nan hy)
/-- the name at place n stands for x -/
def Best (n : Nat) (x : M) (tab : Nat → Option Value) (news : List (Addr × Obj)) : Prop := ∃ p t1 t2 t3 t4, tab n = some (.ref p) ∧ (p, oM x t1 t2 t3 t4) ∈ news
theorem best4 {n : Nat} {x : M} {tab : Nat → Option Value} {news : List (Addr × Obj)} {a : Addr} {a1 a2 a3 a4 : Int} {t1 t2 t3 t4 : Tok} (h : tab n = some (.ref a)) (hm : (a, ({ cls := .type "tuple", data := .seq #[.int a1 t1, .int a2 t2, .int a3 t3, .int a4 t4] } : Obj)) ∈ news) (e : x = (a1, a2, a3, a4)) : Best n x tab news := by
  subst e; exact ⟨a, t1, t2, t3, t4, h, hm⟩
theorem Both.look {R : Addr} {vs : List Value} {k : Nat} {xs : List M} {tab tab' : Nat → Option Value} {news : List (Addr × Obj)} (h : Both R vs k xs tab news) (h4 : tab' 4 = tab 4) (h10 : tab' 10 = tab 10) : Both R vs k xs tab' news := by
  obtain ⟨m4, hR, B, vi, k2, m10, r⟩ := h
  exact ⟨h4.trans m4, hR, B, vi, k2, h10.trans m10, r⟩
theorem mn_lt {m y : M} (h : ordF y m < 0) : mnF m y = y := if_pos h
theorem mn_ge {m y : M} (h : ¬ ordF y m < 0) : mnF m y = m := if_neg h
theorem mx_gt {m y : M} (h : ordF y m > 0) : mxF m y = y := if_pos h
theorem mx_le {m y : M} (h : ¬ ordF y m > 0) : mxF m y = m := if_neg h
local macro_rules | `(tactic| walk_at "call ref") => `(tactic| (k_here; ((with_reducible show wpAny _ _ (call (Value.ref 174) _ _) _ _ _); (walk_at "m use"); (case mhc => exact order_spec (by walk_at "m rdy") (by walk_at "m le") (by walk_at "m tup") (by walk_at "m tup") (Or.inl (by with_reducible assumption)) (Or.inl (by with_reducible assumption))); (intro v' h' tk' F' N' k' hR'); (obtain ⟨tt', hv'⟩ := OrdV.num hR' (by with_reducible assumption) (by with_reducible assumption)); (subst hv'); (clear k' hR'); (try k_sweep))))
theorem turn2 {w : World} {s : Shared} (W : Rdy w s.heap) {body : List Stmt} {name : Str} {fa : Addr} {cd : Value} (hb : body = forBody (bodyOf ((hd.heap_39 w.params).lookup 193)) 7) :
    ∀ cs L C I oI R vs k xs a sg man ex bc t1 t2 t3 t4 p p1 p2 p3 p4 u1 u2 u3 u4 q q1 q2 q3 q4 v1 v2 v3 v4 h g d tk o tab oC v₀ news px, Ns193 w cs → Cel cs [(Str.ofString "s", C)] (Str.ofString "s") C →
      (a, ({ cls := .type "tuple", data := .seq #[.int sg t1, .int man t2, .int ex t3, .int bc t4] } : Obj)) ∈ news → NumM (sg, man, ex, bc) →
      tab 12 = some (.ref p) → (p, ({ cls := .type "tuple", data := .seq #[.int p1 u1, .int p2 u2, .int p3 u3, .int p4 u4] } : Obj)) ∈ news → NumM (p1, p2, p3, p4) →
      tab 13 = some (.ref q) → (q, ({ cls := .type "tuple", data := .seq #[.int q1 v1, .int q2 v2, .int q3 v3, .int q4 v4] } : Obj)) ∈ news → NumM (q1, q2, q3, q4) →
      Both R vs k xs tab news → (∃ xs, oI.data = .fields xs) → oC.data = .cell v₀ → (∀ p ∈ news, okS p.2 = true) → Fr s.heap L h (fun y => tab (idx cs y)) → News s.heap L h ((I, oI) :: (C, oC) :: news) →
      wpAny (model PySem.Challenge.pw_ah5007_01 w) (At 4) (assign (.Name (Str.ofString "s") px) (envX name cs L fa cd [(Str.ofString "s", C)]) (.ref a)) (fun _ s₂ => wpAny (model PySem.Challenge.pw_ah5007_01 w) (At 4) (execs body (envX name cs L fa cd [(Str.ofString "s", C)]))
        (TurnI s.heap cs L C I oI (fun tab news => Both R vs k xs tab news ∧ Best 12 (mnF (p1, p2, p3, p4) (sg, man, ex, bc)) tab news ∧ Best 13 (mxF (q1, q2, q3, q4) (sg, man, ex, bc)) tab news) ⟨h, g, d, tk, o⟩) (fun _ _ => False) s₂) (fun _ _ => False) ⟨h, g, d, tk, o⟩ := by
  rw [show (hd.heap_39 w.params).lookup 193 = some _ from by k_is] at hb
  dsimp only [bodyOf, fnOf, forBody, List.drop] at hb
  subst hb
  intro cs L C I oI R vs k xs a sg man ex bc t1 t2 t3 t4 p p1 p2 p3 p4 u1 u2 u3 u4 q q1 q2 q3 q4 v1 v2 v3 v4 h g d tk o tab oC v₀ news px Nn cel ha hx m12 hp hpn m13 hq hqn hB hI hC hok F N
  obtain ⟨i0, i1, i2, i3, i4, i5, i6, i7, i8, i9, i10, i12, i13, g1, g2, g3, g4, g5, g6, b1, b2⟩ := Nn
  obtain ⟨KX, mean, mg, mb, T⟩ := W
  have hIc : ∀ v, oI.data ≠ .cell v := fun v e => by obtain ⟨ys, hy⟩ := hI; rw [hy] at e; cases e
  walk_at "m fold"
  walk_at "m steps"
  all_goals (
    rename Fr _ _ _ _ => FF
    rename News _ _ _ _ => NN
    rename _ = Data.cell (some _) => hcc
    refine ⟨rfl, _, _, _, _, _, news, rfl, FF, News.sub NN (by walk_at "m sub"), hcc, hok, hB.look rfl rfl, best4 (by walk_at "m look") (by with_reducible assumption) ?_, best4 (by walk_at "m look") (by with_reducible assumption) ?_⟩)
  all_goals first
    | exact mn_lt (by assumption)
    | exact mn_ge (by assumption)
    | exact mx_gt (by assumption)
    | exact mx_le (by assumption)
end PartT2
local macro_rules | `(tactic| walk_at "m pad") => `(tactic| skip)
local macro_rules | `(tactic| walk_at "m pad") => `(tactic| skip)
section PartT3
def InL (news : List (Addr × Obj)) (a : Addr) (x : M) : Prop := ∃ t1 t2 t3 t4, (a, oM x t1 t2 t3 t4) ∈ news
theorem tups_of {news led : List (Addr × Obj)} {vs : List Value} {xs : List M} {h₀ h : Heap} {L : Addr} (T : TupsIn news vs xs) (N : News h₀ L h led) (hs : ∀ p ∈ news, p ∈ led) : Tups (InL news) h vs xs := by
  refine ⟨T.length, fun i v x hv hx => ?_⟩
  obtain ⟨a, y, t1, t2, t3, t4, rfl, hy, hm⟩ := T.at' hv
  obtain rfl : y = x := Option.some.inj (hy.symm.trans hx)
  exact ⟨a, rfl, ⟨t1, t2, t3, t4, News.isTup N (hs _ hm)⟩, t1, t2, t3, t4, hm⟩
/-- a list of the law's, its least and greatest -/
structure MM (news : List (Addr × Obj)) (vs : List Value) (xs : List M) (P Q : M) : Prop where
  T : TupsIn news vs xs
  shape : ∃ v0 vr x0 xr, vs = v0 :: vr ∧ xs = x0 :: xr ∧ vr.length ≤ 10 ∧ xr.foldl mnF x0 = P ∧ xr.foldl mxF x0 = Q
  num : ∀ y ∈ xs, NumM y
theorem useMM {w : World} {A : Around} {E : Value → Shared → Prop} {h₀ h : Heap} {L : Addr} {m : Str → Option Value} {led news : List (Addr × Obj)} {g : Array GenState} {d : Drawn} {tk : Nat} {o : OsState} {Q : Value → Shared → Prop} {R : Addr} {vs : List Value} {k : Nat} {xs : List M} {p1 p2 p3 p4 q1 q2 q3 q4 : Int}
    (W : Rdy w h) (r : Le A 33) (F : Fr h₀ L h m) (N : News h₀ L h led) (hR : (R, oL vs k) ∈ led) (hm : MM news vs xs (p1, p2, p3, p4) (q1, q2, q3, q4)) (hs : ∀ p ∈ news, p ∈ led)
    (hq : ∀ D p q t1 t2 t3 t4 u1 u2 u3 u4 h' tk, Fr h₀ L h' m → News h₀ L h' ((D, ({ cls := .type "tuple", data := .seq #[.ref p, .ref q] } : Obj)) :: led) →
      (p, ({ cls := .type "tuple", data := .seq #[.int p1 t1, .int p2 t2, .int p3 t3, .int p4 t4] } : Obj)) ∈ news → (q, ({ cls := .type "tuple", data := .seq #[.int q1 u1, .int q2 u2, .int q3 u3, .int q4 u4] } : Obj)) ∈ news → Q (.ref D) ⟨h', g, d, tk, o⟩) :
    wpAny (model PySem.Challenge.pw_ah5007_01 w) A (call (.ref 93) [.ref R]) Q E ⟨h, g, d, tk, o⟩ := by
  obtain ⟨hT, ⟨v0, vr, x0, xr, rfl, rfl, hl, e1, e2⟩, hn⟩ := hm
  cases hT with
  | @cons a0 _ t1 t2 t3 t4 _ _ hm0 hT =>
  refine use (s := ⟨h, g, d, tk, o⟩) F N (minmax_spec (G := InL news) (s := ⟨h, g, d, tk, o⟩) W r ⟨_, N.get hR, rfl, k, rfl⟩ hl (tups_of hT N hs) ⟨⟨t1, t2, t3, t4, News.isTup N (hs _ hm0)⟩, t1, t2, t3, t4, hm0⟩ (hn _ (.head _)) (fun y hy => hn y (.tail _ hy))) fun v h' tk F' N' k' hr => ?_
  obtain ⟨D, p, q, rfl, hg, hnew, ⟨-, u⟩, ⟨-, v⟩⟩ := hr
  rw [e1] at u
  rw [e2] at v
  obtain ⟨u1, u2, u3, u4, u⟩ := u
  obtain ⟨v1, v2, v3, v4, v⟩ := v
  refine hq D p q u1 u2 u3 u4 v1 v2 v3 v4 h' tk F' (fun z hz => ?_) u v
  rcases List.mem_cons.mp hz with rfl | hz
  · refine ⟨hg, fun e => ?_, ?_⟩
    · obtain ⟨oL, _, _, hL, _⟩ := F.ns
      rw [show D = L from e, hL] at hnew; cases hnew
    · cases q : h₀.get? D with
      | none => rfl
      | some o => rw [F.keep _ _ q] at hnew; cases hnew
  · exact N' z hz
section
variable {prog : Program} {w : World} {A : Around} {E : Value → Shared → Prop} {s : Shared} {Q : Value → Shared → Prop}
theorem eq_tup2 {a p q b p' q' : Addr} {p1 p2 p3 p4 q1 q2 q3 q4 : Int} {s1 s2 s3 s4 t1 t2 t3 t4 u1 u2 u3 u4 v1 v2 v3 v4 : Tok}
    (ha : IsTup s.heap a #[.ref p, .ref q]) (hb : IsTup s.heap b #[.ref p', .ref q']) (hp : IsTup s.heap p #[.int p1 s1, .int p2 s2, .int p3 s3, .int p4 s4]) (hq : IsTup s.heap q #[.int q1 t1, .int q2 t2, .int q3 t3, .int q4 t4])
    (hp' : IsTup s.heap p' #[.int p1 u1, .int p2 u2, .int p3 u3, .int p4 u4]) (hq' : IsTup s.heap q' #[.int q1 v1, .int q2 v2, .int q3 v3, .int q4 v4])
    (hu : A.units + 64 < cLine) (h : Q (.bool true) s) : wpAny (model prog w) A (compareOp .Eq (.ref a) (.ref b)) Q E s := by
  obtain ⟨oa, hoa, hca, na, hda⟩ := ha
  obtain ⟨ob, hob, hcb, nb, hdb⟩ := hb
  have ra : Reads s.heap (.ref a) (.tuple [.tuple [.int p1, .int p2, .int p3, .int p4], .tuple [.int q1, .int q2, .int q3, .int q4]]) [] :=
    reads_tuple_at hoa hca hda (.cons (reads_tup4 hp) (.cons (reads_tup4 hq) .nil))
  have rb : Reads s.heap (.ref b) (.tuple [.tuple [.int p1, .int p2, .int p3, .int p4], .tuple [.int q1, .int q2, .int q3, .int q4]]) [] :=
    reads_tuple_at hob hcb hdb (.cons (reads_tup4 hp') (.cons (reads_tup4 hq') .nil))
  refine eq_dataH ra rb (by rfl) (by rfl) hu ?_
  have e : PyData.eqv (.tuple [.tuple [.int p1, .int p2, .int p3, .int p4], .tuple [.int q1, .int q2, .int q3, .int q4]]) (.tuple [.tuple [.int p1, .int p2, .int p3, .int p4], .tuple [.int q1, .int q2, .int q3, .int q4]]) = true := by
    have h1 := eqv_tup4 p1 p2 p3 p4 p1 p2 p3 p4
    have h2 := eqv_tup4 q1 q2 q3 q4 q1 q2 q3 q4
    rw [decide_eq_true rfl] at h1 h2
    rw [PyData.eqv, PyData.eqvAll, PyData.eqvAll, PyData.eqvAll, h1, h2]
    rfl
  rw [e]; exact h
theorem idxLit {value slice : Expr} {l : Addr} {items : Array Value} {k : Int} {v : Value} {t : Tok} (hl : s.heap.IsList l items) (h0 : 0 ≤ k) (h1 : k < 2 ^ 63) (hx : items[k.toNat]? = some v) (h : Q v s)
    (hs : subscripted slice false (.ref l) (.int k t) = operate [.ref l, .int k t] (getItem (.ref l) (.int k t)) := by with_unfolding_all rfl) :
    wpAny (model prog w) A (subscriptTail value slice (.ref l) (.int k t)) Q E s := by
  refine kba_turn (value' := PySem.Expr.Name (PySem.Str.ofString "_") ⟨0, 0, 0, 0⟩) (fun _ => rfl) ?_
  exact subscriptTail_builtin hl.typeIs slot_list_getitem.lookup (wpAny_getItem_list hl h0 h1 hx h) hs fun _ => rfl
end
theorem mn_same (x : M) : mnF x x = x := by unfold mnF; split <;> rfl
theorem mx_same (x : M) : mxF x x = x := by unfold mxF; split <;> rfl
theorem mn_ninf (x : M) : mnF x mNinf = mNinf := by
  unfold mnF
  by_cases e : mNinf = x
  · split
    · rfl
    · exact e.symm
  · rw [if_pos]
    unfold ordF
    rw [if_neg e, if_neg (fun q => q.elim (fun q => absurd q (by decide)) (fun q => e q.symm)), if_pos (.inl rfl)]
    decide
theorem mx_inf (x : M) : mxF x mInf = mInf := by
  unfold mxF
  by_cases e : mInf = x
  · split
    · rfl
    · exact e.symm
  · rw [if_pos]
    unfold ordF
    rw [if_neg e, if_pos (.inl rfl)]
    decide
theorem mx_ninf : mxF mInf mNinf = mInf := by
  unfold mxF
  rw [if_neg]
  unfold ordF
  rw [if_neg (by decide), if_neg (by decide), if_pos (.inl rfl)]
  decide
theorem fold_both_mn (xs : List M) (x : M) : (xs ++ [mInf, mNinf]).foldl mnF x = mNinf := by
  rw [List.foldl_append]; exact mn_ninf _
theorem fold_both_mx (xs : List M) (x : M) : (xs ++ [mInf, mNinf]).foldl mxF x = mInf := by
  rw [List.foldl_append]
  show mxF (mxF _ mInf) mNinf = mInf
  rw [mx_inf, mx_ninf]
end PartT3
local macro_rules | `(tactic| walk_at "m pad") => `(tactic| skip)
section PartT4
local macro_rules | `(tactic| walk_at "call ref") => `(tactic| (k_here; ((with_reducible show wpAny _ _ (call (Value.ref 93) _ _) _ _ _); k_dflt (refine useMM (by walk_at "m rdy") (by walk_at "m le") (by with_reducible assumption) (by with_reducible assumption) (by walk_at "m mem") (by with_reducible assumption) (by walk_at "m sub") ?_); (intro D' p' q' t1' t2' t3' t4' u1' u2' u3' u4' h' tk' F' N' hp' hq'); (try k_sweep))))
local macro_rules | `(tactic| walk_at "compareOp Eq ref ref") => `(tactic| (k_here; (with_reducible show wpAny _ _ (compareOp CmpOp.Eq (Value.ref _) (Value.ref _)) _ _ _); k_dflt (refine' eq_tup2 ?ka ?kb ?kp ?kq ?kr ?ks ?ku ?_; (case ka => walk_at "m tup"); (case kb => walk_at "m tup"); (case kp => walk_at "m tup"); (case kq => walk_at "m tup"); (case kr => walk_at "m tup"); (case ks => walk_at "m tup"); (case ku => walk_at "m units"))))
local macro_rules | `(tactic| walk_at "subscriptTail") => `(tactic| (k_here; (with_reducible show wpAny _ _ (subscriptTail _ _ (Value.ref _) (Value.int _ _)) _ _ _); k_dflt (refine idxLit (by walk_at "m lst") (by decide) (by decide) (by rfl) ?_)))
theorem last {w : World} {s : Shared} (W : Rdy w s.heap) {body : List Stmt} {name : Str} {fa : Addr} {cd : Value} (hb : body = (bodyOf ((hd.heap_39 w.params).lookup 193)).drop 8) :
    ∀ cs L C R B vs vi k k2 xs ys p p1 p2 p3 p4 u1 u2 u3 u4 q q1 q2 q3 q4 v1 v2 v3 v4 h tk (tab : Nat → Option Value) oC v₀ news, Ns193 w cs → Cel cs [(Str.ofString "s", C)] (Str.ofString "s") C →
      tab 4 = some (.ref R) → (R, oL vs k) ∈ news → tab 10 = some (.ref B) → (B, oL (vs ++ vi) k2) ∈ news → MM news vs xs (p1, p2, p3, p4) (q1, q2, q3, q4) → MM news (vs ++ vi) ys (1, 0, -789, -3) (0, 0, -456, -2) →
      tab 12 = some (.ref p) → (p, ({ cls := .type "tuple", data := .seq #[.int p1 u1, .int p2 u2, .int p3 u3, .int p4 u4] } : Obj)) ∈ news →
      tab 13 = some (.ref q) → (q, ({ cls := .type "tuple", data := .seq #[.int q1 v1, .int q2 v2, .int q3 v3, .int q4 v4] } : Obj)) ∈ news →
      oC.data = .cell v₀ → (∀ p ∈ news, okS p.2 = true) → Fr s.heap L h (fun y => tab (idx cs y)) → News s.heap L h ((C, oC) :: news) →
      wpAny (model PySem.Challenge.pw_ah5007_01 w) (At 4) (execs body (envX name cs L fa cd [(Str.ofString "s", C)])) (fun f s' => Back s (fun v _ => f = .ret (.bool true)) .none s') (fun _ _ => False) ⟨h, s.gens, s.drawn, tk, s.os⟩ := by
  rw [show (hd.heap_39 w.params).lookup 193 = some _ from by k_is] at hb
  dsimp only [bodyOf, fnOf, List.drop] at hb
  subst hb
  intro cs L C R B vs vi k k2 xs ys p p1 p2 p3 p4 u1 u2 u3 u4 q q1 q2 q3 q4 v1 v2 v3 v4 h tk tab oC v₀ news Nn cel m4 hR m10 hB hm1 hm2 m12 hp m13 hq hC hok F N
  obtain ⟨i0, i1, i2, i3, i4, i5, i6, i7, i8, i9, i10, i12, i13, g1, g2, g3, g4, g5, g6, b1, b2⟩ := Nn
  obtain ⟨KX, mean, mg, mb, T⟩ := W
  walk_at "m fold"
  walk_at "m steps"
  exact ⟨_, _, rfl, Fr.keep (by assumption), rfl⟩
end PartT4
local macro_rules | `(tactic| walk_at "m pad") => `(tactic| skip)
local macro_rules | `(tactic| walk_at "m pad") => `(tactic| skip)
local macro_rules | `(tactic| walk_at "m pad") => `(tactic| skip)
local macro_rules | `(tactic| walk_at "m pad") => `(tactic| skip)
section PartT5
theorem idx0 {prog : Program} {w : World} {A : Around} {E : Value → Shared → Prop} {s : Shared} {Q : Value → Shared → Prop} {value slice : Expr} {l : Addr} {vs : List Value} {v : Value} {t : Tok} (hl : s.heap.IsList l (v :: vs).toArray) (h : Q v s)
    (hs : subscripted slice false (.ref l) (.int 0 t) = operate [.ref l, .int 0 t] (getItem (.ref l) (.int 0 t)) := by with_unfolding_all rfl) :
    wpAny (model prog w) A (subscriptTail value slice (.ref l) (.int 0 t)) Q E s :=
  idxLit hl (by decide) (by decide) (by rfl) h hs
local macro_rules | `(tactic| walk_at "subscriptTail") => `(tactic| (k_here; (with_reducible show wpAny _ _ (subscriptTail _ _ (Value.ref _) (Value.int 0 _)) _ _ _); k_dflt (refine idx0 (by walk_at "m lst") ?_)))
theorem core3 {w : World} {s : Shared} (W : Rdy w s.heap) {body : List Stmt} {name : Str} {fa : Addr} {cd : Value} (hb : body = (bodyOf ((hd.heap_39 w.params).lookup 193)).drop 6) :
    ∀ cs L C h tk tab oC v₀ news R vs k xs, Ns193 w cs → Cel cs [(Str.ofString "s", C)] (Str.ofString "s") C → Fr s.heap L h (fun y => tab (idx cs y)) → News s.heap L h ((C, oC) :: news) → oC.data = .cell v₀ → (∀ p ∈ news, okS p.2 = true) →
      Both R vs k xs tab news → vs ≠ [] → vs.length ≤ 4 → (∀ y ∈ xs, FinM y) →
      wpAny (model PySem.Challenge.pw_ah5007_01 w) (At 4) (execs body (envX name cs L fa cd [(Str.ofString "s", C)])) (fun f s' => Back s (fun v _ => f = .ret (.bool true)) .none s') (fun _ _ => False) ⟨h, s.gens, s.drawn, tk, s.os⟩ := by
  rw [show (hd.heap_39 w.params).lookup 193 = some _ from by k_is] at hb
  dsimp only [bodyOf, fnOf, List.drop] at hb
  subst hb
  intro cs L C h tk tab oC v₀ news R vs k xs Nn cel F N hC hok hB hne hl hfin
  have NN := Nn
  obtain ⟨i0, i1, i2, i3, i4, i5, i6, i7, i8, i9, i10, i12, i13, g1, g2, g3, g4, g5, g6, b1, b2⟩ := Nn
  obtain ⟨KX, mean, mg, mb, T⟩ := W
  obtain ⟨a0, x0, vr, xr, t1, t2, t3, t4, rfl, rfl, hm0⟩ : ∃ a0 x0 vr xr t1 t2 t3 t4, vs = Value.ref a0 :: vr ∧ xs = x0 :: xr ∧ (a0, oM x0 t1 t2 t3 t4) ∈ news := by
    obtain ⟨-, -, B, vi, k2, -, -, hT, -⟩ := hB
    cases hT with
    | nil => exact (hne rfl).elim
    | cons hm0 hTr => exact ⟨_, _, _, _, _, _, _, _, rfl, rfl, hm0⟩
  refine seq_at 1 (StL s cs L C fun tab news => Both R (Value.ref a0 :: vr) k (x0 :: xr) tab news ∧ Best 12 x0 tab news ∧ Best 13 x0 tab news) ?_ ?_
  · obtain ⟨m4, hRm, B, vi, k2, m10, hBm, hT, hT2⟩ := id hB
    walk_at "m fold"
    walk_at "m steps"
    rename Fr _ _ _ _ => FF
    rename News _ _ _ _ => N2
    exact StL.intro news FF N2 hC (by walk_at "m sub") hok ⟨hB.look rfl rfl, ⟨a0, t1, t2, t3, t4, by walk_at "m look", hm0⟩, ⟨a0, t1, t2, t3, t4, by walk_at "m look", hm0⟩⟩
  rintro s1 ⟨h1, tk1, tab1, oC1, v1, news1, rfl, F1, N1, hC1, hok1, hB1, hp1, hq1⟩
  clear F N hC hok hB hm0
  dsimp only [List.drop]
  refine seq_at 1 (StL s cs L C fun tab news => Both R (Value.ref a0 :: vr) k (x0 :: xr) tab news ∧ Best 12 (xr.foldl mnF x0) tab news ∧ Best 13 (xr.foldl mxF x0) tab news) ?_ ?_
  · dsimp only [List.take]
    obtain ⟨m4, hRm, B, vi, k2, m10, hBm, hT, hT2⟩ := id hB1
    refine wpAny_execs_cons (forI (h₀ := s.heap) (cs := cs) (L := L) (C := C) ?_ (by intro _; rfl) PassesOwn.never)
    walk_at "m fold"
    walk_at "m steps"
    refine listK (l := R) (vs := Value.ref a0 :: vr) (k := k) (fun i tab news => Both R (Value.ref a0 :: vr) k (x0 :: xr) tab news ∧ Best 12 (((x0 :: xr).take i).foldl mnF x0) tab news ∧ Best 13 (((x0 :: xr).take i).foldl mxF x0) tab news)
      (by with_reducible assumption) (by with_reducible assumption) hC1 hok1 rfl hRm ⟨hB1, hp1, hq1⟩ (fun _ _ _ hj => hj.1.2.1) ?_ ?_
    · rintro i v I oI tab oC v₀ news h g d tk o hv ⟨hB, ⟨p, u1, u2, u3, u4, m12, hp⟩, ⟨q, v1, v2, v3, v4, m13, hq⟩⟩ hI hC hok F N
      obtain ⟨-, -, -, -, -, -, -, hT', -⟩ := id hB
      obtain ⟨a, y, t1, t2, t3, t4, rfl, hy, hm⟩ := hT'.at' hv
      have hnum : ∀ y ∈ x0 :: xr, NumM y := fun y hy => .inl (hfin y hy)
      have hpn : NumM (((x0 :: xr).take i).foldl mnF x0) := fold_num (fun _ _ => mn_num) (hnum _ (.head _)) fun z hz => hnum z (List.mem_of_mem_take hz)
      have hqn : NumM (((x0 :: xr).take i).foldl mxF x0) := fold_num (fun _ _ => mx_num) (hnum _ (.head _)) fun z hz => hnum z (List.mem_of_mem_take hz)
      have hyn : NumM y := hnum y (List.mem_of_getElem? hy)
      rw [show (fun (tab : Nat → Option Value) (news : List (Addr × Obj)) => Both R (Value.ref a0 :: vr) k (x0 :: xr) tab news ∧ Best 12 (((x0 :: xr).take (i + 1)).foldl mnF x0) tab news ∧ Best 13 (((x0 :: xr).take (i + 1)).foldl mxF x0) tab news) =
        fun tab news => Both R (Value.ref a0 :: vr) k (x0 :: xr) tab news ∧ Best 12 (mnF (((x0 :: xr).take i).foldl mnF x0) y) tab news ∧ Best 13 (mxF (((x0 :: xr).take i).foldl mxF x0) y) tab news from by rw [fold_take hy, fold_take hy]]
      generalize ((x0 :: xr).take i).foldl mnF x0 = P at *
      generalize ((x0 :: xr).take i).foldl mxF x0 = X at *
      obtain ⟨p1, p2, p3, p4⟩ := P
      obtain ⟨q1, q2, q3, q4⟩ := X
      obtain ⟨y1, y2, y3, y4⟩ := y
      exact turn2 ⟨KX, mean, mg, mb, T⟩ (by rw [show (hd.heap_39 w.params).lookup 193 = some _ from by k_is]; rfl) cs L C I oI R _ k _ a y1 y2 y3 y4 t1 t2 t3 t4 p p1 p2 p3 p4 u1 u2 u3 u4 q q1 q2 q3 q4 v1 v2 v3 v4 h g d tk o tab oC v₀ news _ NN cel hm hyn m12 hp hpn m13 hq hqn hB hI hC hok F N
    · rintro h tk tab' oC v₀ news F' N' hC' hok' ⟨hB, hp, hq⟩
      refine wpAny_execs_nil ⟨rfl, h, tk, tab', oC, v₀, news, rfl, F', N', hC', hok', hB, ?_⟩
      rw [hT.length, List.take_length, List.foldl_cons, mn_same] at hp
      rw [hT.length, List.take_length, List.foldl_cons, mx_same] at hq
      exact ⟨hp, hq⟩
  rintro s2 ⟨h2, tk2, tab2, oC2, v2, news2, rfl, F2, N2, hC2, hok2, hB2, ⟨p, u1, u2, u3, u4, m12, hp⟩, ⟨q, v1, v2, v3, v4, m13, hq⟩⟩
  dsimp only [List.drop]
  have hnum : ∀ y ∈ x0 :: xr, NumM y := fun y hy => .inl (hfin y hy)
  obtain ⟨m4, hRm, B, vi, k2, m10, hBm, hT, hT2⟩ := hB2
  have hM1 : MM news2 (Value.ref a0 :: vr) (x0 :: xr) (xr.foldl mnF x0) (xr.foldl mxF x0) := ⟨hT, ⟨_, _, _, _, rfl, rfl, by simp at hl; omega, rfl, rfl⟩, hnum⟩
  have hM2 : MM news2 ((Value.ref a0 :: vr) ++ vi) ((x0 :: xr) ++ [mInf, mNinf]) mNinf mInf := by
    have hvi : vi.length = 2 := hT2.length
    refine ⟨TupsIn.append hT hT2, ⟨_, _, _, _, rfl, rfl, by simp at hl ⊢; omega, fold_both_mn _ _, fold_both_mx _ _⟩, fun y hy => ?_⟩
    rcases List.mem_append.mp hy with h | h
    · exact hnum y h
    · simp only [List.mem_cons, List.not_mem_nil, or_false] at h
      exact .inr h
  generalize xr.foldl mnF x0 = P at *
  generalize xr.foldl mxF x0 = X at *
  obtain ⟨p1, p2, p3, p4⟩ := P
  obtain ⟨q1, q2, q3, q4⟩ := X
  exact last ⟨KX, mean, mg, mb, T⟩ (by rw [show (hd.heap_39 w.params).lookup 193 = some _ from by k_is]; rfl) cs L C R B _ vi k k2 _ _ p p1 p2 p3 p4 u1 u2 u3 u4 q q1 q2 q3 q4 v1 _ v3 v4 h2 tk2 tab2 oC2 _ news2 NN cel m4 hRm m10 hBm hM1 hM2 m12 hp m13 hq hC2 hok2 F2 N2
end PartT5
local macro_rules | `(tactic| walk_at "m pad") => `(tactic| skip)
local macro_rules | `(tactic| walk_at "m pad") => `(tactic| skip)
section PartS19
theorem core2 {w : World} {s : Shared} {l : Addr} (W : Rdy w s.heap) {body : List Stmt} {name : Str} {fa : Addr} {cd : Value} (hb : body = (bodyOf ((hd.heap_39 w.params).lookup 193)).drop 4) :
    ∀ cs L C h tk tab oC v₀ news, Ns193 w cs → Cel cs [(Str.ofString "s", C)] (Str.ofString "s") C → Fr s.heap L h (fun y => tab (idx cs y)) → News s.heap L h ((C, oC) :: news) → oC.data = .cell v₀ → (∀ p ∈ news, okS p.2 = true) → Menu l tab → Rows 3 tab news →
      wpAny (model PySem.Challenge.pw_ah5007_01 w) (At 4) (execs body (envX name cs L fa cd [(Str.ofString "s", C)])) (fun f s' => Back s (fun v _ => f = .ret (.bool true)) .none s') (fun _ _ => False) ⟨h, s.gens, s.drawn, tk, s.os⟩ := by
  rw [show (hd.heap_39 w.params).lookup 193 = some _ from by k_is] at hb
  dsimp only [bodyOf, fnOf, List.drop] at hb
  subst hb
  intro cs L C h tk tab oC v₀ news Nn cel F N hC hok hM hR
  have NN := Nn
  obtain ⟨i0, i1, i2, i3, i4, i5, i6, i7, i8, i9, i10, i12, i13, g1, g2, g3, g4, g5, g6, b1, b2⟩ := Nn
  obtain ⟨KX, mean, mg, mb, T⟩ := W
  obtain ⟨m0, ⟨p, tp, m2, hp, hp'⟩, rr, tr, m3, hrr⟩ := hM
  obtain ⟨R, vs, k, xs, m4, hRm, hT, hne, hl', hx⟩ := hR
  have hvl : vs.length ≤ 50 := by omega
  refine seq_at 1 (StL s cs L C fun tab news => Menu l tab ∧ Both R vs k xs tab news) ?_ ?_
  · walk_at "m fold"
    walk_at "m steps"
    refine StL.led (by assumption) (by assumption) hC (by walk_at "m mem") ?_
    exact ⟨menu0 (by walk_at "m look") (by walk_at "m look") (by walk_at "m look") hrr hp hp', both_of (by walk_at "m look") hRm (by walk_at "m look") (List.Mem.head _) hT (by walk_at "m mem") (by walk_at "m mem") (by walk_at "m sub")⟩
  rintro s1 ⟨h1, tk1, tab1, oC1, v1, news1, rfl, F1, N1, hC1, hok1, hM1, hB1⟩
  clear F N hC hok m0 m2 m3 m4 hRm hT
  dsimp only [List.drop]
  refine seq_at 1 (StL s cs L C fun tab news => Menu l tab ∧ Both R vs k xs tab news) ?_ ?_
  · dsimp only [List.take]
    obtain ⟨m0, ⟨p, tp, m2, hp, hp'⟩, rr, tr, m3, hrr⟩ := id hM1
    obtain ⟨m4, hRm, B, vi, k2, m10, hBm, hT, hT2⟩ := id hB1
    have hvi : vi.length = 2 := hT2.length
    refine wpAny_execs_cons (forI (h₀ := s.heap) (cs := cs) (L := L) (C := C) ?_ (by intro _; rfl) PassesOwn.never)
    walk_at "m fold"
    walk_at "m steps"
    have hfin : ∀ y ∈ xs, FinM y := fun y hy => (hx y hy).fin
    refine main_loop (by with_reducible assumption) (by with_reducible assumption) hC1 (by walk_at "m mem") rfl hM1 hB1 (by walk_at "m sub") (List.Mem.head _)
      (TupsIn.append (TupsIn.append (hT.mono fun a x t1 t2 t3 t4 h => ?_) (hT2.mono fun a x t1 t2 t3 t4 h => ?_)) (TupsIn.one (x := mNan) (by walk_at "m mem"))) ?_ ?_
    · revert h; exact (show ∀ p ∈ news1, _ from by walk_at "m sub") _
    · revert h; exact (show ∀ p ∈ news1, _ from by walk_at "m sub") _
    · intro a x' t1 t2 t3 t4 I oI tab oC v₀ news h g d tk o hx' ha hR hI hC hok F N
      obtain ⟨sg, man, ex, bc⟩ := x'
      exact turn ⟨KX, mean, mg, mb, T⟩ (by rw [show (hd.heap_39 w.params).lookup 193 = some _ from by k_is]; rfl) cs L C I oI R _ vs k xs _ _ _ a sg man ex bc t1 t2 t3 t4 h g d tk o tab oC v₀ news _ NN cel ha (num3 hfin hx') hfin hvl hR hI hC hok F N
    · rintro h tk tab' oC v₀ news F' N' hC' hok' ⟨hM, hB, -, -⟩
      exact wpAny_execs_nil ⟨rfl, h, tk, tab', oC, v₀, news, rfl, F', N', hC', hok', hM, hB⟩
  rintro s2 ⟨h2, tk2, tab2, oC2, v2, news2, rfl, F2, N2, hC2, hok2, hM2, hB2⟩
  clear F1 N1 hC1 hok1 hM1 hB1
  dsimp only [List.drop]
  exact core3 ⟨KX, mean, mg, mb, T⟩ (by rw [show (hd.heap_39 w.params).lookup 193 = some _ from by k_is]; rfl) cs L C h2 tk2 tab2 oC2 v2 news2 R vs k xs NN cel F2 N2 hC2 hok2 hB2 hne hl' (fun y hy => (hx y hy).fin)
end PartS19
local macro_rules | `(tactic| walk_at "m pad") => `(tactic| skip)
section PartS16
theorem set_tab' {cs : Scope} {x : Str} {k : Nat} {v : Value} {tab : Nat → Option Value} (hb : Loc cs x k) : (fun y => if y = x then some v else tab (idx cs y)) = fun y => setT tab k v (idx cs y) := by
  funext y
  unfold setT
  by_cases q : y = x
  · rw [if_pos q, if_pos (by rw [q]; exact hb.parts.2.1)]
  · rw [if_neg q, if_neg (fun r => q (idx_inj (by rw [hb.parts.2.1]; exact hb.parts.2.2) (r.trans hb.parts.2.1.symm)))]
theorem glue {w : World} {s : Shared} {A : Around} {L : Addr} {h₁ : Heap} {tk : Nat} {name : Str} {scope : Scope} {fa : Addr} {cd : Value} {body : List Stmt} {qk : Flow → Shared → Prop} {ek : Value → Shared → Prop} {m : Str → Option Value} {oC : Obj} {l : Addr}
    (r : Le A 4) (hN : Ns193 w scope) (hfn : scope.kind = .function) (hcl : scope.names.lookup (Str.ofString "s") = some .cell) (hc : cellsFrom (L + 1) scope.names [] = [(Str.ofString "s", L + 1)])
    (F : Fr s.heap L h₁ m) (hm : m = fun y => if y = Str.ofString "script" then some (.ref l) else none) (N : News s.heap L h₁ [(L + 1, oC)]) (hC : oC.data = .cell none)
    (hq : ∀ h tk, (∀ b o, s.heap.get? b = some o → h.get? b = some o) → qk (.ret (.bool true)) ⟨h, s.gens, s.drawn, tk, s.os⟩)
    (h : ∀ cs L C h₁ tk oC, Ns193 w cs → Cel cs [(Str.ofString "s", C)] (Str.ofString "s") C → Fr s.heap L h₁ (fun y => setT (fun _ => none) 0 (.ref l) (idx cs y)) → News s.heap L h₁ [(C, oC)] → oC.data = .cell none →
      wpAny (model PySem.Challenge.pw_ah5007_01 w) (At 4) (execs body (envX name cs L fa cd [(Str.ofString "s", C)])) (fun f s' => Back s (fun v _ => f = .ret (.bool true)) .none s') (fun _ _ => False) ⟨h₁, s.gens, s.drawn, tk, s.os⟩) :
    wpAny (model PySem.Challenge.pw_ah5007_01 w) A (execs body (envOfC name scope L fa cd)) qk ek { s with heap := h₁, toks := tk } := by
  have F' : Fr s.heap L h₁ (fun y => setT (fun _ => none) 0 (.ref l) (idx scope y)) := by
    rw [← set_tab' hN.1]; exact hm ▸ F
  have hh := h scope L (L + 1) h₁ tk oC hN ⟨hfn, hcl, by simp⟩ F' N hC
  have e : envOfC name scope L fa cd = envX name scope L fa cd [(Str.ofString "s", L + 1)] := by unfold envOfC envX; rw [hc]
  rw [e]
  refine wpAny_mono (r.run hh) (fun f s' hb => ?_) fun _ _ x => x.elim
  obtain ⟨h', tk', rfl, k, rfl⟩ := hb
  exact hq h' tk' k

theorem core {w : World} {s : Shared} {l : Addr} {vs : List Value} {ns : List Int} (W : Rdy w s.heap) (hl : s.heap.IsList l vs.toArray) (hi : IntsAre vs ns) (hlen : ns.length ≤ 63) {body : List Stmt} {name : Str} {fa : Addr} {cd : Value}
    (hb : body = bodyOf ((hd.heap_39 w.params).lookup 193)) :
    ∀ cs L C h₁ tk oC, Ns193 w cs → Cel cs [(Str.ofString "s", C)] (Str.ofString "s") C → Fr s.heap L h₁ (fun y => setT (fun _ => none) 0 (.ref l) (idx cs y)) → News s.heap L h₁ [(C, oC)] → oC.data = .cell none →
      wpAny (model PySem.Challenge.pw_ah5007_01 w) (At 4) (execs body (envX name cs L fa cd [(Str.ofString "s", C)])) (fun f s' => Back s (fun v _ => f = .ret (.bool true)) .none s') (fun _ _ => False) ⟨h₁, s.gens, s.drawn, tk, s.os⟩ := by
  rw [show (hd.heap_39 w.params).lookup 193 = some _ from by k_is] at hb
  dsimp only [bodyOf, fnOf] at hb
  subst hb
  intro cs L C h₁ tk oC Nn cel F N hC
  obtain ⟨i0, i1, i2, i3, i4, i5, i6, i7, i8, i9, i10, i12, i13, g1, g2, g3, g4, g5, g6, b1, b2⟩ := Nn
  obtain ⟨KX, mean, mg, mb, T⟩ := W
  refine seq_at 3 (StL s cs L C fun tab news => (∃ f t, tab 1 = some (.int f t)) ∧ Menu l tab ∧ Rows 0 tab news) ?_ ?_
  · walk_at "m fold"
    walk_at "m steps"
    obtain ⟨p1, p2, p3, p4⟩ := (by assumption : FinM _ ∧ _)
    refine StL.led (by assumption) (by assumption) hC (by walk_at "m mem") ?_
    exact ⟨⟨_, _, rfl⟩, menu0 rfl rfl rfl (by assumption) menu_num.1 menu_num.2, rows0 rfl (List.Mem.head _) (List.Mem.tail _ (List.Mem.head _)) (FinB.raw p1 p2 p3 p4)⟩
  rintro s1 ⟨h1, tk1, tab1, oC1, v1, news1, rfl, F1, N1, hC1, hok1, ⟨f, tf, hf⟩, hM1, hR1⟩
  clear F N hC
  dsimp only [List.drop]
  obtain ⟨n, hn, hn3⟩ : ∃ n : Nat, (f.fdiv 300).fmod 4 = n ∧ n ≤ 3 := by
    have h1 := Int.fmod_nonneg_of_pos (f.fdiv 300) (show (0 : Int) < 4 by decide)
    have h2 := Int.fmod_lt_of_pos (f.fdiv 300) (show (0 : Int) < 4 by decide)
    exact ⟨((f.fdiv 300).fmod 4).toNat, by omega, by omega⟩
  refine seq_at 1 (StL s cs L C fun tab news => Menu l tab ∧ Rows 3 tab news) ?_ ?_
  · dsimp only [List.take]
    refine wpAny_execs_cons (forI (h₀ := s.heap) (cs := cs) (L := L) (C := C) ?_ (by intro _; rfl) PassesOwn.never)
    walk_at "m fold"
    walk_at "m steps"
    rename IsRange _ _ _ _ _ _ _ _ => hr1
    rw [hn] at hr1
    refine rangeK (fun i tab news => Menu l tab ∧ Rows i tab news) (by assumption) (by assumption) hC1 hok1 rfl hr1 hn3 ⟨hM1, hR1⟩ ?_ ?_
    · rintro i t I oI tab oC v₀ news h g d tk o hi ⟨⟨m0, ⟨p, tp, m2, hp, hp'⟩, rr, tr, m3, hrr⟩, R, vs', k, xs, m4, hR, hT, hne, hl', hx⟩ hI hC2 hok2 F2 N2
      obtain ⟨vi, a, x, t1, t2, t3, t4, rfl, hxx, ha⟩ := hT.last hne
      obtain ⟨sg, man, ex, bc⟩ := x
      have hxb := hx _ hxx
      have ha : (a, ({ cls := .type "tuple", data := .seq #[.int sg t1, .int man t2, .int ex t3, .int bc t4] } : Obj)) ∈ news := ha
      have hvi : vi.length ≤ 50 := by simp at hl'; omega
      have hmul : IntMulOk 4 man := IntMulOk.of_le (show intBits 4 ≤ 3 by decide) hxb.fin.worthy.2.2 (by decide)
      walk_at "m fold"
      walk_at "m steps"
      all_goals (refine rows_end4 (l := l) (tk' := 0) (by with_reducible assumption) (by with_reducible assumption) (by with_reducible assumption) (by walk_at "m mem") hI (by walk_at "m mem") hC2 (menu0 (by walk_at "m look") (by walk_at "m look") (by walk_at "m look") hrr hp hp') (by walk_at "m look") (by walk_at "m sub") hT hl' hx (by walk_at "m mem") ?_)
      all_goals first
        | exact fin_flip hxb (by assumption)
        | exact fin_beside (by omega) hxb (by assumption) (by assumption)
        | (obtain ⟨p1, p2, p3, p4⟩ := (by assumption : FinM _ ∧ _); exact FinB.raw p1 p2 p3 p4)
    · rintro h tk tab' oC v₀ news F' N' hC' hok' ⟨hM, hR⟩
      refine wpAny_execs_nil ⟨rfl, h, tk, tab', oC, v₀, news, rfl, F', N', hC', hok', hM, ?_⟩
      obtain ⟨R, vs', k, xs, m4, hR, hT, hne, hl', hx⟩ := hR
      exact ⟨R, vs', k, xs, m4, hR, hT, hne, by omega, fun x hxm => (hx x hxm).up hn3⟩
  rintro s2 ⟨h2, tk2, tab2, oC2, v2, news2, rfl, F2, N2, hC2, hok2, hM2, hR2⟩
  exact core2 ⟨KX, mean, mg, mb, T⟩ (by rw [show (hd.heap_39 w.params).lookup 193 = some _ from by k_is]; rfl) cs L C h2 tk2 tab2 oC2 v2 news2 ⟨i0, i1, i2, i3, i4, i5, i6, i7, i8, i9, i10, i12, i13, g1, g2, g3, g4, g5, g6, b1, b2⟩ cel F2 N2 hC2 hok2 hM2 hR2
end PartS16
end Law
local macro_rules | `(tactic| walk_at "m pad") => `(tactic| skip)
local macro_rules | `(tactic| walk_at "m pad") => `(tactic| skip)
local macro_rules | `(tactic| walk_at "m pad") => `(tactic| skip)
local macro_rules | `(tactic| walk_at "m pad") => `(tactic| skip)
local macro_rules | `(tactic| walk_at "m pad") => `(tactic| skip)
local macro_rules | `(tactic| walk_at "m pad") => `(tactic| skip)
local macro_rules | `(tactic| walk_at "m pad") => `(tactic| skip)
local macro_rules | `(tactic| walk_at "m pad") => `(tactic| skip)
local macro_rules | `(tactic| walk_at "m pad") => `(tactic| skip)
local macro_rules | `(tactic| walk_at "m pad") => `(tactic| skip)
local macro_rules | `(tactic| walk_at "m pad") => `(tactic| skip)
local macro_rules | `(tactic| walk_at "m pad") => `(tactic| skip)
local macro_rules | `(tactic| walk_at "m pad") => `(tactic| skip)
local macro_rules | `(tactic| walk_at "m pad") => `(tactic| skip)
local macro_rules | `(tactic| walk_at "m pad") => `(tactic| skip)
local macro_rules | `(tactic| walk_at "m pad") => `(tactic| skip)
local macro_rules | `(tactic| walk_at "m pad") => `(tactic| skip)
local macro_rules | `(tactic| walk_at "m pad") => `(tactic| skip)
local macro_rules | `(tactic| walk_at "m pad") => `(tactic| skip)
local macro_rules | `(tactic| walk_at "m pad") => `(tactic| skip)
local macro_rules | `(tactic| walk_at "m pad") => `(tactic| skip)
local macro_rules | `(tactic| walk_at "m pad") => `(tactic| skip)
local macro_rules | `(tactic| walk_at "m pad") => `(tactic| skip)
local macro_rules | `(tactic| walk_at "m pad") => `(tactic| skip)
local macro_rules | `(tactic| walk_at "m pad") => `(tactic| skip)
local macro_rules | `(tactic| walk_at "m pad") => `(tactic| skip)
local macro_rules | `(tactic| walk_at "m pad") => `(tactic| skip)
local macro_rules | `(tactic| walk_at "m pad") => `(tactic| skip)
local macro_rules | `(tactic| walk_at "m pad") => `(tactic| skip)
local macro_rules | `(tactic| walk_at "m pad") => `(tactic| skip)
local macro_rules | `(tactic| walk_at "m pad") => `(tactic| skip)
local macro_rules | `(tactic| walk_at "m pad") => `(tactic| skip)
local macro_rules | `(tactic| walk_at "m pad") => `(tactic| skip)
local macro_rules | `(tactic| walk_at "m pad") => `(tactic| skip)
section PartS18
theorem the_law : PySem.Challenge.rw_ah5007_01.Holds := by
  refine Mine.hd ?_
  k_go0
  rename World => w
  rename News _ _ _ _ => N0
  rename Fr _ _ _ _ => F0
  rename IntsAre _ _ => hI0
  rename Heap.IsList _ _ _ => hL0
  rename Top _ _ _ _ _ _ => T0
  rename Frag.In _ _ => K0
  refine glue (l := ?l) ?r ?hN rfl rfl rfl F0 ?hm N0 ?hC ?hq ?h
  case r => exact Le.deeper (k := 3) ⟨rfl, by decide, by decide⟩ _
  case hN => walk_at "m names"
  case hm => with_unfolding_all rfl
  case hC =>
    rename _ = Data.cell _ => hc0
    exact hc0.trans (by with_unfolding_all rfl)
  case hq =>
    intro h tk k
    show GoodW _ _ _ _ _ _ _
    refine ⟨.inl ⟨_, _, [], rfl, fun _ => ?_, .bool true, ?_, unshared_nil⟩, k, rfl, by assumption⟩
    · rfl
    · wrow_post
  case h =>
    rename ¬ (_ : Int) < _ => hlen
    exact core ⟨K0, _, _, _, T0⟩ hL0 hI0 (by omega) (by rw [show (hd.heap_39 w.params).lookup 193 = some _ from by k_is]; rfl)
end PartS18
end Mine
theorem PySem.Challenge.cw_ah5007_01_holds : PySem.Challenge.rw_ah5007_01.Holds :=
  Mine.the_law
